/-
FnFarRanges, walked.
-/
import Derived.Test.YthnbkoohehnblaaWalkK
import Derived.Test.YthnbkoohehnblaaHx
import Derived.Test.YthnbkoohehnblaaPl5
namespace Go.Proofs.Ythnbkoohehnblaa
open Go.RowKit

theorem under_sl : Try.prog.underlying 25 = some (.slice 22) := by kernel_rfl
theorem size_fl : ∀ w, (sizeOf 22).run Try.prog w = .ok 1 w := fun w => by kernel_rfl
theorem zero_fl : ∀ w, (zeroValue 22).run Try.prog w = .ok (.float .f64 0) w := fun w => by kernel_rfl
theorem agg_fl : ∀ w, (isAgg 22).run Try.prog w = .ok false w := fun w => by simp [isAgg, run_underlying Try.underlying22]
theorem kn_boolne (p q : Bool) (x y : Operand) (w : World) : (eqGuard .neq 4 x y (.bool p) (.bool q)).run Try.prog w = .ok () w ∧ (binOp .neq 4 (.bool p) (.bool q)).run Try.prog w = .ok (.bool (p != q)) w := by
  constructor
  · simp [go_sem]
  · cases p <;> cases q <;> simp [go_sem, Try.underlying4]
theorem g_boolne {n : Nat} {l : List (Nat × Value)} {w : World} {dst : Nat} {ty : TypeId} {pos : String} {aft : Array Edge} {t' : TypeId} {x y : Operand} {p q : Bool} (hx : evl l x = some (.bool p)) (hy : evl l y = some (.bool q)) :
    Gives Try.prog n l ⟨some dst, .binOp .neq 4 x y t', ty, pos, aft, none⟩ w (.bool (p != q)) := by
  intro a ha
  unfold execOp
  simp only [ha.eval hx, ha.eval hy, Sem.run_bind, (kn_boolne p q x y w).1, (kn_boolne p q x y w).2, Result.andThen_ok, Sem.run_pure]
theorem ld0 {w0 wA w : World} {b : Nat} {v0 v1 : Value} (hA : St w0 wA ∧ wA.cell? ⟨b, 0, none⟩ = some v0 ∧ wA.cell? ⟨b, 1, none⟩ = some v1 ∧ b < wA.heap.size) (h : St wA w) : w.cell? (Addr.add ⟨b, 0, none⟩ 0) = some v0 :=
  (h.cell b 0 hA.2.2.2).trans hA.2.1
theorem ld1 {w0 wA w : World} {b : Nat} {v0 v1 : Value} (hA : St w0 wA ∧ wA.cell? ⟨b, 0, none⟩ = some v0 ∧ wA.cell? ⟨b, 1, none⟩ = some v1 ∧ b < wA.heap.size) (h : St wA w) : w.cell? (Addr.add ⟨b, 0, none⟩ 1) = some v1 :=
  (h.cell b 1 hA.2.2.2).trans hA.2.2.1

theorem en_isnan : Enters Try.prog 10 := enters_of Try.func10 (by kernel_rfl) (by kernel_rfl)

theorem en_asinh : Enters Try.prog 11 := enters_of Try.func11 (by kernel_rfl) (by kernel_rfl)

theorem en_atanh : Enters Try.prog 12 := enters_of Try.func12 (by kernel_rfl) (by kernel_rfl)

theorem en_minus : Enters Try.prog 13 := enters_of Try.func13 (by kernel_rfl) (by kernel_rfl)

theorem en_acosh : Enters Try.prog 14 := enters_of Try.func14 (by kernel_rfl) (by kernel_rfl)

set_option maxRecDepth 100000 in
set_option maxHeartbeats 4000000 in
theorem c_fr_nan (x0 e0 : Nat) (h0 : E x0 e0) (hn : isNanF e0 = true) (w0 w : World) (hs : St w0 w) : Calls Try.prog 3 #[.float .f64 x0] w (RB true w0) := by
  refine calls_hw (n := _) (l := [(0, .float .f64 x0)]) Try.func3 rfl Try.ntmps3 (by simp) (by intro i v h; rcases i with _ | _ | _ | i <;> simp_all [List.lookup]) ?_
  repeat' (first | (refine hl_move (by decide) rfl ?_) | (refine hl_assign (by decide) rfl ?_) | (refine hl_fop rfl (by decide) rfl rfl (by first | with_reducible assumption | exact E.refl _) (by first | with_reducible assumption | exact E.refl _) (by with_reducible assumption) ?_; intro r w' e' he hr hs) | (refine hl_fcmp rfl (by decide) rfl rfl (by first | with_reducible assumption | exact E.refl _) (by first | with_reducible assumption | exact E.refl _) (fun hb => ?_) (fun hb => ?_) <;> (try first | exact Bool.noConfusion ((hb.symm.trans (by with_reducible assumption)) : true = false) | exact Bool.noConfusion ((hb.symm.trans (by with_reducible assumption)) : false = true))) | (refine hl_val (by decide) (g_len su rfl) ?_) | (refine hl_build2 (by decide) su sz z0 rfl rfl (by with_reducible assumption) ?_; intro b wA hA hsA) | (refine hl_val (by decide) (g_index_slice (i := 0) su sz rfl rfl (by decide)) ?_) | (refine hl_val (by decide) (g_index_slice (i := 1) su sz rfl rfl (by decide)) ?_) | (refine hl_val (by decide) (g_load ag rfl (ld0 hA (by with_reducible assumption))) ?_) | (refine hl_val (by decide) (g_load ag rfl (ld1 hA (by with_reducible assumption))) ?_) | (refine hl_val (by decide) (g_boolne rfl rfl) ?_) | (refine hl_known (by decide) rfl rfl (kn_cmp_lss _ _ _ _ rfl) ?_) | (refine hl_known (by decide) rfl rfl (kn_add_i64 _ _ (by decide) (by decide)) ?_) | (refine hl_pass_u (by decide) rfl rfl ?_) | (refine hw_loop 3 ?_) | (refine hr_succ (fun K hK => ?_)) | (refine hq_thenR (by with_reducible assumption) ?_) | (refine hl_fneg (by decide) rfl (by first | with_reducible assumption | exact E.refl _) ?_; intro r e' he hr) | (refine hl_run rfl ?_) | (refine hl_pass (by decide) rfl ?_) | (refine hl_pick_t (by decide) rfl rfl ?_) | (refine hl_pick_f (by decide) rfl rfl ?_) | (refine hl_not (by decide) rfl ?_) | (refine hl_callB (by decide) (en_isnan) (args1 rfl) (c_isnan _ _ (by first | with_reducible assumption | exact E.refl _)  _ _ (by with_reducible assumption)) (fun hb w' hs => ?_) (fun hb w' hs => ?_) <;> (try first | exact Bool.noConfusion ((hb.symm.trans (by with_reducible assumption)) : true = false) | exact Bool.noConfusion ((hb.symm.trans (by with_reducible assumption)) : false = true))) | (refine hl_callF (by decide) (en_asinh) (args1 rfl) (c_asinh _ _ (by first | with_reducible assumption | exact E.refl _) (by with_reducible assumption) _ _ (by with_reducible assumption)) ?_; intro r w' hr hs) | (refine hl_callF (by decide) (en_atanh) (args1 rfl) (c_atanh _ _ (by first | with_reducible assumption | exact E.refl _) (by with_reducible assumption) _ _ (by with_reducible assumption)) ?_; intro r w' hr hs) | (refine hl_callB (by decide) (en_minus) (args1 rfl) (c_minus _ _ (by first | with_reducible assumption | exact E.refl _)  _ _ (by with_reducible assumption)) (fun hb w' hs => ?_) (fun hb w' hs => ?_) <;> (try first | exact Bool.noConfusion ((hb.symm.trans (by with_reducible assumption)) : true = false) | exact Bool.noConfusion ((hb.symm.trans (by with_reducible assumption)) : false = true))) | (refine hl_callF (by decide) (en_acosh) (args1 rfl) (c_acosh _ _ (by first | with_reducible assumption | exact E.refl _) (by with_reducible assumption) _ _ (by with_reducible assumption)) ?_; intro r w' hr hs) | (refine hl_nil ?_) | (refine hq_then (by with_reducible assumption) ?_) | (refine hw_seq (fun K hK => ?_)) | (refine hw_region ?_) | (refine hw_cond_t rfl ?_) | (refine hw_cond_f rfl ?_) | (refine hw_ret ?_) | (refine hw_block ?_) | (refine hw_skip ?_) | (refine hw_exit ?_) | (refine hq_then_ret ?_) | (refine hq_then_exit ?_) | (refine hq_block ?_) | (refine hq_block_ret ?_) | (refine hq_block_exit ?_) | (refine hq_block_exit_ne (by decide) ?_))
  all_goals (refine hq_ret1 rfl rfl ⟨.inl ⟨rfl, rfl⟩, (by with_reducible assumption)⟩)

end Go.Proofs.Ythnbkoohehnblaa
