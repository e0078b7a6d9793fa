/-
FnAtan2Scaled returns true for every two int32 and every int.
-/
import Derived.Test.YticceknfjhfccaaRows
import Derived.Test.YticceknfjhfccaaWalkPA
import Derived.ProofKit
import Derived.OpenShut
import Derived.ChangeOld
import Derived.Below
namespace Go.Proofs.Yticceknfjhfccaa
open Go.ChangeShapes Go.WideShapes Go.ChangeAt Go.RowKit

theorem ofI_of (n : Int) : ofI n = floatOfInt .f64 n := rfl

set_option maxRecDepth 100000 in
set_option maxHeartbeats 2000000 in
theorem c_scaled_0 (n m k : Int) (hk1 : -900 ≤ k) (hk2 : k ≤ 900) (hn : (n == 0) = true) (w0 w : World) (hs : St w0 w) :
    Calls Try.prog 7 #[.int .i32 n, .int .i32 m, .int .i64 k] w (RB (scaledF n m k) w0) := by
  have g1 : ¬ k < -900 := by omega
  have g2 : ¬ 900 < k := by omega
  have u1 : W64 (floatOfInt .f64 n) := by rw [← ofI_of]; exact write_lt64 _
  have u2 : W64 (floatOfInt .f64 m) := by rw [← ofI_of]; exact write_lt64 _
  have u3 : W64 (fmul (floatOfInt .f64 n) (powW k)) := fmul_lt _ _
  have u4 : W64 (fmul (floatOfInt .f64 m) (powW k)) := fmul_lt _ _
  go_enter Try.func7, Try.ntmps7
  go_wp2_with (first | (refine wpList_fop rfl _ _ _ _ _ rfl _ rfl _ _ rfl rfl _ _ (by first | assumption | exact E.refl _) (by first | assumption | exact E.refl _) _ (by assumption) ?_; intro r w' hr hs) | (refine wpList_fcmp rfl _ _ _ _ _ rfl _ rfl _ _ rfl rfl _ _ (by first | assumption | exact E.refl _) (by first | assumption | exact E.refl _) (fun hb => ?_) (fun hb => ?_) <;> (try first | exact Bool.noConfusion ((hb.symm.trans (by assumption)) : true = false) | exact Bool.noConfusion ((hb.symm.trans (by assumption)) : false = true))) | (refine wpList_fneg rfl _ _ rfl _ rfl _ (by first | assumption | exact E.refl _) ?_; intro r hr) | (go_at_call 20; refine (c_atan2 _ _ (by first | assumption | exact E.refl _) _ _ (by first | assumption | exact E.refl _) (by assumption) (by assumption) _ _ (by assumption)).mono ?_; rintro e w' ⟨r, rfl, hr, hs⟩) | (go_at_call 21; refine (c_same _ _ (by first | assumption | exact E.refl _) _ _ (by first | assumption | exact E.refl _)  _ _ (by assumption)).mono ?_; rintro e w' ⟨⟨hb, rfl⟩ | ⟨hb, rfl⟩, hs⟩ <;> (try first | exact Bool.noConfusion ((hb.symm.trans (by assumption)) : true = false) | exact Bool.noConfusion ((hb.symm.trans (by assumption)) : false = true))) | (go_at_call 28; refine (c_power _ (by omega) (by omega) _ _ (by assumption)).mono ?_; rintro e w' ⟨r, rfl, hr, hs⟩))
  all_goals (go_ret; first | exact ⟨.inl ⟨(by simp_all [scaledF, ofI_of]), rfl⟩, (by assumption)⟩ | exact ⟨.inr ⟨(by simp_all [scaledF, ofI_of]), rfl⟩, (by assumption)⟩)

set_option maxRecDepth 100000 in
set_option maxHeartbeats 2000000 in
theorem c_scaled_1 (n m k : Int) (hk1 : -900 ≤ k) (hk2 : k ≤ 900) (hn : (n == 0) = false) (w0 w : World) (hs : St w0 w) :
    Calls Try.prog 7 #[.int .i32 n, .int .i32 m, .int .i64 k] w (RB (scaledF n m k) w0) := by
  have g1 : ¬ k < -900 := by omega
  have g2 : ¬ 900 < k := by omega
  have u1 : W64 (floatOfInt .f64 n) := by rw [← ofI_of]; exact write_lt64 _
  have u2 : W64 (floatOfInt .f64 m) := by rw [← ofI_of]; exact write_lt64 _
  have u3 : W64 (fmul (floatOfInt .f64 n) (powW k)) := fmul_lt _ _
  have u4 : W64 (fmul (floatOfInt .f64 m) (powW k)) := fmul_lt _ _
  go_enter Try.func7, Try.ntmps7
  go_wp2_with (first | (refine wpList_fop rfl _ _ _ _ _ rfl _ rfl _ _ rfl rfl _ _ (by first | assumption | exact E.refl _) (by first | assumption | exact E.refl _) _ (by assumption) ?_; intro r w' hr hs) | (refine wpList_fcmp rfl _ _ _ _ _ rfl _ rfl _ _ rfl rfl _ _ (by first | assumption | exact E.refl _) (by first | assumption | exact E.refl _) (fun hb => ?_) (fun hb => ?_) <;> (try first | exact Bool.noConfusion ((hb.symm.trans (by assumption)) : true = false) | exact Bool.noConfusion ((hb.symm.trans (by assumption)) : false = true))) | (refine wpList_fneg rfl _ _ rfl _ rfl _ (by first | assumption | exact E.refl _) ?_; intro r hr) | (go_at_call 20; refine (c_atan2 _ _ (by first | assumption | exact E.refl _) _ _ (by first | assumption | exact E.refl _) (by assumption) (by assumption) _ _ (by assumption)).mono ?_; rintro e w' ⟨r, rfl, hr, hs⟩) | (go_at_call 21; refine (c_same _ _ (by first | assumption | exact E.refl _) _ _ (by first | assumption | exact E.refl _)  _ _ (by assumption)).mono ?_; rintro e w' ⟨⟨hb, rfl⟩ | ⟨hb, rfl⟩, hs⟩ <;> (try first | exact Bool.noConfusion ((hb.symm.trans (by assumption)) : true = false) | exact Bool.noConfusion ((hb.symm.trans (by assumption)) : false = true))) | (go_at_call 28; refine (c_power _ (by omega) (by omega) _ _ (by assumption)).mono ?_; rintro e w' ⟨r, rfl, hr, hs⟩))
  all_goals (go_ret; first | exact ⟨.inl ⟨(by simp_all [scaledF, ofI_of]), rfl⟩, (by assumption)⟩ | exact ⟨.inr ⟨(by simp_all [scaledF, ofI_of]), rfl⟩, (by assumption)⟩)

set_option maxHeartbeats 400000 in
theorem c_scaled_out (n m k : Int) (hk : k < -900 ∨ 900 < k) (w0 w : World) (hs : St w0 w) :
    Calls Try.prog 7 #[.int .i32 n, .int .i32 m, .int .i64 k] w (RB true w0) := by
  rcases hk with hk | hk
  · go_enter Try.func7, Try.ntmps7
    go_wp2
    go_ret
    exact ⟨.inl ⟨rfl, rfl⟩, hs⟩
  · have g1 : ¬ k < -900 := by omega
    go_enter Try.func7, Try.ntmps7
    go_wp2
    go_ret
    exact ⟨.inl ⟨rfl, rfl⟩, hs⟩

theorem walk_atan2Scaled (n : Int) (hn : (Lit.int .i32 n).wf = true) (m : Int) (hm : (Lit.int .i32 m).wf = true) (k : Int) (_ : (Lit.int .i64 k).wf = true) (w : World) :
    Calls Try.prog 7 #[.int .i32 n, .int .i32 m, .int .i64 k] w fun e w' => e = .returned (.bool true) ∧ Below w.heap.size w w' := by
  have bn : -2147483648 ≤ n ∧ n ≤ 2147483647 := by simpa [Lit.wf, IntKind.min, IntKind.max, IntKind.signed, IntKind.bits] using hn
  have bm : -2147483648 ≤ m ∧ m ≤ 2147483647 := by simpa [Lit.wf, IntKind.min, IntKind.max, IntKind.signed, IntKind.bits] using hm
  by_cases hk : -900 ≤ k ∧ k ≤ 900
  · have hp := scaled_plain n m k bn.1 bn.2 bm.1 bm.2 hk.1 hk.2
    have hc : Calls Try.prog 7 #[.int .i32 n, .int .i32 m, .int .i64 k] w (RB (scaledF n m k) w) := by
      cases h0 : (n == 0) with
      | true => exact c_scaled_0 n m k hk.1 hk.2 h0 w w (St.refl w)
      | false => exact c_scaled_1 n m k hk.1 hk.2 h0 w w (St.refl w)
    refine hc.mono ?_
    rintro e w' ⟨⟨hb, rfl⟩ | ⟨hb, rfl⟩, hs⟩
    · exact ⟨rfl, hs⟩
    · exact Bool.noConfusion (hp.symm.trans hb : true = false)
  · refine (c_scaled_out n m k (by omega) w w (St.refl w)).mono ?_
    rintro e w' ⟨⟨hb, rfl⟩ | ⟨hb, rfl⟩, hs⟩
    · exact ⟨rfl, hs⟩
    · cases hb


theorem atan2Scaled_own : ownKnob Try.prog.godebug = none := by kernel_rfl

set_option maxRecDepth 100000 in
theorem atan2Scaled_lifted (os : Os) (started : os.Started) (H : Type) (enc : TypeId × Value → H) :
    ReturnsInHanded {} Try.checked os 7 .any (Rows.fnAtan2ScaledSpec.pre6 enc Try.prog Try.f7 Rows.fnAtan2ScaledRow.domain false) (Rows.fnAtan2ScaledSpec.post enc Try.prog Try.f7 false true false false) := by
  refine returnsInHanded_of_change (C := Try.checked) atan2Scaled_own started (by kernel_rfl) Try.func7
    (ChangeSpec.witness6 (enc := enc) (C := Try.checked) false ⟨#[], #[.int .i32 0, .int .i32 0, .int .i64 0], []⟩ 8 (by kernel_rfl) (by kernel_rfl) (by kernel_rfl) (by kernel_rfl)) ?_
  intro W base args ds gs before hval0 hW hcnd _
  have hval : ∀ (j : Nat) t v, Try.f7.params[j]? = some t → args[j]? = some v → Value.okWide Try.prog W .any base t v := hval0
  have hW' := hW
  obtain ⟨p, q, hA0, hV, rfl, hfz, hnd⟩ := hW
  have hA : DataW.TrodAll enc Try.prog W 0 (fun _ => true) true Try.f7.params.toList args.toList ds p := hA0
  rw [Try.params7] at hA hval
  obtain ⟨v0, vs0, d0, ds0, p0, q0, hargs, rfl, rfl, h0, r0⟩ := trodAll_cons hA
  obtain ⟨v1, vs1, d1, ds1, p1, q1, rfl, rfl, rfl, h1, r1⟩ := trodAll_cons r0
  obtain ⟨v2, vs2, d2, ds2, p2, q2, rfl, rfl, rfl, h2, r2⟩ := trodAll_cons r1
  obtain ⟨rfl, rfl, rfl⟩ := trodAll_nil r2
  obtain rfl : args = #[v0, v1, v2] := by cases args; simp_all
  obtain ⟨rfl, rfl⟩ := trodVars_none hV
  obtain ⟨a0, rfl, rfl, rfl, w0⟩ := open_int Try.underlying21 (hval 0 21 v0 rfl rfl) h0
  obtain ⟨a1, rfl, rfl, rfl, w1⟩ := open_int Try.underlying21 (hval 1 21 v1 rfl rfl) h1
  obtain ⟨a2, rfl, rfl, rfl, w2⟩ := open_int Try.underlying3 (hval 2 3 v2 rfl rfl) h2
  clear hA0 hval0
  simp only [List.append_nil] at hW'
  refine (walk_atan2Scaled a0 w0 a1 w1 a2 w2 W).mono fun e W' ⟨he, bel⟩ => ?_
  subst he
  exact ⟨_, rfl, _, _, _, [], [], [], hW', trodAll_mk1 (shut_bool Try.underlying4 _), (trodAll_cons_mk (shut_int Try.underlying21 w0) (trodAll_cons_mk (shut_int Try.underlying21 w1) (trodAll_cons_mk (shut_int Try.underlying3 w2) trodAll_mk0))), rfl, bel.frame _, fun h => by cases h⟩

/-- The statement. -/
theorem atan2Scaled_holds : Rows.FnAtan2ScaledSaid :=
  OpenClaim.holds_of_wide 7 Try.f7 rfl rfl rfl rfl rfl rfl rfl ⟨rfl, rfl, rfl, rfl, rfl⟩ rfl rfl rfl rfl rfl (by kernel_rfl) Try.func7 (by kernel_rfl)
    (of_decide_eq_true (by kernel_rfl)) (by unfold Func.isWrapper; first | (rw [if_pos (by decide +kernel)]; kernel_rfl) | (rw [if_neg (by decide +kernel)]; exact ⟨rfl, rfl⟩))
    (fun os started H enc _ => atan2Scaled_lifted os started H enc)
#print axioms atan2Scaled_holds
end Go.Proofs.Yticceknfjhfccaa
