import Derived.Test.YtgbdplmpojkklaaDoorWalkTr
namespace Go.Proofs.YtgbdplmpojkklaaDoor
open Go.RowKit
set_option maxRecDepth 100000 in
set_option maxHeartbeats 8000000 in
theorem c_tr_false (w0 : World) (x a1 a2 b3 m1 m2 d s d1 d2 d3 s1 M0 M1 M2 M3 p0 p1 p2 q0 q1 q2 z0 z1 z2 zl y1 y1l y2 y2l lo c hi c2 j h3 l3 H lz L e g1 s2 g2 g3 g4 e5 W jb : Nat) (b1 b2 : Int) (h1 : flt x 4605249457297304856 = false)
    (k1 : Known Tryd.prog .shr (.int .u64 x) (.int .u64 52) (.int .u64 a1))
    (k2 : Known Tryd.prog .and (.int .u64 a1) (.int .u64 2047) (.int .u64 a2))
    (k3 : KnownC Tryd.prog 37 3 (.int .u64 a2) (.int .i64 a2))
    (k4 : Known Tryd.prog .sub (.int .i64 a2) (.int .i64 1023) (.int .i64 b1))
    (k5 : Known Tryd.prog .sub (.int .i64 b1) (.int .i64 52) (.int .i64 b2))
    (k6 : Known Tryd.prog .andNot (.int .u64 x) (.int .u64 9218868437227405312) (.int .u64 m1))
    (k7 : Known Tryd.prog .or (.int .u64 m1) (.int .u64 4503599627370496) (.int .u64 m2))
    (k8 : Known Tryd.prog .add (.int .i64 b2) (.int .i64 61) (.int .i64 b3))
    (k9 : KnownC Tryd.prog 3 46 (.int .i64 b3) (.int .u64 b3))
    (k10 : Known Tryd.prog .quo (.int .u64 b3) (.int .u64 64) (.int .u64 d))
    (k11 : Known Tryd.prog .rem (.int .u64 b3) (.int .u64 64) (.int .u64 s))
    (k12 : Known Tryd.prog .add (.int .u64 d) (.int .u64 1) (.int .u64 d1))
    (k13 : Known Tryd.prog .add (.int .u64 d) (.int .u64 2) (.int .u64 d2))
    (k14 : Known Tryd.prog .add (.int .u64 d) (.int .u64 3) (.int .u64 d3))
    (k15 : Known Tryd.prog .sub (.int .u64 64) (.int .u64 s) (.int .u64 s1))
    (kl0 : Known Tryd.prog .shl (.int .u64 M0) (.int .u64 s) (.int .u64 p0))
    (kr0 : Known Tryd.prog .shr (.int .u64 M1) (.int .u64 s1) (.int .u64 q0))
    (ko0 : Known Tryd.prog .or (.int .u64 p0) (.int .u64 q0) (.int .u64 z0))
    (kl1 : Known Tryd.prog .shl (.int .u64 M1) (.int .u64 s) (.int .u64 p1))
    (kr1 : Known Tryd.prog .shr (.int .u64 M2) (.int .u64 s1) (.int .u64 q1))
    (ko1 : Known Tryd.prog .or (.int .u64 p1) (.int .u64 q1) (.int .u64 z1))
    (kl2 : Known Tryd.prog .shl (.int .u64 M2) (.int .u64 s) (.int .u64 p2))
    (kr2 : Known Tryd.prog .shr (.int .u64 M3) (.int .u64 s1) (.int .u64 q2))
    (ko2 : Known Tryd.prog .or (.int .u64 p2) (.int .u64 q2) (.int .u64 z2))
    (k16 : Known Tryd.prog .mul (.int .u64 z0) (.int .u64 m2) (.int .u64 zl))
    (k17 : Known Tryd.prog .shr (.int .u64 hi) (.int .u64 61) (.int .u64 j))
    (k18 : Known Tryd.prog .shl (.int .u64 hi) (.int .u64 3) (.int .u64 h3))
    (k19 : Known Tryd.prog .shr (.int .u64 lo) (.int .u64 61) (.int .u64 l3))
    (k20 : Known Tryd.prog .or (.int .u64 h3) (.int .u64 l3) (.int .u64 H))
    (k21 : KnownC Tryd.prog 3 46 (.int .i64 lz) (.int .u64 lz))
    (k22 : Known Tryd.prog .add (.int .u64 lz) (.int .u64 1) (.int .u64 L))
    (k23 : Known Tryd.prog .sub (.int .u64 1023) (.int .u64 L) (.int .u64 e))
    (k24 : Known Tryd.prog .shl (.int .u64 H) (.int .u64 L) (.int .u64 g1))
    (k25 : Known Tryd.prog .sub (.int .u64 64) (.int .u64 L) (.int .u64 s2))
    (k26 : Known Tryd.prog .shr (.int .u64 lo) (.int .u64 s2) (.int .u64 g2))
    (k27 : Known Tryd.prog .or (.int .u64 g1) (.int .u64 g2) (.int .u64 g3))
    (k28 : Known Tryd.prog .shr (.int .u64 g3) (.int .u64 12) (.int .u64 g4))
    (k29 : Known Tryd.prog .shl (.int .u64 e) (.int .u64 52) (.int .u64 e5))
    (k30 : Known Tryd.prog .or (.int .u64 g4) (.int .u64 e5) (.int .u64 W))
    (k31 : Known Tryd.prog .and (.int .u64 j) (.int .u64 1) (.int .u64 jb))
    (hd0 : d < 20) (hl0 : ∀ w', St w0 w' → w'.cell? (Addr.add ⟨5, 0, none⟩ d) = some (.int .u64 M0))
    (hd1 : d1 < 20) (hl1 : ∀ w', St w0 w' → w'.cell? (Addr.add ⟨5, 0, none⟩ d1) = some (.int .u64 M1))
    (hd2 : d2 < 20) (hl2 : ∀ w', St w0 w' → w'.cell? (Addr.add ⟨5, 0, none⟩ d2) = some (.int .u64 M2))
    (hd3 : d3 < 20) (hl3 : ∀ w', St w0 w' → w'.cell? (Addr.add ⟨5, 0, none⟩ d3) = some (.int .u64 M3))
    (hm2 : ∀ w', St w0 w' → Calls Tryd.prog 72 #[.int .u64 z2, .int .u64 m2] w' (RUU y2 y2l w0))
    (hm1 : ∀ w', St w0 w' → Calls Tryd.prog 72 #[.int .u64 z1, .int .u64 m2] w' (RUU y1 y1l w0))
    (ha1 : ∀ w', (callFunc 73 #[.int .u64 y1l, .int .u64 y2, .int .u64 0]).run Tryd.prog w' = .ok (.value (.tuple #[.int .u64 lo, .int .u64 c])) w')
    (ha2 : ∀ w', (callFunc 73 #[.int .u64 zl, .int .u64 y1, .int .u64 c]).run Tryd.prog w' = .ok (.value (.tuple #[.int .u64 hi, .int .u64 c2])) w')
    (hlz : ∀ w', St w0 w' → Calls Tryd.prog 74 #[.int .u64 H] w' (RI lz w0))
    (k32 : Known Tryd.prog .eql (.int .u64 jb) (.int .u64 1) (.bool false))
    (w : World) (hs : St w0 w) : Calls Tryd.prog 60 #[.float .f64 x] w (RUF j (fmul W 4605249457297304856) w0) := by
  have h0 := E.refl x
  have hW := E.refl W
  have fm : Tryd.prog.follows .mixedOrders = true := by kernel_rfl
  have ua := under_mp
  have su := size_u64
  have ag := agg_u64
  refine calls_hw (n := _) (l := [(0, .float .f64 x)]) Tryd.func60 rfl Tryd.ntmps60 (by simp) (by intro i v h; rcases i with _ | _ | _ | i <;> simp_all [List.lookup]) ?_
  repeat' (first | (refine hl_move (by decide) rfl ?_) | (refine hl_assign (by decide) rfl ?_) | (refine hl_fval (by decide) rfl rfl (by with_reducible_and_instances assumption) ?_) | (refine hl_fop rfl (by decide) rfl rfl (by first | with_reducible assumption | exact E.refl _) (by first | with_reducible assumption | exact E.refl _) (by with_reducible assumption) ?_; intro r w' e' he hr hs) | (refine hl_fcmp rfl (by decide) rfl rfl (by first | with_reducible assumption | exact E.refl _) (by first | with_reducible assumption | exact E.refl _) (fun hb => ?_) (fun hb => ?_) <;> (try first | exact Bool.noConfusion ((hb.symm.trans (by with_reducible assumption)) : true = false) | exact Bool.noConfusion ((hb.symm.trans (by with_reducible assumption)) : false = true))) | (refine hl_known (by decide) rfl rfl (by with_reducible_and_instances assumption) ?_) | (refine hl_knownC (by decide) rfl (by with_reducible_and_instances assumption) ?_) | (refine hl_val (by decide) (g_ext0 rfl) ?_) | (refine hl_val (by decide) (g_ext1 rfl) ?_) | (refine hw_region_q fm (by kernel_rfl) ?_) | (refine hu_val (by decide) (fun _ _ => g_move rfl) ?_) | (refine hu_val (by decide) (fun _ _ => g_assign rfl) ?_) | (refine hu_val (by decide) (fun _ _ => g_known rfl rfl (by with_reducible_and_instances assumption)) ?_) | (refine hu_val (by decide) (fun _ _ => g_index_array ua su rfl rfl (by with_reducible assumption)) ?_) | (refine hu_val (by decide) (fun w' hw => g_load ag rfl (by first | exact hl0 _ (St.drawn (by with_reducible assumption) hw) | exact hl1 _ (St.drawn (by with_reducible assumption) hw) | exact hl2 _ (St.drawn (by with_reducible assumption) hw) | exact hl3 _ (St.drawn (by with_reducible assumption) hw))) ?_) | (refine hu_nil (fun w' hw => ?_); have hs := St.drawn (by with_reducible assumption) hw) | (refine hl_ext (by decide) (args1 rfl) (fun w => ext_bits _ w) ?_) | (refine hl_ext (by decide) (args1 rfl) (fun w => ext_fromb _ w) ?_) | (refine hl_callUU (by decide) en_mul64 (args2 rfl rfl) (by first | with_reducible exact hm2 _ (by with_reducible assumption) | with_reducible exact hm1 _ (by with_reducible assumption)) ?_; intro w' hs) | (refine hl_ext (by decide) (args3 rfl rfl rfl) (by first | with_reducible exact ha1 | with_reducible exact ha2) ?_) | (refine hl_callI (by decide) en_lz64 (args1 rfl) (hlz _ (by with_reducible assumption)) ?_; intro w' hs) | (refine hl_fneg (by decide) rfl (by first | with_reducible assumption | exact E.refl _) ?_; intro r e' he hr) | (refine hl_run rfl ?_) | (refine hl_pass (by decide) rfl ?_) | (refine hl_pick_t (by decide) rfl rfl ?_) | (refine hl_pick_f (by decide) rfl rfl ?_) | (refine hl_not (by decide) rfl ?_) | (refine hl_nil ?_) | (refine hq_then (by with_reducible assumption) ?_) | (refine hw_seq (fun K hK => ?_)) | (refine hw_region ?_) | (refine hw_cond_t rfl ?_) | (refine hw_cond_f rfl ?_) | (refine hw_ret ?_) | (refine hw_block ?_) | (refine hw_skip ?_) | (refine hw_exit ?_) | (refine hq_then_ret ?_) | (refine hq_then_exit ?_) | (refine hq_block ?_) | (refine hq_block_ret ?_) | (refine hq_block_exit ?_) | (refine hq_block_exit_ne (by decide) ?_))
  all_goals (refine hq_ret2 rfl rfl rfl ⟨_, rfl, ?_, (by with_reducible assumption)⟩; subst_vars; with_reducible assumption)

end Go.Proofs.YtgbdplmpojkklaaDoor
