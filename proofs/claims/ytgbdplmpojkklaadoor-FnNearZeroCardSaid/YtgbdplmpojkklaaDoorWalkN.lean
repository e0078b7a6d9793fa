/-
Asinh and Atanh of numbers near 0, and FnNearZero, walked.
-/
import Derived.Test.YtgbdplmpojkklaaDoorWalkC
import Derived.Test.YtgbdplmpojkklaaDoorWalkP
import Derived.Test.YtgbdplmpojkklaaDoorFpZ
namespace Go.Proofs.YtgbdplmpojkklaaDoor
open Go.RowKit

theorem c_pow28 (w0 w : World) (hs : St w0 w) : Calls Tryd.prog 15 #[.int .i64 (-28)] w (RF 4481081629233643520 w0) := c_power_neg 28 (by decide) w0 w hs

set_option maxRecDepth 100000 in
set_option maxHeartbeats 2000000 in
theorem c_asinhN0_false (x0 e0 : Nat) (h0 : E x0 e0) (hl0 : W64 e0) (hn : isNanF e0 = false) (hi : infA e0 = false) (hf : flt e0 0 = false) (g1 : fgt e0 4733283208366391296 = false) (g2 : fgt e0 4611686018427387904 = false) (g3 : flt e0 4481081629233643520 = true) (w0 w : World) (hs : St w0 w) : Calls Tryd.prog 54 #[.float .f64 x0] w (RF e0 w0) := by
  go_enter Tryd.func54, Tryd.ntmps54
  go_wp2_with (first | (go_at_call 58; (with_reducible refine (c_infa _ _ (by first | with_reducible assumption | exact E.refl _) (by with_reducible assumption) _ _ (by with_reducible assumption)).mono ?_); rintro e w' ⟨⟨hb, rfl⟩ | ⟨hb, rfl⟩, hs⟩ <;> (try first | exact Bool.noConfusion ((hb.symm.trans (by with_reducible assumption)) : true = false) | exact Bool.noConfusion ((hb.symm.trans (by with_reducible assumption)) : false = true))) | (refine wpList_fop rfl _ _ _ _ _ rfl _ rfl _ _ rfl rfl _ _ (by first | with_reducible assumption | exact E.refl _) (by first | with_reducible assumption | exact E.refl _) _ (by with_reducible assumption) ?_; intro r w' hr hs) | (refine wpList_fcmp rfl _ _ _ _ _ rfl _ rfl _ _ rfl rfl _ _ (by first | with_reducible assumption | exact E.refl _) (by first | with_reducible assumption | exact E.refl _) (fun hb => ?_) (fun hb => ?_) <;> (try first | exact Bool.noConfusion ((hb.symm.trans (by with_reducible assumption)) : true = false) | exact Bool.noConfusion ((hb.symm.trans (by with_reducible assumption)) : false = true))) | (refine wpList_fneg rfl _ _ rfl _ rfl _ (by first | with_reducible assumption | exact E.refl _) ?_; intro r hr) | (go_at_call 57; refine (c_misnan _ _ (by first | with_reducible assumption | exact E.refl _)  _ _ (by with_reducible assumption)).mono ?_; rintro e w' ⟨⟨hb, rfl⟩ | ⟨hb, rfl⟩, hs⟩ <;> (try first | exact Bool.noConfusion ((hb.symm.trans (by with_reducible assumption)) : true = false) | exact Bool.noConfusion ((hb.symm.trans (by with_reducible assumption)) : false = true))))
  all_goals (go_ret; exact ⟨_, rfl, (by with_reducible assumption), (by with_reducible assumption)⟩)

set_option maxRecDepth 100000 in
set_option maxHeartbeats 2000000 in
theorem c_atanhN0_false (x0 e0 : Nat) (h0 : E x0 e0) (hn : isNanF e0 = false) (hm : flt e0 13830554455654793216 = false) (hp : fgt e0 4607182418800017408 = false) (q1 : feq e0 4607182418800017408 = false) (q2 : feq e0 13830554455654793216 = false) (hf : flt e0 0 = false) (g3 : flt e0 4481081629233643520 = true) (w0 w : World) (hs : St w0 w) : Calls Tryd.prog 56 #[.float .f64 x0] w (RF e0 w0) := by
  go_enter Tryd.func56, Tryd.ntmps56
  go_wp2_with (first | (refine wpList_fop rfl _ _ _ _ _ rfl _ rfl _ _ rfl rfl _ _ (by first | with_reducible assumption | exact E.refl _) (by first | with_reducible assumption | exact E.refl _) _ (by with_reducible assumption) ?_; intro r w' hr hs) | (refine wpList_fcmp rfl _ _ _ _ _ rfl _ rfl _ _ rfl rfl _ _ (by first | with_reducible assumption | exact E.refl _) (by first | with_reducible assumption | exact E.refl _) (fun hb => ?_) (fun hb => ?_) <;> (try first | exact Bool.noConfusion ((hb.symm.trans (by with_reducible assumption)) : true = false) | exact Bool.noConfusion ((hb.symm.trans (by with_reducible assumption)) : false = true))) | (refine wpList_fneg rfl _ _ rfl _ rfl _ (by first | with_reducible assumption | exact E.refl _) ?_; intro r hr) | (go_at_call 57; refine (c_misnan _ _ (by first | with_reducible assumption | exact E.refl _)  _ _ (by with_reducible assumption)).mono ?_; rintro e w' ⟨⟨hb, rfl⟩ | ⟨hb, rfl⟩, hs⟩ <;> (try first | exact Bool.noConfusion ((hb.symm.trans (by with_reducible assumption)) : true = false) | exact Bool.noConfusion ((hb.symm.trans (by with_reducible assumption)) : false = true))))
  all_goals (go_ret; exact ⟨_, rfl, (by with_reducible assumption), (by with_reducible assumption)⟩)

set_option maxRecDepth 100000 in
set_option maxHeartbeats 2000000 in
theorem c_asinhN0_true (x0 e0 : Nat) (h0 : E x0 e0) (hl0 : W64 e0) (hn : isNanF e0 = false) (hi : infA e0 = false) (hf : flt e0 0 = true) (g1 : fgt (fneg e0) 4733283208366391296 = false) (g2 : fgt (fneg e0) 4611686018427387904 = false) (g3 : flt (fneg e0) 4481081629233643520 = true) (w0 w : World) (hs : St w0 w) : Calls Tryd.prog 54 #[.float .f64 x0] w (RF (fneg (fneg e0)) w0) := by
  go_enter Tryd.func54, Tryd.ntmps54
  go_wp2_with (first | (go_at_call 58; (with_reducible refine (c_infa _ _ (by first | with_reducible assumption | exact E.refl _) (by with_reducible assumption) _ _ (by with_reducible assumption)).mono ?_); rintro e w' ⟨⟨hb, rfl⟩ | ⟨hb, rfl⟩, hs⟩ <;> (try first | exact Bool.noConfusion ((hb.symm.trans (by with_reducible assumption)) : true = false) | exact Bool.noConfusion ((hb.symm.trans (by with_reducible assumption)) : false = true))) | (refine wpList_fop rfl _ _ _ _ _ rfl _ rfl _ _ rfl rfl _ _ (by first | with_reducible assumption | exact E.refl _) (by first | with_reducible assumption | exact E.refl _) _ (by with_reducible assumption) ?_; intro r w' hr hs) | (refine wpList_fcmp rfl _ _ _ _ _ rfl _ rfl _ _ rfl rfl _ _ (by first | with_reducible assumption | exact E.refl _) (by first | with_reducible assumption | exact E.refl _) (fun hb => ?_) (fun hb => ?_) <;> (try first | exact Bool.noConfusion ((hb.symm.trans (by with_reducible assumption)) : true = false) | exact Bool.noConfusion ((hb.symm.trans (by with_reducible assumption)) : false = true))) | (refine wpList_fneg rfl _ _ rfl _ rfl _ (by first | with_reducible assumption | exact E.refl _) ?_; intro r hr) | (go_at_call 57; refine (c_misnan _ _ (by first | with_reducible assumption | exact E.refl _)  _ _ (by with_reducible assumption)).mono ?_; rintro e w' ⟨⟨hb, rfl⟩ | ⟨hb, rfl⟩, hs⟩ <;> (try first | exact Bool.noConfusion ((hb.symm.trans (by with_reducible assumption)) : true = false) | exact Bool.noConfusion ((hb.symm.trans (by with_reducible assumption)) : false = true))))
  all_goals (go_ret; exact ⟨_, rfl, (by with_reducible assumption), (by with_reducible assumption)⟩)

set_option maxRecDepth 100000 in
set_option maxHeartbeats 2000000 in
theorem c_atanhN0_true (x0 e0 : Nat) (h0 : E x0 e0) (hn : isNanF e0 = false) (hm : flt e0 13830554455654793216 = false) (hp : fgt e0 4607182418800017408 = false) (q1 : feq e0 4607182418800017408 = false) (q2 : feq e0 13830554455654793216 = false) (hf : flt e0 0 = true) (g3 : flt (fneg e0) 4481081629233643520 = true) (w0 w : World) (hs : St w0 w) : Calls Tryd.prog 56 #[.float .f64 x0] w (RF (fneg (fneg e0)) w0) := by
  go_enter Tryd.func56, Tryd.ntmps56
  go_wp2_with (first | (refine wpList_fop rfl _ _ _ _ _ rfl _ rfl _ _ rfl rfl _ _ (by first | with_reducible assumption | exact E.refl _) (by first | with_reducible assumption | exact E.refl _) _ (by with_reducible assumption) ?_; intro r w' hr hs) | (refine wpList_fcmp rfl _ _ _ _ _ rfl _ rfl _ _ rfl rfl _ _ (by first | with_reducible assumption | exact E.refl _) (by first | with_reducible assumption | exact E.refl _) (fun hb => ?_) (fun hb => ?_) <;> (try first | exact Bool.noConfusion ((hb.symm.trans (by with_reducible assumption)) : true = false) | exact Bool.noConfusion ((hb.symm.trans (by with_reducible assumption)) : false = true))) | (refine wpList_fneg rfl _ _ rfl _ rfl _ (by first | with_reducible assumption | exact E.refl _) ?_; intro r hr) | (go_at_call 57; refine (c_misnan _ _ (by first | with_reducible assumption | exact E.refl _)  _ _ (by with_reducible assumption)).mono ?_; rintro e w' ⟨⟨hb, rfl⟩ | ⟨hb, rfl⟩, hs⟩ <;> (try first | exact Bool.noConfusion ((hb.symm.trans (by with_reducible assumption)) : true = false) | exact Bool.noConfusion ((hb.symm.trans (by with_reducible assumption)) : false = true))))
  all_goals (go_ret; exact ⟨_, rfl, (by with_reducible assumption), (by with_reducible assumption)⟩)


/-- What the walk asks of a number near 0. -/
def NearW (e0 : Nat) : Prop :=
  W64 e0 ∧ isNanF e0 = false ∧ infA e0 = false ∧ flt e0 13830554455654793216 = false ∧ fgt e0 4607182418800017408 = false ∧ feq e0 4607182418800017408 = false ∧ feq e0 13830554455654793216 = false ∧
  ((flt e0 0 = false ∧ fgt e0 4733283208366391296 = false ∧ fgt e0 4611686018427387904 = false ∧ flt e0 4481081629233643520 = true) ∨
   (flt e0 0 = true ∧ fgt (fneg e0) 4733283208366391296 = false ∧ fgt (fneg e0) 4611686018427387904 = false ∧ flt (fneg e0) 4481081629233643520 = true))
theorem fneg2 {x : Nat} : fneg (fneg x) = x := by
  unfold fneg; rw [Nat.xor_assoc, Nat.xor_self, Nat.xor_zero]
theorem c_asinhN0 (x0 e0 : Nat) (h0 : E x0 e0) (hN : NearW e0) (w0 w : World) (hs : St w0 w) : Calls Tryd.prog 54 #[.float .f64 x0] w (RF e0 w0) := by
  obtain ⟨hl, hn, hi, _, _, _, _, ⟨a, b, c, d⟩ | ⟨a, b, c, d⟩⟩ := hN
  · exact c_asinhN0_false x0 e0 h0 hl hn hi a b c d w0 w hs
  · have := c_asinhN0_true x0 e0 h0 hl hn hi a b c d w0 w hs
    rw [fneg2] at this; exact this
theorem c_atanhN0 (x0 e0 : Nat) (h0 : E x0 e0) (hN : NearW e0) (w0 w : World) (hs : St w0 w) : Calls Tryd.prog 56 #[.float .f64 x0] w (RF e0 w0) := by
  obtain ⟨_, hn, _, h1, h2, h3, h4, ⟨a, b, c, d⟩ | ⟨a, b, c, d⟩⟩ := hN
  · exact c_atanhN0_false x0 e0 h0 hn h1 h2 h3 h4 a d w0 w hs
  · have := c_atanhN0_true x0 e0 h0 hn h1 h2 h3 h4 a d w0 w hs
    rw [fneg2] at this; exact this

set_option maxHeartbeats 1000000 in
theorem c_asinhN1 (x0 e0 : Nat) (h0 : E x0 e0) (hN : NearW e0) (w0 w : World) (hs : St w0 w) : Calls Tryd.prog 37 #[.float .f64 x0] w (RF e0 w0) := by
  go_enter Tryd.func37, Tryd.ntmps37
  go_wp2_with (go_at_call 54; refine (c_asinhN0 _ _ (by first | with_reducible assumption | exact E.refl _) (by with_reducible assumption) _ _ (by with_reducible assumption)).mono ?_; rintro e w' ⟨r, rfl, hr, hs⟩)
  go_ret
  exact ⟨_, rfl, (by with_reducible assumption), (by with_reducible assumption)⟩

set_option maxHeartbeats 1000000 in
theorem c_asinhN2 (x0 e0 : Nat) (h0 : E x0 e0) (hN : NearW e0) (w0 w : World) (hs : St w0 w) : Calls Tryd.prog 24 #[.float .f64 x0] w (RF e0 w0) := by
  go_enter Tryd.func24, Tryd.ntmps24
  go_wp2_with (go_at_call 37; refine (c_asinhN1 _ _ (by first | with_reducible assumption | exact E.refl _) (by with_reducible assumption) _ _ (by with_reducible assumption)).mono ?_; rintro e w' ⟨r, rfl, hr, hs⟩)
  go_ret
  exact ⟨_, rfl, (by with_reducible assumption), (by with_reducible assumption)⟩

set_option maxHeartbeats 1000000 in
theorem c_atanhN1 (x0 e0 : Nat) (h0 : E x0 e0) (hN : NearW e0) (w0 w : World) (hs : St w0 w) : Calls Tryd.prog 38 #[.float .f64 x0] w (RF e0 w0) := by
  go_enter Tryd.func38, Tryd.ntmps38
  go_wp2_with (go_at_call 56; refine (c_atanhN0 _ _ (by first | with_reducible assumption | exact E.refl _) (by with_reducible assumption) _ _ (by with_reducible assumption)).mono ?_; rintro e w' ⟨r, rfl, hr, hs⟩)
  go_ret
  exact ⟨_, rfl, (by with_reducible assumption), (by with_reducible assumption)⟩

set_option maxHeartbeats 1000000 in
theorem c_atanhN2 (x0 e0 : Nat) (h0 : E x0 e0) (hN : NearW e0) (w0 w : World) (hs : St w0 w) : Calls Tryd.prog 25 #[.float .f64 x0] w (RF e0 w0) := by
  go_enter Tryd.func25, Tryd.ntmps25
  go_wp2_with (go_at_call 38; refine (c_atanhN1 _ _ (by first | with_reducible assumption | exact E.refl _) (by with_reducible assumption) _ _ (by with_reducible assumption)).mono ?_; rintro e w' ⟨r, rfl, hr, hs⟩)
  go_ret
  exact ⟨_, rfl, (by with_reducible assumption), (by with_reducible assumption)⟩

set_option maxRecDepth 100000 in
set_option maxHeartbeats 2000000 in
theorem c_l_nearFar (x0 e0 : Nat) (h0 : E x0 e0)  (hf : flt (sizeF e0) 4481081629233643520 = false) (w0 w : World) (hs : St w0 w)  : Calls Tryd.prog 4 #[.float .f64 x0] w (RB true w0) := by
  go_enter Tryd.func4, Tryd.ntmps4
  go_wp2_with (first | (go_at_call 15; refine (c_pow28 _ _ (by with_reducible assumption)).mono ?_; rintro e w' ⟨r, rfl, hr, hs⟩) | (refine wpList_fop rfl _ _ _ _ _ rfl _ rfl _ _ rfl rfl _ _ (by first | with_reducible assumption | exact E.refl _) (by first | with_reducible assumption | exact E.refl _) _ (by with_reducible assumption) ?_; intro r w' hr hs) | (refine wpList_fcmp rfl _ _ _ _ _ rfl _ rfl _ _ rfl rfl _ _ (by first | with_reducible assumption | exact E.refl _) (by first | with_reducible assumption | exact E.refl _) (fun hb => ?_) (fun hb => ?_) <;> (try first | exact Bool.noConfusion ((hb.symm.trans (by with_reducible assumption)) : true = false) | exact Bool.noConfusion ((hb.symm.trans (by with_reducible assumption)) : false = true))) | (refine wpList_fneg rfl _ _ rfl _ rfl _ (by first | with_reducible assumption | exact E.refl _) ?_; intro r hr) | (go_at_call 22; refine (c_size _ _ (by first | with_reducible assumption | exact E.refl _)  _ _ (by with_reducible assumption)).mono ?_; rintro e w' ⟨r, rfl, hr, hs⟩))
  all_goals (go_ret; exact ⟨.inl ⟨rfl, rfl⟩, (by assumption)⟩)

set_option maxRecDepth 100000 in
set_option maxHeartbeats 2000000 in
theorem c_l_nearNear (x0 e0 : Nat) (h0 : E x0 e0) (hl0 : W64 e0) (hf : flt (sizeF e0) 4481081629233643520 = true) (hN : NearW e0) (p1 : sameF (sinF e0) e0 = true) (p2 : sameF (tanF e0) e0 = true) (p3 : sameF (asinF e0) e0 = true) (p4 : sameF (atanF e0) e0 = true) (p5 : sameF e0 e0 = true) (p6 : feq (cosF e0) 4607182418800017408 = true) (w0 w : World) (hs : St w0 w) (hT : TS w0) (hT2 : TT w0) : Calls Tryd.prog 4 #[.float .f64 x0] w (RB true w0) := by
  go_enter Tryd.func4, Tryd.ntmps4
  go_wp2_with (first | (go_at_call 15; refine (c_pow28 _ _ (by with_reducible assumption)).mono ?_; rintro e w' ⟨r, rfl, hr, hs⟩) | (go_at_call 24; refine (c_asinhN2 _ _ (by first | with_reducible assumption | exact E.refl _) (by with_reducible assumption) _ _ (by with_reducible assumption)).mono ?_; rintro e w' ⟨r, rfl, hr, hs⟩) | (go_at_call 25; refine (c_atanhN2 _ _ (by first | with_reducible assumption | exact E.refl _) (by with_reducible assumption) _ _ (by with_reducible assumption)).mono ?_; rintro e w' ⟨r, rfl, hr, hs⟩) | (refine wpList_fop rfl _ _ _ _ _ rfl _ rfl _ _ rfl rfl _ _ (by first | with_reducible assumption | exact E.refl _) (by first | with_reducible assumption | exact E.refl _) _ (by with_reducible assumption) ?_; intro r w' hr hs) | (refine wpList_fcmp rfl _ _ _ _ _ rfl _ rfl _ _ rfl rfl _ _ (by first | with_reducible assumption | exact E.refl _) (by first | with_reducible assumption | exact E.refl _) (fun hb => ?_) (fun hb => ?_) <;> (try first | exact Bool.noConfusion ((hb.symm.trans (by with_reducible assumption)) : true = false) | exact Bool.noConfusion ((hb.symm.trans (by with_reducible assumption)) : false = true))) | (refine wpList_fneg rfl _ _ rfl _ rfl _ (by first | with_reducible assumption | exact E.refl _) ?_; intro r hr) | (go_at_call 22; refine (c_size _ _ (by first | with_reducible assumption | exact E.refl _)  _ _ (by with_reducible assumption)).mono ?_; rintro e w' ⟨r, rfl, hr, hs⟩) | (go_at_call 17; refine (c_sin _ _ (by first | with_reducible assumption | exact E.refl _) (by with_reducible assumption) _ _ (by with_reducible assumption) (by with_reducible assumption)).mono ?_; rintro e w' ⟨r, rfl, hr, hs⟩) | (go_at_call 19; refine (c_tan _ _ (by first | with_reducible assumption | exact E.refl _) (by with_reducible assumption) _ _ (by with_reducible assumption) (by with_reducible assumption)).mono ?_; rintro e w' ⟨r, rfl, hr, hs⟩) | (go_at_call 16; refine (c_asin _ _ (by first | with_reducible assumption | exact E.refl _)  _ _ (by with_reducible assumption)).mono ?_; rintro e w' ⟨r, rfl, hr, hs⟩) | (go_at_call 18; refine (c_atan _ _ (by first | with_reducible assumption | exact E.refl _)  _ _ (by with_reducible assumption)).mono ?_; rintro e w' ⟨r, rfl, hr, hs⟩) | (go_at_call 23; refine (c_same _ _ (by first | with_reducible assumption | exact E.refl _) _ _ (by first | with_reducible assumption | exact E.refl _)  _ _ (by with_reducible assumption)).mono ?_; rintro e w' ⟨⟨hb, rfl⟩ | ⟨hb, rfl⟩, hs⟩ <;> (try first | exact Bool.noConfusion ((hb.symm.trans (by with_reducible assumption)) : true = false) | exact Bool.noConfusion ((hb.symm.trans (by with_reducible assumption)) : false = true))) | (go_at_call 21; refine (c_cos _ _ (by first | with_reducible assumption | exact E.refl _) (by with_reducible assumption) _ _ (by with_reducible assumption) (by with_reducible assumption)).mono ?_; rintro e w' ⟨r, rfl, hr, hs⟩))
  all_goals (go_ret; exact ⟨.inl ⟨rfl, rfl⟩, (by assumption)⟩)

end Go.Proofs.YtgbdplmpojkklaaDoor
