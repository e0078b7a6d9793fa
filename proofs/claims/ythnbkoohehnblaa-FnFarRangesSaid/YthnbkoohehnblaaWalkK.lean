/-
Asinh, Acosh, Atanh, walked.
-/
import Derived.Test.YthnbkoohehnblaaWalkH
import Derived.Test.YthnbkoohehnblaaWalkLg
namespace Go.Proofs.Ythnbkoohehnblaa
open Go.RowKit

set_option maxHeartbeats 400000 in
theorem c_infv1 (w0 w : World) (hs : St w0 w) : Calls Try.prog 41 #[.int .i64 1] w (RF 9218868437227405312 w0) := by
  have e2 := ext_frombits
  go_enter Try.func41, Try.ntmps41
  go_wp2
  go_ret
  exact ⟨_, rfl, .inl rfl, hs⟩
set_option maxHeartbeats 400000 in
theorem c_infvm (w0 w : World) (hs : St w0 w) : Calls Try.prog 41 #[.int .i64 (-1)] w (RF 18442240474082181120 w0) := by
  have e2 := ext_frombits
  go_enter Try.func41, Try.ntmps41
  go_wp2
  go_ret
  exact ⟨_, rfl, .inl rfl, hs⟩

theorem isNanF_fneg' {x : Nat} (hl : W64 x) (h : isNanF x = false) : isNanF (fneg x) = false := (isNanF_fneg hl).trans h

set_option maxHeartbeats 400000 in
theorem c_log1p1 (x0 e0 : Nat) (h0 : E x0 e0) (hp : PF e0) (w0 w : World) (hs : St w0 w) : Calls Try.prog 39 #[.float .f64 x0] w (RF (log1pF e0) w0) := by
  go_enter Try.func39, Try.ntmps39
  go_wp2_with (go_at_call 47; refine (c_log1p0 _ _ (by first | with_reducible assumption | exact E.refl _) (by with_reducible assumption) _ _ (by with_reducible assumption)).mono ?_; rintro e w' ⟨r, rfl, hr, hs⟩)
  go_ret
  exact ⟨_, rfl, (by with_reducible assumption), (by with_reducible assumption)⟩

set_option maxRecDepth 100000 in
set_option maxHeartbeats 4000000 in
theorem c_asinh0 (x0 e0 : Nat) (h0 : E x0 e0) (hl0 : W64 e0) (w0 w : World) (hs : St w0 w) : Calls Try.prog 27 #[.float .f64 x0] w (RF (asinhF e0) w0) := by
  have hw1 : W64 (fneg e0) := fneg_lt e0 hl0
  go_enter Try.func27, Try.ntmps27
  go_wp2_with (first | (go_at_call 36; (with_reducible refine (c_infa _ _ (by first | with_reducible assumption | exact E.refl _) (by with_reducible assumption) _ _ (by with_reducible assumption)).mono ?_); rintro e w' ⟨⟨hb, rfl⟩ | ⟨hb, rfl⟩, hs⟩ <;> (try first | exact Bool.noConfusion ((hb.symm.trans (by with_reducible assumption)) : true = false) | exact Bool.noConfusion ((hb.symm.trans (by with_reducible assumption)) : false = true))) | (go_at_call 39; refine (c_log1p1 _ _ (by first | with_reducible assumption | exact E.refl _) (by first | exact asinh_pf_w hl0 (by with_reducible assumption) (by with_reducible assumption) (by with_reducible assumption) (by with_reducible assumption) | exact asinh_pf_w hw1 (isNanF_fneg' hl0 (by with_reducible assumption)) (neg_flt hl0 (by with_reducible assumption) (by with_reducible assumption)) (by with_reducible assumption) (by with_reducible assumption)) _ _ (by with_reducible assumption)).mono ?_; rintro e w' ⟨r, rfl, hr, hs⟩) | (refine wpList_fop rfl _ _ _ _ _ rfl _ rfl _ _ rfl rfl _ _ (by first | with_reducible assumption | exact E.refl _) (by first | with_reducible assumption | exact E.refl _) _ (by with_reducible assumption) ?_; intro r w' hr hs) | (refine wpList_fcmp rfl _ _ _ _ _ rfl _ rfl _ _ rfl rfl _ _ (by first | with_reducible assumption | exact E.refl _) (by first | with_reducible assumption | exact E.refl _) (fun hb => ?_) (fun hb => ?_) <;> (try first | exact Bool.noConfusion ((hb.symm.trans (by with_reducible assumption)) : true = false) | exact Bool.noConfusion ((hb.symm.trans (by with_reducible assumption)) : false = true))) | (refine wpList_fneg rfl _ _ rfl _ rfl _ (by first | with_reducible assumption | exact E.refl _) ?_; intro r hr) | (go_at_call 35; refine (c_misnan _ _ (by first | with_reducible assumption | exact E.refl _)  _ _ (by with_reducible assumption)).mono ?_; rintro e w' ⟨⟨hb, rfl⟩ | ⟨hb, rfl⟩, hs⟩ <;> (try first | exact Bool.noConfusion ((hb.symm.trans (by with_reducible assumption)) : true = false) | exact Bool.noConfusion ((hb.symm.trans (by with_reducible assumption)) : false = true))) | (go_at_call 37; refine (c_log _ _ (by first | with_reducible assumption | exact E.refl _) (by first | with_reducible assumption | exact fadd_lt _ _ | exact fsub_lt _ _) _ _ (by with_reducible assumption)).mono ?_; rintro e w' ⟨r, rfl, hr, hs⟩) | (go_at_call 38; refine (c_sqrt _ _ (by first | with_reducible assumption | exact E.refl _)  _ _ (by with_reducible assumption)).mono ?_; rintro e w' ⟨r, rfl, hr, hs⟩))
  all_goals (go_ret; exact ⟨_, rfl, (by first | with_reducible assumption | (simp [asinhF, asinhA, one, *]; done) | (simp [asinhF, asinhA, one, *]; exact E.refl _)), (by with_reducible assumption)⟩)

set_option maxHeartbeats 400000 in
theorem c_asinh1 (x0 e0 : Nat) (h0 : E x0 e0) (hl0 : W64 e0) (w0 w : World) (hs : St w0 w) : Calls Try.prog 22 #[.float .f64 x0] w (RF (asinhF e0) w0) := by
  go_enter Try.func22, Try.ntmps22
  go_wp2_with (first | (refine wpList_fop rfl _ _ _ _ _ rfl _ rfl _ _ rfl rfl _ _ (by first | with_reducible assumption | exact E.refl _) (by first | with_reducible assumption | exact E.refl _) _ (by with_reducible assumption) ?_; intro r w' hr hs) | (refine wpList_fcmp rfl _ _ _ _ _ rfl _ rfl _ _ rfl rfl _ _ (by first | with_reducible assumption | exact E.refl _) (by first | with_reducible assumption | exact E.refl _) (fun hb => ?_) (fun hb => ?_) <;> (try first | exact Bool.noConfusion ((hb.symm.trans (by with_reducible assumption)) : true = false) | exact Bool.noConfusion ((hb.symm.trans (by with_reducible assumption)) : false = true))) | (refine wpList_fneg rfl _ _ rfl _ rfl _ (by first | with_reducible assumption | exact E.refl _) ?_; intro r hr) | (go_at_call 27; refine (c_asinh0 _ _ (by first | with_reducible assumption | exact E.refl _) (by with_reducible assumption) _ _ (by with_reducible assumption)).mono ?_; rintro e w' ⟨r, rfl, hr, hs⟩))
  all_goals (go_ret; exact ⟨_, rfl, (by first | with_reducible assumption | (simp [asinhF, *]; done) | (simp [asinhF, *]; exact E.refl _)), (by with_reducible assumption)⟩)

set_option maxHeartbeats 400000 in
theorem c_asinh (x0 e0 : Nat) (h0 : E x0 e0) (hl0 : W64 e0) (w0 w : World) (hs : St w0 w) : Calls Try.prog 11 #[.float .f64 x0] w (RF (asinhF e0) w0) := by
  go_enter Try.func11, Try.ntmps11
  go_wp2_with (first | (refine wpList_fop rfl _ _ _ _ _ rfl _ rfl _ _ rfl rfl _ _ (by first | with_reducible assumption | exact E.refl _) (by first | with_reducible assumption | exact E.refl _) _ (by with_reducible assumption) ?_; intro r w' hr hs) | (refine wpList_fcmp rfl _ _ _ _ _ rfl _ rfl _ _ rfl rfl _ _ (by first | with_reducible assumption | exact E.refl _) (by first | with_reducible assumption | exact E.refl _) (fun hb => ?_) (fun hb => ?_) <;> (try first | exact Bool.noConfusion ((hb.symm.trans (by with_reducible assumption)) : true = false) | exact Bool.noConfusion ((hb.symm.trans (by with_reducible assumption)) : false = true))) | (refine wpList_fneg rfl _ _ rfl _ rfl _ (by first | with_reducible assumption | exact E.refl _) ?_; intro r hr) | (go_at_call 22; refine (c_asinh1 _ _ (by first | with_reducible assumption | exact E.refl _) (by with_reducible assumption) _ _ (by with_reducible assumption)).mono ?_; rintro e w' ⟨r, rfl, hr, hs⟩))
  all_goals (go_ret; exact ⟨_, rfl, (by first | with_reducible assumption | (simp [asinhF, *]; done) | (simp [asinhF, *]; exact E.refl _)), (by with_reducible assumption)⟩)

set_option maxRecDepth 100000 in
set_option maxHeartbeats 4000000 in
theorem c_acosh0 (x0 e0 : Nat) (h0 : E x0 e0) (hl0 : W64 e0) (w0 w : World) (hs : St w0 w) : Calls Try.prog 31 #[.float .f64 x0] w (RF (acoshF e0) w0) := by
  go_enter Try.func31, Try.ntmps31
  go_wp2_with (first | (go_at_call 39; refine (c_log1p1 _ _ (by first | with_reducible assumption | exact E.refl _) (by first | exact acosh_pf_w hl0 (by with_reducible assumption) (by with_reducible assumption) (by with_reducible assumption) (by with_reducible assumption)) _ _ (by with_reducible assumption)).mono ?_; rintro e w' ⟨r, rfl, hr, hs⟩) | (refine wpList_fop rfl _ _ _ _ _ rfl _ rfl _ _ rfl rfl _ _ (by first | with_reducible assumption | exact E.refl _) (by first | with_reducible assumption | exact E.refl _) _ (by with_reducible assumption) ?_; intro r w' hr hs) | (refine wpList_fcmp rfl _ _ _ _ _ rfl _ rfl _ _ rfl rfl _ _ (by first | with_reducible assumption | exact E.refl _) (by first | with_reducible assumption | exact E.refl _) (fun hb => ?_) (fun hb => ?_) <;> (try first | exact Bool.noConfusion ((hb.symm.trans (by with_reducible assumption)) : true = false) | exact Bool.noConfusion ((hb.symm.trans (by with_reducible assumption)) : false = true))) | (refine wpList_fneg rfl _ _ rfl _ rfl _ (by first | with_reducible assumption | exact E.refl _) ?_; intro r hr) | (go_at_call 35; refine (c_misnan _ _ (by first | with_reducible assumption | exact E.refl _)  _ _ (by with_reducible assumption)).mono ?_; rintro e w' ⟨⟨hb, rfl⟩ | ⟨hb, rfl⟩, hs⟩ <;> (try first | exact Bool.noConfusion ((hb.symm.trans (by with_reducible assumption)) : true = false) | exact Bool.noConfusion ((hb.symm.trans (by with_reducible assumption)) : false = true))) | (go_at_call 40; refine (c_nan   _ _ (by with_reducible assumption)).mono ?_; rintro e w' ⟨r, rfl, hr, hs⟩) | (go_at_call 37; refine (c_log _ _ (by first | with_reducible assumption | exact E.refl _) (by first | with_reducible assumption | exact fadd_lt _ _ | exact fsub_lt _ _) _ _ (by with_reducible assumption)).mono ?_; rintro e w' ⟨r, rfl, hr, hs⟩) | (go_at_call 38; refine (c_sqrt _ _ (by first | with_reducible assumption | exact E.refl _)  _ _ (by with_reducible assumption)).mono ?_; rintro e w' ⟨r, rfl, hr, hs⟩))
  all_goals (go_ret; exact ⟨_, rfl, (by first | with_reducible assumption | (simp [acoshF, one, *]; done) | (simp [acoshF, one, *]; exact E.refl _)), (by with_reducible assumption)⟩)

set_option maxHeartbeats 400000 in
theorem c_acosh1 (x0 e0 : Nat) (h0 : E x0 e0) (hl0 : W64 e0) (w0 w : World) (hs : St w0 w) : Calls Try.prog 24 #[.float .f64 x0] w (RF (acoshF e0) w0) := by
  go_enter Try.func24, Try.ntmps24
  go_wp2_with (first | (refine wpList_fop rfl _ _ _ _ _ rfl _ rfl _ _ rfl rfl _ _ (by first | with_reducible assumption | exact E.refl _) (by first | with_reducible assumption | exact E.refl _) _ (by with_reducible assumption) ?_; intro r w' hr hs) | (refine wpList_fcmp rfl _ _ _ _ _ rfl _ rfl _ _ rfl rfl _ _ (by first | with_reducible assumption | exact E.refl _) (by first | with_reducible assumption | exact E.refl _) (fun hb => ?_) (fun hb => ?_) <;> (try first | exact Bool.noConfusion ((hb.symm.trans (by with_reducible assumption)) : true = false) | exact Bool.noConfusion ((hb.symm.trans (by with_reducible assumption)) : false = true))) | (refine wpList_fneg rfl _ _ rfl _ rfl _ (by first | with_reducible assumption | exact E.refl _) ?_; intro r hr) | (go_at_call 31; refine (c_acosh0 _ _ (by first | with_reducible assumption | exact E.refl _) (by with_reducible assumption) _ _ (by with_reducible assumption)).mono ?_; rintro e w' ⟨r, rfl, hr, hs⟩))
  all_goals (go_ret; exact ⟨_, rfl, (by first | with_reducible assumption | (simp [acoshF, *]; done) | (simp [acoshF, *]; exact E.refl _)), (by with_reducible assumption)⟩)

set_option maxHeartbeats 400000 in
theorem c_acosh (x0 e0 : Nat) (h0 : E x0 e0) (hl0 : W64 e0) (w0 w : World) (hs : St w0 w) : Calls Try.prog 14 #[.float .f64 x0] w (RF (acoshF e0) w0) := by
  go_enter Try.func14, Try.ntmps14
  go_wp2_with (first | (refine wpList_fop rfl _ _ _ _ _ rfl _ rfl _ _ rfl rfl _ _ (by first | with_reducible assumption | exact E.refl _) (by first | with_reducible assumption | exact E.refl _) _ (by with_reducible assumption) ?_; intro r w' hr hs) | (refine wpList_fcmp rfl _ _ _ _ _ rfl _ rfl _ _ rfl rfl _ _ (by first | with_reducible assumption | exact E.refl _) (by first | with_reducible assumption | exact E.refl _) (fun hb => ?_) (fun hb => ?_) <;> (try first | exact Bool.noConfusion ((hb.symm.trans (by with_reducible assumption)) : true = false) | exact Bool.noConfusion ((hb.symm.trans (by with_reducible assumption)) : false = true))) | (refine wpList_fneg rfl _ _ rfl _ rfl _ (by first | with_reducible assumption | exact E.refl _) ?_; intro r hr) | (go_at_call 24; refine (c_acosh1 _ _ (by first | with_reducible assumption | exact E.refl _) (by with_reducible assumption) _ _ (by with_reducible assumption)).mono ?_; rintro e w' ⟨r, rfl, hr, hs⟩))
  all_goals (go_ret; exact ⟨_, rfl, (by first | with_reducible assumption | (simp [acoshF, *]; done) | (simp [acoshF, *]; exact E.refl _)), (by with_reducible assumption)⟩)

set_option maxRecDepth 100000 in
set_option maxHeartbeats 4000000 in
theorem c_atanh0 (x0 e0 : Nat) (h0 : E x0 e0) (hl0 : W64 e0) (w0 w : World) (hs : St w0 w) : Calls Try.prog 29 #[.float .f64 x0] w (RF (atanhF e0) w0) := by
  have hw1 : W64 (fneg e0) := fneg_lt e0 hl0
  go_enter Try.func29, Try.ntmps29
  go_wp2_with (first | (go_at_call 41; (with_reducible refine (c_infv1 _ _ (by with_reducible assumption)).mono ?_); rintro e w' ⟨r, rfl, hr, hs⟩) | (go_at_call 41; (with_reducible refine (c_infvm _ _ (by with_reducible assumption)).mono ?_); rintro e w' ⟨r, rfl, hr, hs⟩) | (go_at_call 39; refine (c_log1p1 _ _ (by first | with_reducible assumption | exact E.refl _) (by first | exact atanh_pf1_w hl0 (by with_reducible assumption) (by with_reducible assumption) (by with_reducible assumption) | exact atanh_pf1_w hw1 (isNanF_fneg' hl0 (by with_reducible assumption)) (by with_reducible assumption) (by with_reducible assumption) | exact atanh_pf2_w hl0 (by with_reducible assumption) (by with_reducible assumption) (by with_reducible assumption) (by with_reducible assumption) | exact atanh_pf2_w hw1 (isNanF_fneg' hl0 (by with_reducible assumption)) (by with_reducible assumption) (neg_tests hl0 (by with_reducible assumption) (by with_reducible assumption) (by with_reducible assumption) (by with_reducible assumption)).1 (neg_tests hl0 (by with_reducible assumption) (by with_reducible assumption) (by with_reducible assumption) (by with_reducible assumption)).2.1) _ _ (by with_reducible assumption)).mono ?_; rintro e w' ⟨r, rfl, hr, hs⟩) | (refine wpList_fop rfl _ _ _ _ _ rfl _ rfl _ _ rfl rfl _ _ (by first | with_reducible assumption | exact E.refl _) (by first | with_reducible assumption | exact E.refl _) _ (by with_reducible assumption) ?_; intro r w' hr hs) | (refine wpList_fcmp rfl _ _ _ _ _ rfl _ rfl _ _ rfl rfl _ _ (by first | with_reducible assumption | exact E.refl _) (by first | with_reducible assumption | exact E.refl _) (fun hb => ?_) (fun hb => ?_) <;> (try first | exact Bool.noConfusion ((hb.symm.trans (by with_reducible assumption)) : true = false) | exact Bool.noConfusion ((hb.symm.trans (by with_reducible assumption)) : false = true))) | (refine wpList_fneg rfl _ _ rfl _ rfl _ (by first | with_reducible assumption | exact E.refl _) ?_; intro r hr) | (go_at_call 35; refine (c_misnan _ _ (by first | with_reducible assumption | exact E.refl _)  _ _ (by with_reducible assumption)).mono ?_; rintro e w' ⟨⟨hb, rfl⟩ | ⟨hb, rfl⟩, hs⟩ <;> (try first | exact Bool.noConfusion ((hb.symm.trans (by with_reducible assumption)) : true = false) | exact Bool.noConfusion ((hb.symm.trans (by with_reducible assumption)) : false = true))) | (go_at_call 40; refine (c_nan   _ _ (by with_reducible assumption)).mono ?_; rintro e w' ⟨r, rfl, hr, hs⟩))
  all_goals (go_ret; exact ⟨_, rfl, (by first | with_reducible assumption | (simp [atanhF, atanhA, one, *]; done) | (simp [atanhF, atanhA, one, *]; exact E.refl _)), (by with_reducible assumption)⟩)

set_option maxHeartbeats 400000 in
theorem c_atanh1 (x0 e0 : Nat) (h0 : E x0 e0) (hl0 : W64 e0) (w0 w : World) (hs : St w0 w) : Calls Try.prog 23 #[.float .f64 x0] w (RF (atanhF e0) w0) := by
  go_enter Try.func23, Try.ntmps23
  go_wp2_with (first | (refine wpList_fop rfl _ _ _ _ _ rfl _ rfl _ _ rfl rfl _ _ (by first | with_reducible assumption | exact E.refl _) (by first | with_reducible assumption | exact E.refl _) _ (by with_reducible assumption) ?_; intro r w' hr hs) | (refine wpList_fcmp rfl _ _ _ _ _ rfl _ rfl _ _ rfl rfl _ _ (by first | with_reducible assumption | exact E.refl _) (by first | with_reducible assumption | exact E.refl _) (fun hb => ?_) (fun hb => ?_) <;> (try first | exact Bool.noConfusion ((hb.symm.trans (by with_reducible assumption)) : true = false) | exact Bool.noConfusion ((hb.symm.trans (by with_reducible assumption)) : false = true))) | (refine wpList_fneg rfl _ _ rfl _ rfl _ (by first | with_reducible assumption | exact E.refl _) ?_; intro r hr) | (go_at_call 29; refine (c_atanh0 _ _ (by first | with_reducible assumption | exact E.refl _) (by with_reducible assumption) _ _ (by with_reducible assumption)).mono ?_; rintro e w' ⟨r, rfl, hr, hs⟩))
  all_goals (go_ret; exact ⟨_, rfl, (by first | with_reducible assumption | (simp [atanhF, *]; done) | (simp [atanhF, *]; exact E.refl _)), (by with_reducible assumption)⟩)

set_option maxHeartbeats 400000 in
theorem c_atanh (x0 e0 : Nat) (h0 : E x0 e0) (hl0 : W64 e0) (w0 w : World) (hs : St w0 w) : Calls Try.prog 12 #[.float .f64 x0] w (RF (atanhF e0) w0) := by
  go_enter Try.func12, Try.ntmps12
  go_wp2_with (first | (refine wpList_fop rfl _ _ _ _ _ rfl _ rfl _ _ rfl rfl _ _ (by first | with_reducible assumption | exact E.refl _) (by first | with_reducible assumption | exact E.refl _) _ (by with_reducible assumption) ?_; intro r w' hr hs) | (refine wpList_fcmp rfl _ _ _ _ _ rfl _ rfl _ _ rfl rfl _ _ (by first | with_reducible assumption | exact E.refl _) (by first | with_reducible assumption | exact E.refl _) (fun hb => ?_) (fun hb => ?_) <;> (try first | exact Bool.noConfusion ((hb.symm.trans (by with_reducible assumption)) : true = false) | exact Bool.noConfusion ((hb.symm.trans (by with_reducible assumption)) : false = true))) | (refine wpList_fneg rfl _ _ rfl _ rfl _ (by first | with_reducible assumption | exact E.refl _) ?_; intro r hr) | (go_at_call 23; refine (c_atanh1 _ _ (by first | with_reducible assumption | exact E.refl _) (by with_reducible assumption) _ _ (by with_reducible assumption)).mono ?_; rintro e w' ⟨r, rfl, hr, hs⟩))
  all_goals (go_ret; exact ⟨_, rfl, (by first | with_reducible assumption | (simp [atanhF, *]; done) | (simp [atanhF, *]; exact E.refl _)), (by with_reducible assumption)⟩)

end Go.Proofs.Ythnbkoohehnblaa
