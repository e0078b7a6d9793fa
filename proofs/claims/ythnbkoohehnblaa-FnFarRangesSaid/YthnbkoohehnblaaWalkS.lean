/-
Contracts of the reference's functions and of the arc tangent, each walked once.
-/
import Derived.Test.YthnbkoohehnblaaBase
namespace Go.Proofs.Ythnbkoohehnblaa
open Go.RowKit

set_option maxHeartbeats 400000 in
theorem c_inf   (w0 w : World) (hs : St w0 w) : Calls Try.prog 18 #[] w (RF infF w0) := by
  go_enter Try.func18, Try.ntmps18
  go_wp2_with (first | (refine wpList_fop rfl _ _ _ _ _ rfl _ rfl _ _ rfl rfl _ _ (by first | assumption | exact E.refl _) (by first | assumption | exact E.refl _) _ (by assumption) ?_; intro r w' hr hs) | (refine wpList_fcmp rfl _ _ _ _ _ rfl _ rfl _ _ rfl rfl _ _ (by first | assumption | exact E.refl _) (by first | assumption | exact E.refl _) (fun hb => ?_) (fun hb => ?_) <;> (try first | exact Bool.noConfusion ((hb.symm.trans (by assumption)) : true = false) | exact Bool.noConfusion ((hb.symm.trans (by assumption)) : false = true))) | (refine wpList_fneg rfl _ _ rfl _ rfl _ (by first | assumption | exact E.refl _) ?_; intro r hr))
  all_goals (go_ret; exact ⟨_, rfl, (by first | assumption | (simp [infF, one, *]; done)), (by assumption)⟩)

set_option maxHeartbeats 400000 in
theorem c_nanv   (w0 w : World) (hs : St w0 w) : Calls Try.prog 32 #[] w (RF nanF w0) := by
  go_enter Try.func32, Try.ntmps32
  go_wp2_with (first | (refine wpList_fop rfl _ _ _ _ _ rfl _ rfl _ _ rfl rfl _ _ (by first | assumption | exact E.refl _) (by first | assumption | exact E.refl _) _ (by assumption) ?_; intro r w' hr hs) | (refine wpList_fcmp rfl _ _ _ _ _ rfl _ rfl _ _ rfl rfl _ _ (by first | assumption | exact E.refl _) (by first | assumption | exact E.refl _) (fun hb => ?_) (fun hb => ?_) <;> (try first | exact Bool.noConfusion ((hb.symm.trans (by assumption)) : true = false) | exact Bool.noConfusion ((hb.symm.trans (by assumption)) : false = true))) | (refine wpList_fneg rfl _ _ rfl _ rfl _ (by first | assumption | exact E.refl _) ?_; intro r hr))
  all_goals (go_ret; exact ⟨_, rfl, (by first | assumption | (simp [nanF, *]; done)), (by assumption)⟩)

set_option maxHeartbeats 400000 in
theorem c_isnan (x0 e0 : Nat) (h0 : E x0 e0)  (w0 w : World) (hs : St w0 w) : Calls Try.prog 10 #[.float .f64 x0] w (RB (isNanF e0) w0) := by
  go_enter Try.func10, Try.ntmps10
  go_wp2_with (first | (refine wpList_fop rfl _ _ _ _ _ rfl _ rfl _ _ rfl rfl _ _ (by first | assumption | exact E.refl _) (by first | assumption | exact E.refl _) _ (by assumption) ?_; intro r w' hr hs) | (refine wpList_fcmp rfl _ _ _ _ _ rfl _ rfl _ _ rfl rfl _ _ (by first | assumption | exact E.refl _) (by first | assumption | exact E.refl _) (fun hb => ?_) (fun hb => ?_) <;> (try first | exact Bool.noConfusion ((hb.symm.trans (by assumption)) : true = false) | exact Bool.noConfusion ((hb.symm.trans (by assumption)) : false = true))) | (refine wpList_fneg rfl _ _ rfl _ rfl _ (by first | assumption | exact E.refl _) ?_; intro r hr))
  all_goals (go_ret; first | exact ⟨.inl ⟨(by simp [isNanF, *]), rfl⟩, (by assumption)⟩ | exact ⟨.inr ⟨(by simp [isNanF, *]), rfl⟩, (by assumption)⟩)

set_option maxHeartbeats 400000 in
theorem c_isinf (x0 e0 : Nat) (h0 : E x0 e0)  (w0 w : World) (hs : St w0 w) : Calls Try.prog 34 #[.float .f64 x0] w (RB (isInfF e0) w0) := by
  go_enter Try.func34, Try.ntmps34
  go_wp2_with (first | (refine wpList_fop rfl _ _ _ _ _ rfl _ rfl _ _ rfl rfl _ _ (by first | assumption | exact E.refl _) (by first | assumption | exact E.refl _) _ (by assumption) ?_; intro r w' hr hs) | (refine wpList_fcmp rfl _ _ _ _ _ rfl _ rfl _ _ rfl rfl _ _ (by first | assumption | exact E.refl _) (by first | assumption | exact E.refl _) (fun hb => ?_) (fun hb => ?_) <;> (try first | exact Bool.noConfusion ((hb.symm.trans (by assumption)) : true = false) | exact Bool.noConfusion ((hb.symm.trans (by assumption)) : false = true))) | (refine wpList_fneg rfl _ _ rfl _ rfl _ (by first | assumption | exact E.refl _) ?_; intro r hr) | (go_at_call 18; refine (c_inf   _ _ (by assumption)).mono ?_; rintro e w' ⟨r, rfl, hr, hs⟩))
  all_goals (go_ret; first | exact ⟨.inl ⟨(by simp [isInfF, *]), rfl⟩, (by assumption)⟩ | exact ⟨.inr ⟨(by simp [isInfF, *]), rfl⟩, (by assumption)⟩)

set_option maxHeartbeats 400000 in
theorem c_isfin (x0 e0 : Nat) (h0 : E x0 e0)  (w0 w : World) (hs : St w0 w) : Calls Try.prog 20 #[.float .f64 x0] w (RB (isFiniteF e0) w0) := by
  go_enter Try.func20, Try.ntmps20
  go_wp2_with (first | (refine wpList_fop rfl _ _ _ _ _ rfl _ rfl _ _ rfl rfl _ _ (by first | assumption | exact E.refl _) (by first | assumption | exact E.refl _) _ (by assumption) ?_; intro r w' hr hs) | (refine wpList_fcmp rfl _ _ _ _ _ rfl _ rfl _ _ rfl rfl _ _ (by first | assumption | exact E.refl _) (by first | assumption | exact E.refl _) (fun hb => ?_) (fun hb => ?_) <;> (try first | exact Bool.noConfusion ((hb.symm.trans (by assumption)) : true = false) | exact Bool.noConfusion ((hb.symm.trans (by assumption)) : false = true))) | (refine wpList_fneg rfl _ _ rfl _ rfl _ (by first | assumption | exact E.refl _) ?_; intro r hr))
  all_goals (go_ret; first | exact ⟨.inl ⟨(by simp [isFiniteF, *]), rfl⟩, (by assumption)⟩ | exact ⟨.inr ⟨(by simp [isFiniteF, *]), rfl⟩, (by assumption)⟩)

set_option maxHeartbeats 400000 in
theorem c_minus (x0 e0 : Nat) (h0 : E x0 e0)  (w0 w : World) (hs : St w0 w) : Calls Try.prog 13 #[.float .f64 x0] w (RB (minusF e0) w0) := by
  go_enter Try.func13, Try.ntmps13
  go_wp2_with (first | (refine wpList_fop rfl _ _ _ _ _ rfl _ rfl _ _ rfl rfl _ _ (by first | assumption | exact E.refl _) (by first | assumption | exact E.refl _) _ (by assumption) ?_; intro r w' hr hs) | (refine wpList_fcmp rfl _ _ _ _ _ rfl _ rfl _ _ rfl rfl _ _ (by first | assumption | exact E.refl _) (by first | assumption | exact E.refl _) (fun hb => ?_) (fun hb => ?_) <;> (try first | exact Bool.noConfusion ((hb.symm.trans (by assumption)) : true = false) | exact Bool.noConfusion ((hb.symm.trans (by assumption)) : false = true))) | (refine wpList_fneg rfl _ _ rfl _ rfl _ (by first | assumption | exact E.refl _) ?_; intro r hr))
  all_goals (go_ret; first | exact ⟨.inl ⟨(by simp [minusF, one, *]), rfl⟩, (by assumption)⟩ | exact ⟨.inr ⟨(by simp [minusF, one, *]), rfl⟩, (by assumption)⟩)

set_option maxHeartbeats 400000 in
theorem c_size (x0 e0 : Nat) (h0 : E x0 e0)  (w0 w : World) (hs : St w0 w) : Calls Try.prog 21 #[.float .f64 x0] w (RF (sizeF e0) w0) := by
  go_enter Try.func21, Try.ntmps21
  go_wp2_with (first | (refine wpList_fop rfl _ _ _ _ _ rfl _ rfl _ _ rfl rfl _ _ (by first | assumption | exact E.refl _) (by first | assumption | exact E.refl _) _ (by assumption) ?_; intro r w' hr hs) | (refine wpList_fcmp rfl _ _ _ _ _ rfl _ rfl _ _ rfl rfl _ _ (by first | assumption | exact E.refl _) (by first | assumption | exact E.refl _) (fun hb => ?_) (fun hb => ?_) <;> (try first | exact Bool.noConfusion ((hb.symm.trans (by assumption)) : true = false) | exact Bool.noConfusion ((hb.symm.trans (by assumption)) : false = true))) | (refine wpList_fneg rfl _ _ rfl _ rfl _ (by first | assumption | exact E.refl _) ?_; intro r hr) | (go_at_call 13; refine (c_minus _ _ (by first | assumption | exact E.refl _)  _ _ (by assumption)).mono ?_; rintro e w' ⟨⟨hb, rfl⟩ | ⟨hb, rfl⟩, hs⟩ <;> (try first | exact Bool.noConfusion ((hb.symm.trans (by assumption)) : true = false) | exact Bool.noConfusion ((hb.symm.trans (by assumption)) : false = true))))
  all_goals (go_ret; exact ⟨_, rfl, (by first | assumption | (simp [sizeF, *]; done)), (by assumption)⟩)

set_option maxHeartbeats 400000 in
theorem c_like (x0 e0 : Nat) (h0 : E x0 e0) (x1 e1 : Nat) (h1 : E x1 e1)  (w0 w : World) (hs : St w0 w) : Calls Try.prog 17 #[.float .f64 x0, .float .f64 x1] w (RF (likeF e0 e1) w0) := by
  go_enter Try.func17, Try.ntmps17
  go_wp2_with (first | (refine wpList_fop rfl _ _ _ _ _ rfl _ rfl _ _ rfl rfl _ _ (by first | assumption | exact E.refl _) (by first | assumption | exact E.refl _) _ (by assumption) ?_; intro r w' hr hs) | (refine wpList_fcmp rfl _ _ _ _ _ rfl _ rfl _ _ rfl rfl _ _ (by first | assumption | exact E.refl _) (by first | assumption | exact E.refl _) (fun hb => ?_) (fun hb => ?_) <;> (try first | exact Bool.noConfusion ((hb.symm.trans (by assumption)) : true = false) | exact Bool.noConfusion ((hb.symm.trans (by assumption)) : false = true))) | (refine wpList_fneg rfl _ _ rfl _ rfl _ (by first | assumption | exact E.refl _) ?_; intro r hr) | (go_at_call 13; refine (c_minus _ _ (by first | assumption | exact E.refl _)  _ _ (by assumption)).mono ?_; rintro e w' ⟨⟨hb, rfl⟩ | ⟨hb, rfl⟩, hs⟩ <;> (try first | exact Bool.noConfusion ((hb.symm.trans (by assumption)) : true = false) | exact Bool.noConfusion ((hb.symm.trans (by assumption)) : false = true))) | (go_at_call 21; refine (c_size _ _ (by first | assumption | exact E.refl _)  _ _ (by assumption)).mono ?_; rintro e w' ⟨r, rfl, hr, hs⟩))
  all_goals (go_ret; exact ⟨_, rfl, (by first | assumption | (simp [likeF, *]; done)), (by assumption)⟩)

set_option maxHeartbeats 400000 in
theorem c_same (x0 e0 : Nat) (h0 : E x0 e0) (x1 e1 : Nat) (h1 : E x1 e1)  (w0 w : World) (hs : St w0 w) : Calls Try.prog 16 #[.float .f64 x0, .float .f64 x1] w (RB (sameF e0 e1) w0) := by
  go_enter Try.func16, Try.ntmps16
  go_wp2_with (first | (refine wpList_fop rfl _ _ _ _ _ rfl _ rfl _ _ rfl rfl _ _ (by first | assumption | exact E.refl _) (by first | assumption | exact E.refl _) _ (by assumption) ?_; intro r w' hr hs) | (refine wpList_fcmp rfl _ _ _ _ _ rfl _ rfl _ _ rfl rfl _ _ (by first | assumption | exact E.refl _) (by first | assumption | exact E.refl _) (fun hb => ?_) (fun hb => ?_) <;> (try first | exact Bool.noConfusion ((hb.symm.trans (by assumption)) : true = false) | exact Bool.noConfusion ((hb.symm.trans (by assumption)) : false = true))) | (refine wpList_fneg rfl _ _ rfl _ rfl _ (by first | assumption | exact E.refl _) ?_; intro r hr) | (go_at_call 10; refine (c_isnan _ _ (by first | assumption | exact E.refl _)  _ _ (by assumption)).mono ?_; rintro e w' ⟨⟨hb, rfl⟩ | ⟨hb, rfl⟩, hs⟩ <;> (try first | exact Bool.noConfusion ((hb.symm.trans (by assumption)) : true = false) | exact Bool.noConfusion ((hb.symm.trans (by assumption)) : false = true))) | (go_at_call 13; refine (c_minus _ _ (by first | assumption | exact E.refl _)  _ _ (by assumption)).mono ?_; rintro e w' ⟨⟨hb, rfl⟩ | ⟨hb, rfl⟩, hs⟩ <;> (try first | exact Bool.noConfusion ((hb.symm.trans (by assumption)) : true = false) | exact Bool.noConfusion ((hb.symm.trans (by assumption)) : false = true))))
  all_goals (go_ret; first | exact ⟨.inl ⟨(by simp [sameF, *]), rfl⟩, (by assumption)⟩ | exact ⟨.inr ⟨(by simp [sameF, *]), rfl⟩, (by assumption)⟩)

set_option maxHeartbeats 400000 in
theorem c_beyond (x0 e0 : Nat) (h0 : E x0 e0)  (w0 w : World) (hs : St w0 w) : Calls Try.prog 15 #[.float .f64 x0] w (RB (beyondF e0) w0) := by
  go_enter Try.func15, Try.ntmps15
  go_wp2_with (first | (refine wpList_fop rfl _ _ _ _ _ rfl _ rfl _ _ rfl rfl _ _ (by first | assumption | exact E.refl _) (by first | assumption | exact E.refl _) _ (by assumption) ?_; intro r w' hr hs) | (refine wpList_fcmp rfl _ _ _ _ _ rfl _ rfl _ _ rfl rfl _ _ (by first | assumption | exact E.refl _) (by first | assumption | exact E.refl _) (fun hb => ?_) (fun hb => ?_) <;> (try first | exact Bool.noConfusion ((hb.symm.trans (by assumption)) : true = false) | exact Bool.noConfusion ((hb.symm.trans (by assumption)) : false = true))) | (refine wpList_fneg rfl _ _ rfl _ rfl _ (by first | assumption | exact E.refl _) ?_; intro r hr))
  all_goals (go_ret; first | exact ⟨.inl ⟨(by simp [beyondF, one, *]), rfl⟩, (by assumption)⟩ | exact ⟨.inr ⟨(by simp [beyondF, one, *]), rfl⟩, (by assumption)⟩)

set_option maxHeartbeats 400000 in
theorem c_misnan (x0 e0 : Nat) (h0 : E x0 e0)  (w0 w : World) (hs : St w0 w) : Calls Try.prog 35 #[.float .f64 x0] w (RB (isNanF e0) w0) := by
  go_enter Try.func35, Try.ntmps35
  go_wp2_with (first | (refine wpList_fop rfl _ _ _ _ _ rfl _ rfl _ _ rfl rfl _ _ (by first | assumption | exact E.refl _) (by first | assumption | exact E.refl _) _ (by assumption) ?_; intro r w' hr hs) | (refine wpList_fcmp rfl _ _ _ _ _ rfl _ rfl _ _ rfl rfl _ _ (by first | assumption | exact E.refl _) (by first | assumption | exact E.refl _) (fun hb => ?_) (fun hb => ?_) <;> (try first | exact Bool.noConfusion ((hb.symm.trans (by assumption)) : true = false) | exact Bool.noConfusion ((hb.symm.trans (by assumption)) : false = true))) | (refine wpList_fneg rfl _ _ rfl _ rfl _ (by first | assumption | exact E.refl _) ?_; intro r hr))
  all_goals (go_ret; first | exact ⟨.inl ⟨(by simp [isNanF, *]), rfl⟩, (by assumption)⟩ | exact ⟨.inr ⟨(by simp [isNanF, *]), rfl⟩, (by assumption)⟩)

end Go.Proofs.Ythnbkoohehnblaa
