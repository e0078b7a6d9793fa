/-
Contracts of the reference's functions and of the arc tangent, each walked once.
-/
import Derived.Test.YtgbdplmpojkklaaDoorBase
namespace Go.Proofs.YtgbdplmpojkklaaDoor
open Go.RowKit

set_option maxHeartbeats 400000 in
theorem c_inf   (w0 w : World) (hs : St w0 w) : Calls Tryd.prog 76 #[] w (RF infF w0) := by
  go_enter Tryd.func76, Tryd.ntmps76
  go_wp2_with (first | (refine wpList_fop rfl _ _ _ _ _ rfl _ rfl _ _ rfl rfl _ _ (by first | assumption | exact E.refl _) (by first | assumption | exact E.refl _) _ (by assumption) ?_; intro r w' hr hs) | (refine wpList_fcmp rfl _ _ _ _ _ rfl _ rfl _ _ rfl rfl _ _ (by first | assumption | exact E.refl _) (by first | assumption | exact E.refl _) (fun hb => ?_) (fun hb => ?_) <;> (try first | exact Bool.noConfusion ((hb.symm.trans (by assumption)) : true = false) | exact Bool.noConfusion ((hb.symm.trans (by assumption)) : false = true))) | (refine wpList_fneg rfl _ _ rfl _ rfl _ (by first | assumption | exact E.refl _) ?_; intro r hr))
  all_goals (go_ret; exact ⟨_, rfl, (by first | assumption | (simp [infF, one, *]; done)), (by assumption)⟩)

set_option maxHeartbeats 400000 in
theorem c_nanv   (w0 w : World) (hs : St w0 w) : Calls Tryd.prog 61 #[] w (RF nanF w0) := by
  go_enter Tryd.func61, Tryd.ntmps61
  go_wp2_with (first | (refine wpList_fop rfl _ _ _ _ _ rfl _ rfl _ _ rfl rfl _ _ (by first | assumption | exact E.refl _) (by first | assumption | exact E.refl _) _ (by assumption) ?_; intro r w' hr hs) | (refine wpList_fcmp rfl _ _ _ _ _ rfl _ rfl _ _ rfl rfl _ _ (by first | assumption | exact E.refl _) (by first | assumption | exact E.refl _) (fun hb => ?_) (fun hb => ?_) <;> (try first | exact Bool.noConfusion ((hb.symm.trans (by assumption)) : true = false) | exact Bool.noConfusion ((hb.symm.trans (by assumption)) : false = true))) | (refine wpList_fneg rfl _ _ rfl _ rfl _ (by first | assumption | exact E.refl _) ?_; intro r hr))
  all_goals (go_ret; exact ⟨_, rfl, (by first | assumption | (simp [nanF, *]; done)), (by assumption)⟩)

set_option maxHeartbeats 400000 in
theorem c_isnan (x0 e0 : Nat) (h0 : E x0 e0)  (w0 w : World) (hs : St w0 w) : Calls Tryd.prog 14 #[.float .f64 x0] w (RB (isNanF e0) w0) := by
  go_enter Tryd.func14, Tryd.ntmps14
  go_wp2_with (first | (refine wpList_fop rfl _ _ _ _ _ rfl _ rfl _ _ rfl rfl _ _ (by first | assumption | exact E.refl _) (by first | assumption | exact E.refl _) _ (by assumption) ?_; intro r w' hr hs) | (refine wpList_fcmp rfl _ _ _ _ _ rfl _ rfl _ _ rfl rfl _ _ (by first | assumption | exact E.refl _) (by first | assumption | exact E.refl _) (fun hb => ?_) (fun hb => ?_) <;> (try first | exact Bool.noConfusion ((hb.symm.trans (by assumption)) : true = false) | exact Bool.noConfusion ((hb.symm.trans (by assumption)) : false = true))) | (refine wpList_fneg rfl _ _ rfl _ rfl _ (by first | assumption | exact E.refl _) ?_; intro r hr))
  all_goals (go_ret; first | exact ⟨.inl ⟨(by simp [isNanF, *]), rfl⟩, (by assumption)⟩ | exact ⟨.inr ⟨(by simp [isNanF, *]), rfl⟩, (by assumption)⟩)

set_option maxHeartbeats 400000 in
theorem c_isinf (x0 e0 : Nat) (h0 : E x0 e0)  (w0 w : World) (hs : St w0 w) : Calls Tryd.prog 63 #[.float .f64 x0] w (RB (isInfF e0) w0) := by
  go_enter Tryd.func63, Tryd.ntmps63
  go_wp2_with (first | (refine wpList_fop rfl _ _ _ _ _ rfl _ rfl _ _ rfl rfl _ _ (by first | assumption | exact E.refl _) (by first | assumption | exact E.refl _) _ (by assumption) ?_; intro r w' hr hs) | (refine wpList_fcmp rfl _ _ _ _ _ rfl _ rfl _ _ rfl rfl _ _ (by first | assumption | exact E.refl _) (by first | assumption | exact E.refl _) (fun hb => ?_) (fun hb => ?_) <;> (try first | exact Bool.noConfusion ((hb.symm.trans (by assumption)) : true = false) | exact Bool.noConfusion ((hb.symm.trans (by assumption)) : false = true))) | (refine wpList_fneg rfl _ _ rfl _ rfl _ (by first | assumption | exact E.refl _) ?_; intro r hr) | (go_at_call 76; refine (c_inf   _ _ (by assumption)).mono ?_; rintro e w' ⟨r, rfl, hr, hs⟩))
  all_goals (go_ret; first | exact ⟨.inl ⟨(by simp [isInfF, *]), rfl⟩, (by assumption)⟩ | exact ⟨.inr ⟨(by simp [isInfF, *]), rfl⟩, (by assumption)⟩)

set_option maxHeartbeats 400000 in
theorem c_isfin (x0 e0 : Nat) (h0 : E x0 e0)  (w0 w : World) (hs : St w0 w) : Calls Tryd.prog 27 #[.float .f64 x0] w (RB (isFiniteF e0) w0) := by
  go_enter Tryd.func27, Tryd.ntmps27
  go_wp2_with (first | (refine wpList_fop rfl _ _ _ _ _ rfl _ rfl _ _ rfl rfl _ _ (by first | assumption | exact E.refl _) (by first | assumption | exact E.refl _) _ (by assumption) ?_; intro r w' hr hs) | (refine wpList_fcmp rfl _ _ _ _ _ rfl _ rfl _ _ rfl rfl _ _ (by first | assumption | exact E.refl _) (by first | assumption | exact E.refl _) (fun hb => ?_) (fun hb => ?_) <;> (try first | exact Bool.noConfusion ((hb.symm.trans (by assumption)) : true = false) | exact Bool.noConfusion ((hb.symm.trans (by assumption)) : false = true))) | (refine wpList_fneg rfl _ _ rfl _ rfl _ (by first | assumption | exact E.refl _) ?_; intro r hr))
  all_goals (go_ret; first | exact ⟨.inl ⟨(by simp [isFiniteF, *]), rfl⟩, (by assumption)⟩ | exact ⟨.inr ⟨(by simp [isFiniteF, *]), rfl⟩, (by assumption)⟩)

set_option maxHeartbeats 400000 in
theorem c_minus (x0 e0 : Nat) (h0 : E x0 e0)  (w0 w : World) (hs : St w0 w) : Calls Tryd.prog 36 #[.float .f64 x0] w (RB (minusF e0) w0) := by
  go_enter Tryd.func36, Tryd.ntmps36
  go_wp2_with (first | (refine wpList_fop rfl _ _ _ _ _ rfl _ rfl _ _ rfl rfl _ _ (by first | assumption | exact E.refl _) (by first | assumption | exact E.refl _) _ (by assumption) ?_; intro r w' hr hs) | (refine wpList_fcmp rfl _ _ _ _ _ rfl _ rfl _ _ rfl rfl _ _ (by first | assumption | exact E.refl _) (by first | assumption | exact E.refl _) (fun hb => ?_) (fun hb => ?_) <;> (try first | exact Bool.noConfusion ((hb.symm.trans (by assumption)) : true = false) | exact Bool.noConfusion ((hb.symm.trans (by assumption)) : false = true))) | (refine wpList_fneg rfl _ _ rfl _ rfl _ (by first | assumption | exact E.refl _) ?_; intro r hr))
  all_goals (go_ret; first | exact ⟨.inl ⟨(by simp [minusF, one, *]), rfl⟩, (by assumption)⟩ | exact ⟨.inr ⟨(by simp [minusF, one, *]), rfl⟩, (by assumption)⟩)

set_option maxHeartbeats 400000 in
theorem c_size (x0 e0 : Nat) (h0 : E x0 e0)  (w0 w : World) (hs : St w0 w) : Calls Tryd.prog 22 #[.float .f64 x0] w (RF (sizeF e0) w0) := by
  go_enter Tryd.func22, Tryd.ntmps22
  go_wp2_with (first | (refine wpList_fop rfl _ _ _ _ _ rfl _ rfl _ _ rfl rfl _ _ (by first | assumption | exact E.refl _) (by first | assumption | exact E.refl _) _ (by assumption) ?_; intro r w' hr hs) | (refine wpList_fcmp rfl _ _ _ _ _ rfl _ rfl _ _ rfl rfl _ _ (by first | assumption | exact E.refl _) (by first | assumption | exact E.refl _) (fun hb => ?_) (fun hb => ?_) <;> (try first | exact Bool.noConfusion ((hb.symm.trans (by assumption)) : true = false) | exact Bool.noConfusion ((hb.symm.trans (by assumption)) : false = true))) | (refine wpList_fneg rfl _ _ rfl _ rfl _ (by first | assumption | exact E.refl _) ?_; intro r hr) | (go_at_call 36; refine (c_minus _ _ (by first | assumption | exact E.refl _)  _ _ (by assumption)).mono ?_; rintro e w' ⟨⟨hb, rfl⟩ | ⟨hb, rfl⟩, hs⟩ <;> (try first | exact Bool.noConfusion ((hb.symm.trans (by assumption)) : true = false) | exact Bool.noConfusion ((hb.symm.trans (by assumption)) : false = true))))
  all_goals (go_ret; exact ⟨_, rfl, (by first | assumption | (simp [sizeF, *]; done)), (by assumption)⟩)

set_option maxHeartbeats 400000 in
theorem c_like (x0 e0 : Nat) (h0 : E x0 e0) (x1 e1 : Nat) (h1 : E x1 e1)  (w0 w : World) (hs : St w0 w) : Calls Tryd.prog 75 #[.float .f64 x0, .float .f64 x1] w (RF (likeF e0 e1) w0) := by
  go_enter Tryd.func75, Tryd.ntmps75
  go_wp2_with (first | (refine wpList_fop rfl _ _ _ _ _ rfl _ rfl _ _ rfl rfl _ _ (by first | assumption | exact E.refl _) (by first | assumption | exact E.refl _) _ (by assumption) ?_; intro r w' hr hs) | (refine wpList_fcmp rfl _ _ _ _ _ rfl _ rfl _ _ rfl rfl _ _ (by first | assumption | exact E.refl _) (by first | assumption | exact E.refl _) (fun hb => ?_) (fun hb => ?_) <;> (try first | exact Bool.noConfusion ((hb.symm.trans (by assumption)) : true = false) | exact Bool.noConfusion ((hb.symm.trans (by assumption)) : false = true))) | (refine wpList_fneg rfl _ _ rfl _ rfl _ (by first | assumption | exact E.refl _) ?_; intro r hr) | (go_at_call 36; refine (c_minus _ _ (by first | assumption | exact E.refl _)  _ _ (by assumption)).mono ?_; rintro e w' ⟨⟨hb, rfl⟩ | ⟨hb, rfl⟩, hs⟩ <;> (try first | exact Bool.noConfusion ((hb.symm.trans (by assumption)) : true = false) | exact Bool.noConfusion ((hb.symm.trans (by assumption)) : false = true))) | (go_at_call 22; refine (c_size _ _ (by first | assumption | exact E.refl _)  _ _ (by assumption)).mono ?_; rintro e w' ⟨r, rfl, hr, hs⟩))
  all_goals (go_ret; exact ⟨_, rfl, (by first | assumption | (simp [likeF, *]; done)), (by assumption)⟩)

set_option maxHeartbeats 400000 in
theorem c_same (x0 e0 : Nat) (h0 : E x0 e0) (x1 e1 : Nat) (h1 : E x1 e1)  (w0 w : World) (hs : St w0 w) : Calls Tryd.prog 23 #[.float .f64 x0, .float .f64 x1] w (RB (sameF e0 e1) w0) := by
  go_enter Tryd.func23, Tryd.ntmps23
  go_wp2_with (first | (refine wpList_fop rfl _ _ _ _ _ rfl _ rfl _ _ rfl rfl _ _ (by first | assumption | exact E.refl _) (by first | assumption | exact E.refl _) _ (by assumption) ?_; intro r w' hr hs) | (refine wpList_fcmp rfl _ _ _ _ _ rfl _ rfl _ _ rfl rfl _ _ (by first | assumption | exact E.refl _) (by first | assumption | exact E.refl _) (fun hb => ?_) (fun hb => ?_) <;> (try first | exact Bool.noConfusion ((hb.symm.trans (by assumption)) : true = false) | exact Bool.noConfusion ((hb.symm.trans (by assumption)) : false = true))) | (refine wpList_fneg rfl _ _ rfl _ rfl _ (by first | assumption | exact E.refl _) ?_; intro r hr) | (go_at_call 14; refine (c_isnan _ _ (by first | assumption | exact E.refl _)  _ _ (by assumption)).mono ?_; rintro e w' ⟨⟨hb, rfl⟩ | ⟨hb, rfl⟩, hs⟩ <;> (try first | exact Bool.noConfusion ((hb.symm.trans (by assumption)) : true = false) | exact Bool.noConfusion ((hb.symm.trans (by assumption)) : false = true))) | (go_at_call 36; refine (c_minus _ _ (by first | assumption | exact E.refl _)  _ _ (by assumption)).mono ?_; rintro e w' ⟨⟨hb, rfl⟩ | ⟨hb, rfl⟩, hs⟩ <;> (try first | exact Bool.noConfusion ((hb.symm.trans (by assumption)) : true = false) | exact Bool.noConfusion ((hb.symm.trans (by assumption)) : false = true))))
  all_goals (go_ret; first | exact ⟨.inl ⟨(by simp [sameF, *]), rfl⟩, (by assumption)⟩ | exact ⟨.inr ⟨(by simp [sameF, *]), rfl⟩, (by assumption)⟩)

set_option maxHeartbeats 400000 in
theorem c_beyond (x0 e0 : Nat) (h0 : E x0 e0)  (w0 w : World) (hs : St w0 w) : Calls Tryd.prog 13 #[.float .f64 x0] w (RB (beyondF e0) w0) := by
  go_enter Tryd.func13, Tryd.ntmps13
  go_wp2_with (first | (refine wpList_fop rfl _ _ _ _ _ rfl _ rfl _ _ rfl rfl _ _ (by first | assumption | exact E.refl _) (by first | assumption | exact E.refl _) _ (by assumption) ?_; intro r w' hr hs) | (refine wpList_fcmp rfl _ _ _ _ _ rfl _ rfl _ _ rfl rfl _ _ (by first | assumption | exact E.refl _) (by first | assumption | exact E.refl _) (fun hb => ?_) (fun hb => ?_) <;> (try first | exact Bool.noConfusion ((hb.symm.trans (by assumption)) : true = false) | exact Bool.noConfusion ((hb.symm.trans (by assumption)) : false = true))) | (refine wpList_fneg rfl _ _ rfl _ rfl _ (by first | assumption | exact E.refl _) ?_; intro r hr))
  all_goals (go_ret; first | exact ⟨.inl ⟨(by simp [beyondF, one, *]), rfl⟩, (by assumption)⟩ | exact ⟨.inr ⟨(by simp [beyondF, one, *]), rfl⟩, (by assumption)⟩)

set_option maxHeartbeats 400000 in
theorem c_misnan (x0 e0 : Nat) (h0 : E x0 e0)  (w0 w : World) (hs : St w0 w) : Calls Tryd.prog 57 #[.float .f64 x0] w (RB (isNanF e0) w0) := by
  go_enter Tryd.func57, Tryd.ntmps57
  go_wp2_with (first | (refine wpList_fop rfl _ _ _ _ _ rfl _ rfl _ _ rfl rfl _ _ (by first | assumption | exact E.refl _) (by first | assumption | exact E.refl _) _ (by assumption) ?_; intro r w' hr hs) | (refine wpList_fcmp rfl _ _ _ _ _ rfl _ rfl _ _ rfl rfl _ _ (by first | assumption | exact E.refl _) (by first | assumption | exact E.refl _) (fun hb => ?_) (fun hb => ?_) <;> (try first | exact Bool.noConfusion ((hb.symm.trans (by assumption)) : true = false) | exact Bool.noConfusion ((hb.symm.trans (by assumption)) : false = true))) | (refine wpList_fneg rfl _ _ rfl _ rfl _ (by first | assumption | exact E.refl _) ?_; intro r hr))
  all_goals (go_ret; first | exact ⟨.inl ⟨(by simp [isNanF, *]), rfl⟩, (by assumption)⟩ | exact ⟨.inr ⟨(by simp [isNanF, *]), rfl⟩, (by assumption)⟩)

set_option maxHeartbeats 400000 in
theorem c_xatan (x0 e0 : Nat) (h0 : E x0 e0)  (w0 w : World) (hs : St w0 w) : Calls Tryd.prog 78 #[.float .f64 x0] w (RF (xatanF e0) w0) := by
  go_enter Tryd.func78, Tryd.ntmps78
  go_wp2_with (first | (refine wpList_fop rfl _ _ _ _ _ rfl _ rfl _ _ rfl rfl _ _ (by first | assumption | exact E.refl _) (by first | assumption | exact E.refl _) _ (by assumption) ?_; intro r w' hr hs) | (refine wpList_fcmp rfl _ _ _ _ _ rfl _ rfl _ _ rfl rfl _ _ (by first | assumption | exact E.refl _) (by first | assumption | exact E.refl _) (fun hb => ?_) (fun hb => ?_) <;> (try first | exact Bool.noConfusion ((hb.symm.trans (by assumption)) : true = false) | exact Bool.noConfusion ((hb.symm.trans (by assumption)) : false = true))) | (refine wpList_fneg rfl _ _ rfl _ rfl _ (by first | assumption | exact E.refl _) ?_; intro r hr))
  all_goals (go_ret; exact ⟨_, rfl, (by first | assumption | (simp [xatanF, *]; done)), (by assumption)⟩)

set_option maxHeartbeats 400000 in
theorem c_satan (x0 e0 : Nat) (h0 : E x0 e0)  (w0 w : World) (hs : St w0 w) : Calls Tryd.prog 65 #[.float .f64 x0] w (RF (satanF e0) w0) := by
  go_enter Tryd.func65, Tryd.ntmps65
  go_wp2_with (first | (refine wpList_fop rfl _ _ _ _ _ rfl _ rfl _ _ rfl rfl _ _ (by first | assumption | exact E.refl _) (by first | assumption | exact E.refl _) _ (by assumption) ?_; intro r w' hr hs) | (refine wpList_fcmp rfl _ _ _ _ _ rfl _ rfl _ _ rfl rfl _ _ (by first | assumption | exact E.refl _) (by first | assumption | exact E.refl _) (fun hb => ?_) (fun hb => ?_) <;> (try first | exact Bool.noConfusion ((hb.symm.trans (by assumption)) : true = false) | exact Bool.noConfusion ((hb.symm.trans (by assumption)) : false = true))) | (refine wpList_fneg rfl _ _ rfl _ rfl _ (by first | assumption | exact E.refl _) ?_; intro r hr) | (go_at_call 78; refine (c_xatan _ _ (by first | assumption | exact E.refl _)  _ _ (by assumption)).mono ?_; rintro e w' ⟨r, rfl, hr, hs⟩))
  all_goals (go_ret; exact ⟨_, rfl, (by first | assumption | (simp [satanF, one, *]; done)), (by assumption)⟩)

set_option maxHeartbeats 400000 in
theorem c_atan0 (x0 e0 : Nat) (h0 : E x0 e0)  (w0 w : World) (hs : St w0 w) : Calls Tryd.prog 46 #[.float .f64 x0] w (RF (atanF e0) w0) := by
  go_enter Tryd.func46, Tryd.ntmps46
  go_wp2_with (first | (refine wpList_fop rfl _ _ _ _ _ rfl _ rfl _ _ rfl rfl _ _ (by first | assumption | exact E.refl _) (by first | assumption | exact E.refl _) _ (by assumption) ?_; intro r w' hr hs) | (refine wpList_fcmp rfl _ _ _ _ _ rfl _ rfl _ _ rfl rfl _ _ (by first | assumption | exact E.refl _) (by first | assumption | exact E.refl _) (fun hb => ?_) (fun hb => ?_) <;> (try first | exact Bool.noConfusion ((hb.symm.trans (by assumption)) : true = false) | exact Bool.noConfusion ((hb.symm.trans (by assumption)) : false = true))) | (refine wpList_fneg rfl _ _ rfl _ rfl _ (by first | assumption | exact E.refl _) ?_; intro r hr) | (go_at_call 65; refine (c_satan _ _ (by first | assumption | exact E.refl _)  _ _ (by assumption)).mono ?_; rintro e w' ⟨r, rfl, hr, hs⟩))
  all_goals (go_ret; exact ⟨_, rfl, (by first | assumption | (simp [atanF, *]; done)), (by assumption)⟩)

set_option maxHeartbeats 400000 in
theorem c_atan1 (x0 e0 : Nat) (h0 : E x0 e0)  (w0 w : World) (hs : St w0 w) : Calls Tryd.prog 32 #[.float .f64 x0] w (RF (atanF e0) w0) := by
  go_enter Tryd.func32, Tryd.ntmps32
  go_wp2_with (first | (refine wpList_fop rfl _ _ _ _ _ rfl _ rfl _ _ rfl rfl _ _ (by first | assumption | exact E.refl _) (by first | assumption | exact E.refl _) _ (by assumption) ?_; intro r w' hr hs) | (refine wpList_fcmp rfl _ _ _ _ _ rfl _ rfl _ _ rfl rfl _ _ (by first | assumption | exact E.refl _) (by first | assumption | exact E.refl _) (fun hb => ?_) (fun hb => ?_) <;> (try first | exact Bool.noConfusion ((hb.symm.trans (by assumption)) : true = false) | exact Bool.noConfusion ((hb.symm.trans (by assumption)) : false = true))) | (refine wpList_fneg rfl _ _ rfl _ rfl _ (by first | assumption | exact E.refl _) ?_; intro r hr) | (go_at_call 46; refine (c_atan0 _ _ (by first | assumption | exact E.refl _)  _ _ (by assumption)).mono ?_; rintro e w' ⟨r, rfl, hr, hs⟩))
  all_goals (go_ret; exact ⟨_, rfl, (by first | assumption | (simp [atanF, *]; done)), (by assumption)⟩)

set_option maxHeartbeats 400000 in
theorem c_atan (x0 e0 : Nat) (h0 : E x0 e0)  (w0 w : World) (hs : St w0 w) : Calls Tryd.prog 18 #[.float .f64 x0] w (RF (atanF e0) w0) := by
  go_enter Tryd.func18, Tryd.ntmps18
  go_wp2_with (first | (refine wpList_fop rfl _ _ _ _ _ rfl _ rfl _ _ rfl rfl _ _ (by first | assumption | exact E.refl _) (by first | assumption | exact E.refl _) _ (by assumption) ?_; intro r w' hr hs) | (refine wpList_fcmp rfl _ _ _ _ _ rfl _ rfl _ _ rfl rfl _ _ (by first | assumption | exact E.refl _) (by first | assumption | exact E.refl _) (fun hb => ?_) (fun hb => ?_) <;> (try first | exact Bool.noConfusion ((hb.symm.trans (by assumption)) : true = false) | exact Bool.noConfusion ((hb.symm.trans (by assumption)) : false = true))) | (refine wpList_fneg rfl _ _ rfl _ rfl _ (by first | assumption | exact E.refl _) ?_; intro r hr) | (go_at_call 32; refine (c_atan1 _ _ (by first | assumption | exact E.refl _)  _ _ (by assumption)).mono ?_; rintro e w' ⟨r, rfl, hr, hs⟩))
  all_goals (go_ret; exact ⟨_, rfl, (by first | assumption | (simp [atanF, *]; done)), (by assumption)⟩)

end Go.Proofs.YtgbdplmpojkklaaDoor
