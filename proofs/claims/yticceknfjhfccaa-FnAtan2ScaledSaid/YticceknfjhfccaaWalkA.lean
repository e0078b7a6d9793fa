/-
Contracts of the reference's functions and of the arc tangent, each walked once.
-/
import Derived.Test.YticceknfjhfccaaBase
namespace Go.Proofs.Yticceknfjhfccaa
open Go.RowKit

set_option maxHeartbeats 400000 in
theorem c_inf   (w0 w : World) (hs : St w0 w) : Calls Try.prog 25 #[] w (RF infF w0) := by
  go_enter Try.func25, Try.ntmps25
  go_wp2_with (first | (refine wpList_fop rfl _ _ _ _ _ rfl _ rfl _ _ rfl rfl _ _ (by first | assumption | exact E.refl _) (by first | assumption | exact E.refl _) _ (by assumption) ?_; intro r w' hr hs) | (refine wpList_fcmp rfl _ _ _ _ _ rfl _ rfl _ _ rfl rfl _ _ (by first | assumption | exact E.refl _) (by first | assumption | exact E.refl _) (fun hb => ?_) (fun hb => ?_) <;> (try first | exact Bool.noConfusion ((hb.symm.trans (by assumption)) : true = false) | exact Bool.noConfusion ((hb.symm.trans (by assumption)) : false = true))) | (refine wpList_fneg rfl _ _ rfl _ rfl _ (by first | assumption | exact E.refl _) ?_; intro r hr))
  all_goals (go_ret; exact ⟨_, rfl, (by first | assumption | (simp [infF, one, *]; done)), (by assumption)⟩)

set_option maxHeartbeats 400000 in
theorem c_nanv   (w0 w : World) (hs : St w0 w) : Calls Try.prog 36 #[] w (RF nanF w0) := by
  go_enter Try.func36, Try.ntmps36
  go_wp2_with (first | (refine wpList_fop rfl _ _ _ _ _ rfl _ rfl _ _ rfl rfl _ _ (by first | assumption | exact E.refl _) (by first | assumption | exact E.refl _) _ (by assumption) ?_; intro r w' hr hs) | (refine wpList_fcmp rfl _ _ _ _ _ rfl _ rfl _ _ rfl rfl _ _ (by first | assumption | exact E.refl _) (by first | assumption | exact E.refl _) (fun hb => ?_) (fun hb => ?_) <;> (try first | exact Bool.noConfusion ((hb.symm.trans (by assumption)) : true = false) | exact Bool.noConfusion ((hb.symm.trans (by assumption)) : false = true))) | (refine wpList_fneg rfl _ _ rfl _ rfl _ (by first | assumption | exact E.refl _) ?_; intro r hr))
  all_goals (go_ret; exact ⟨_, rfl, (by first | assumption | (simp [nanF, *]; done)), (by assumption)⟩)

set_option maxHeartbeats 400000 in
theorem c_isnan (x0 e0 : Nat) (h0 : E x0 e0)  (w0 w : World) (hs : St w0 w) : Calls Try.prog 22 #[.float .f64 x0] w (RB (isNanF e0) w0) := by
  go_enter Try.func22, Try.ntmps22
  go_wp2_with (first | (refine wpList_fop rfl _ _ _ _ _ rfl _ rfl _ _ rfl rfl _ _ (by first | assumption | exact E.refl _) (by first | assumption | exact E.refl _) _ (by assumption) ?_; intro r w' hr hs) | (refine wpList_fcmp rfl _ _ _ _ _ rfl _ rfl _ _ rfl rfl _ _ (by first | assumption | exact E.refl _) (by first | assumption | exact E.refl _) (fun hb => ?_) (fun hb => ?_) <;> (try first | exact Bool.noConfusion ((hb.symm.trans (by assumption)) : true = false) | exact Bool.noConfusion ((hb.symm.trans (by assumption)) : false = true))) | (refine wpList_fneg rfl _ _ rfl _ rfl _ (by first | assumption | exact E.refl _) ?_; intro r hr))
  all_goals (go_ret; first | exact ⟨.inl ⟨(by simp [isNanF, *]), rfl⟩, (by assumption)⟩ | exact ⟨.inr ⟨(by simp [isNanF, *]), rfl⟩, (by assumption)⟩)

set_option maxHeartbeats 400000 in
theorem c_isinf (x0 e0 : Nat) (h0 : E x0 e0)  (w0 w : World) (hs : St w0 w) : Calls Try.prog 24 #[.float .f64 x0] w (RB (isInfF e0) w0) := by
  go_enter Try.func24, Try.ntmps24
  go_wp2_with (first | (refine wpList_fop rfl _ _ _ _ _ rfl _ rfl _ _ rfl rfl _ _ (by first | assumption | exact E.refl _) (by first | assumption | exact E.refl _) _ (by assumption) ?_; intro r w' hr hs) | (refine wpList_fcmp rfl _ _ _ _ _ rfl _ rfl _ _ rfl rfl _ _ (by first | assumption | exact E.refl _) (by first | assumption | exact E.refl _) (fun hb => ?_) (fun hb => ?_) <;> (try first | exact Bool.noConfusion ((hb.symm.trans (by assumption)) : true = false) | exact Bool.noConfusion ((hb.symm.trans (by assumption)) : false = true))) | (refine wpList_fneg rfl _ _ rfl _ rfl _ (by first | assumption | exact E.refl _) ?_; intro r hr) | (go_at_call 25; refine (c_inf   _ _ (by assumption)).mono ?_; rintro e w' ⟨r, rfl, hr, hs⟩))
  all_goals (go_ret; first | exact ⟨.inl ⟨(by simp [isInfF, *]), rfl⟩, (by assumption)⟩ | exact ⟨.inr ⟨(by simp [isInfF, *]), rfl⟩, (by assumption)⟩)

set_option maxHeartbeats 400000 in
theorem c_isfin (x0 e0 : Nat) (h0 : E x0 e0)  (w0 w : World) (hs : St w0 w) : Calls Try.prog 26 #[.float .f64 x0] w (RB (isFiniteF e0) w0) := by
  go_enter Try.func26, Try.ntmps26
  go_wp2_with (first | (refine wpList_fop rfl _ _ _ _ _ rfl _ rfl _ _ rfl rfl _ _ (by first | assumption | exact E.refl _) (by first | assumption | exact E.refl _) _ (by assumption) ?_; intro r w' hr hs) | (refine wpList_fcmp rfl _ _ _ _ _ rfl _ rfl _ _ rfl rfl _ _ (by first | assumption | exact E.refl _) (by first | assumption | exact E.refl _) (fun hb => ?_) (fun hb => ?_) <;> (try first | exact Bool.noConfusion ((hb.symm.trans (by assumption)) : true = false) | exact Bool.noConfusion ((hb.symm.trans (by assumption)) : false = true))) | (refine wpList_fneg rfl _ _ rfl _ rfl _ (by first | assumption | exact E.refl _) ?_; intro r hr))
  all_goals (go_ret; first | exact ⟨.inl ⟨(by simp [isFiniteF, *]), rfl⟩, (by assumption)⟩ | exact ⟨.inr ⟨(by simp [isFiniteF, *]), rfl⟩, (by assumption)⟩)

set_option maxHeartbeats 400000 in
theorem c_minus (x0 e0 : Nat) (h0 : E x0 e0)  (w0 w : World) (hs : St w0 w) : Calls Try.prog 30 #[.float .f64 x0] w (RB (minusF e0) w0) := by
  go_enter Try.func30, Try.ntmps30
  go_wp2_with (first | (refine wpList_fop rfl _ _ _ _ _ rfl _ rfl _ _ rfl rfl _ _ (by first | assumption | exact E.refl _) (by first | assumption | exact E.refl _) _ (by assumption) ?_; intro r w' hr hs) | (refine wpList_fcmp rfl _ _ _ _ _ rfl _ rfl _ _ rfl rfl _ _ (by first | assumption | exact E.refl _) (by first | assumption | exact E.refl _) (fun hb => ?_) (fun hb => ?_) <;> (try first | exact Bool.noConfusion ((hb.symm.trans (by assumption)) : true = false) | exact Bool.noConfusion ((hb.symm.trans (by assumption)) : false = true))) | (refine wpList_fneg rfl _ _ rfl _ rfl _ (by first | assumption | exact E.refl _) ?_; intro r hr))
  all_goals (go_ret; first | exact ⟨.inl ⟨(by simp [minusF, one, *]), rfl⟩, (by assumption)⟩ | exact ⟨.inr ⟨(by simp [minusF, one, *]), rfl⟩, (by assumption)⟩)

set_option maxHeartbeats 400000 in
theorem c_size (x0 e0 : Nat) (h0 : E x0 e0)  (w0 w : World) (hs : St w0 w) : Calls Try.prog 27 #[.float .f64 x0] w (RF (sizeF e0) w0) := by
  go_enter Try.func27, Try.ntmps27
  go_wp2_with (first | (refine wpList_fop rfl _ _ _ _ _ rfl _ rfl _ _ rfl rfl _ _ (by first | assumption | exact E.refl _) (by first | assumption | exact E.refl _) _ (by assumption) ?_; intro r w' hr hs) | (refine wpList_fcmp rfl _ _ _ _ _ rfl _ rfl _ _ rfl rfl _ _ (by first | assumption | exact E.refl _) (by first | assumption | exact E.refl _) (fun hb => ?_) (fun hb => ?_) <;> (try first | exact Bool.noConfusion ((hb.symm.trans (by assumption)) : true = false) | exact Bool.noConfusion ((hb.symm.trans (by assumption)) : false = true))) | (refine wpList_fneg rfl _ _ rfl _ rfl _ (by first | assumption | exact E.refl _) ?_; intro r hr) | (go_at_call 30; refine (c_minus _ _ (by first | assumption | exact E.refl _)  _ _ (by assumption)).mono ?_; rintro e w' ⟨⟨hb, rfl⟩ | ⟨hb, rfl⟩, hs⟩ <;> (try first | exact Bool.noConfusion ((hb.symm.trans (by assumption)) : true = false) | exact Bool.noConfusion ((hb.symm.trans (by assumption)) : false = true))))
  all_goals (go_ret; exact ⟨_, rfl, (by first | assumption | (simp [sizeF, *]; done)), (by assumption)⟩)

set_option maxHeartbeats 400000 in
theorem c_like (x0 e0 : Nat) (h0 : E x0 e0) (x1 e1 : Nat) (h1 : E x1 e1)  (w0 w : World) (hs : St w0 w) : Calls Try.prog 23 #[.float .f64 x0, .float .f64 x1] w (RF (likeF e0 e1) w0) := by
  go_enter Try.func23, Try.ntmps23
  go_wp2_with (first | (refine wpList_fop rfl _ _ _ _ _ rfl _ rfl _ _ rfl rfl _ _ (by first | assumption | exact E.refl _) (by first | assumption | exact E.refl _) _ (by assumption) ?_; intro r w' hr hs) | (refine wpList_fcmp rfl _ _ _ _ _ rfl _ rfl _ _ rfl rfl _ _ (by first | assumption | exact E.refl _) (by first | assumption | exact E.refl _) (fun hb => ?_) (fun hb => ?_) <;> (try first | exact Bool.noConfusion ((hb.symm.trans (by assumption)) : true = false) | exact Bool.noConfusion ((hb.symm.trans (by assumption)) : false = true))) | (refine wpList_fneg rfl _ _ rfl _ rfl _ (by first | assumption | exact E.refl _) ?_; intro r hr) | (go_at_call 30; refine (c_minus _ _ (by first | assumption | exact E.refl _)  _ _ (by assumption)).mono ?_; rintro e w' ⟨⟨hb, rfl⟩ | ⟨hb, rfl⟩, hs⟩ <;> (try first | exact Bool.noConfusion ((hb.symm.trans (by assumption)) : true = false) | exact Bool.noConfusion ((hb.symm.trans (by assumption)) : false = true))) | (go_at_call 27; refine (c_size _ _ (by first | assumption | exact E.refl _)  _ _ (by assumption)).mono ?_; rintro e w' ⟨r, rfl, hr, hs⟩))
  all_goals (go_ret; exact ⟨_, rfl, (by first | assumption | (simp [likeF, *]; done)), (by assumption)⟩)

set_option maxHeartbeats 400000 in
theorem c_same (x0 e0 : Nat) (h0 : E x0 e0) (x1 e1 : Nat) (h1 : E x1 e1)  (w0 w : World) (hs : St w0 w) : Calls Try.prog 21 #[.float .f64 x0, .float .f64 x1] w (RB (sameF e0 e1) w0) := by
  go_enter Try.func21, Try.ntmps21
  go_wp2_with (first | (refine wpList_fop rfl _ _ _ _ _ rfl _ rfl _ _ rfl rfl _ _ (by first | assumption | exact E.refl _) (by first | assumption | exact E.refl _) _ (by assumption) ?_; intro r w' hr hs) | (refine wpList_fcmp rfl _ _ _ _ _ rfl _ rfl _ _ rfl rfl _ _ (by first | assumption | exact E.refl _) (by first | assumption | exact E.refl _) (fun hb => ?_) (fun hb => ?_) <;> (try first | exact Bool.noConfusion ((hb.symm.trans (by assumption)) : true = false) | exact Bool.noConfusion ((hb.symm.trans (by assumption)) : false = true))) | (refine wpList_fneg rfl _ _ rfl _ rfl _ (by first | assumption | exact E.refl _) ?_; intro r hr) | (go_at_call 22; refine (c_isnan _ _ (by first | assumption | exact E.refl _)  _ _ (by assumption)).mono ?_; rintro e w' ⟨⟨hb, rfl⟩ | ⟨hb, rfl⟩, hs⟩ <;> (try first | exact Bool.noConfusion ((hb.symm.trans (by assumption)) : true = false) | exact Bool.noConfusion ((hb.symm.trans (by assumption)) : false = true))) | (go_at_call 30; refine (c_minus _ _ (by first | assumption | exact E.refl _)  _ _ (by assumption)).mono ?_; rintro e w' ⟨⟨hb, rfl⟩ | ⟨hb, rfl⟩, hs⟩ <;> (try first | exact Bool.noConfusion ((hb.symm.trans (by assumption)) : true = false) | exact Bool.noConfusion ((hb.symm.trans (by assumption)) : false = true))))
  all_goals (go_ret; first | exact ⟨.inl ⟨(by simp [sameF, *]), rfl⟩, (by assumption)⟩ | exact ⟨.inr ⟨(by simp [sameF, *]), rfl⟩, (by assumption)⟩)

set_option maxHeartbeats 400000 in
theorem c_beyond (x0 e0 : Nat) (h0 : E x0 e0)  (w0 w : World) (hs : St w0 w) : Calls Try.prog 32 #[.float .f64 x0] w (RB (beyondF e0) w0) := by
  go_enter Try.func32, Try.ntmps32
  go_wp2_with (first | (refine wpList_fop rfl _ _ _ _ _ rfl _ rfl _ _ rfl rfl _ _ (by first | assumption | exact E.refl _) (by first | assumption | exact E.refl _) _ (by assumption) ?_; intro r w' hr hs) | (refine wpList_fcmp rfl _ _ _ _ _ rfl _ rfl _ _ rfl rfl _ _ (by first | assumption | exact E.refl _) (by first | assumption | exact E.refl _) (fun hb => ?_) (fun hb => ?_) <;> (try first | exact Bool.noConfusion ((hb.symm.trans (by assumption)) : true = false) | exact Bool.noConfusion ((hb.symm.trans (by assumption)) : false = true))) | (refine wpList_fneg rfl _ _ rfl _ rfl _ (by first | assumption | exact E.refl _) ?_; intro r hr))
  all_goals (go_ret; first | exact ⟨.inl ⟨(by simp [beyondF, one, *]), rfl⟩, (by assumption)⟩ | exact ⟨.inr ⟨(by simp [beyondF, one, *]), rfl⟩, (by assumption)⟩)

set_option maxHeartbeats 400000 in
theorem c_lost (x0 e0 : Nat) (h0 : E x0 e0) (x1 e1 : Nat) (h1 : E x1 e1)  (w0 w : World) (hs : St w0 w) : Calls Try.prog 29 #[.float .f64 x0, .float .f64 x1] w (RB (lostF e0 e1) w0) := by
  go_enter Try.func29, Try.ntmps29
  go_wp2_with (first | (refine wpList_fop rfl _ _ _ _ _ rfl _ rfl _ _ rfl rfl _ _ (by first | assumption | exact E.refl _) (by first | assumption | exact E.refl _) _ (by assumption) ?_; intro r w' hr hs) | (refine wpList_fcmp rfl _ _ _ _ _ rfl _ rfl _ _ rfl rfl _ _ (by first | assumption | exact E.refl _) (by first | assumption | exact E.refl _) (fun hb => ?_) (fun hb => ?_) <;> (try first | exact Bool.noConfusion ((hb.symm.trans (by assumption)) : true = false) | exact Bool.noConfusion ((hb.symm.trans (by assumption)) : false = true))) | (refine wpList_fneg rfl _ _ rfl _ rfl _ (by first | assumption | exact E.refl _) ?_; intro r hr) | (go_at_call 26; refine (c_isfin _ _ (by first | assumption | exact E.refl _)  _ _ (by assumption)).mono ?_; rintro e w' ⟨⟨hb, rfl⟩ | ⟨hb, rfl⟩, hs⟩ <;> (try first | exact Bool.noConfusion ((hb.symm.trans (by assumption)) : true = false) | exact Bool.noConfusion ((hb.symm.trans (by assumption)) : false = true))))
  all_goals (go_ret; first | exact ⟨.inl ⟨(by simp [lostF, *]), rfl⟩, (by assumption)⟩ | exact ⟨.inr ⟨(by simp [lostF, *]), rfl⟩, (by assumption)⟩)

set_option maxHeartbeats 400000 in
theorem c_xatan (x0 e0 : Nat) (h0 : E x0 e0)  (w0 w : World) (hs : St w0 w) : Calls Try.prog 56 #[.float .f64 x0] w (RF (xatanF e0) w0) := by
  go_enter Try.func56, Try.ntmps56
  go_wp2_with (first | (refine wpList_fop rfl _ _ _ _ _ rfl _ rfl _ _ rfl rfl _ _ (by first | assumption | exact E.refl _) (by first | assumption | exact E.refl _) _ (by assumption) ?_; intro r w' hr hs) | (refine wpList_fcmp rfl _ _ _ _ _ rfl _ rfl _ _ rfl rfl _ _ (by first | assumption | exact E.refl _) (by first | assumption | exact E.refl _) (fun hb => ?_) (fun hb => ?_) <;> (try first | exact Bool.noConfusion ((hb.symm.trans (by assumption)) : true = false) | exact Bool.noConfusion ((hb.symm.trans (by assumption)) : false = true))) | (refine wpList_fneg rfl _ _ rfl _ rfl _ (by first | assumption | exact E.refl _) ?_; intro r hr))
  all_goals (go_ret; exact ⟨_, rfl, (by first | assumption | (simp [xatanF, *]; done)), (by assumption)⟩)

set_option maxHeartbeats 400000 in
theorem c_satan (x0 e0 : Nat) (h0 : E x0 e0)  (w0 w : World) (hs : St w0 w) : Calls Try.prog 49 #[.float .f64 x0] w (RF (satanF e0) w0) := by
  go_enter Try.func49, Try.ntmps49
  go_wp2_with (first | (refine wpList_fop rfl _ _ _ _ _ rfl _ rfl _ _ rfl rfl _ _ (by first | assumption | exact E.refl _) (by first | assumption | exact E.refl _) _ (by assumption) ?_; intro r w' hr hs) | (refine wpList_fcmp rfl _ _ _ _ _ rfl _ rfl _ _ rfl rfl _ _ (by first | assumption | exact E.refl _) (by first | assumption | exact E.refl _) (fun hb => ?_) (fun hb => ?_) <;> (try first | exact Bool.noConfusion ((hb.symm.trans (by assumption)) : true = false) | exact Bool.noConfusion ((hb.symm.trans (by assumption)) : false = true))) | (refine wpList_fneg rfl _ _ rfl _ rfl _ (by first | assumption | exact E.refl _) ?_; intro r hr) | (go_at_call 56; refine (c_xatan _ _ (by first | assumption | exact E.refl _)  _ _ (by assumption)).mono ?_; rintro e w' ⟨r, rfl, hr, hs⟩))
  all_goals (go_ret; exact ⟨_, rfl, (by first | assumption | (simp [satanF, one, *]; done)), (by assumption)⟩)

set_option maxHeartbeats 400000 in
theorem c_atan0 (x0 e0 : Nat) (h0 : E x0 e0)  (w0 w : World) (hs : St w0 w) : Calls Try.prog 42 #[.float .f64 x0] w (RF (atanF e0) w0) := by
  go_enter Try.func42, Try.ntmps42
  go_wp2_with (first | (refine wpList_fop rfl _ _ _ _ _ rfl _ rfl _ _ rfl rfl _ _ (by first | assumption | exact E.refl _) (by first | assumption | exact E.refl _) _ (by assumption) ?_; intro r w' hr hs) | (refine wpList_fcmp rfl _ _ _ _ _ rfl _ rfl _ _ rfl rfl _ _ (by first | assumption | exact E.refl _) (by first | assumption | exact E.refl _) (fun hb => ?_) (fun hb => ?_) <;> (try first | exact Bool.noConfusion ((hb.symm.trans (by assumption)) : true = false) | exact Bool.noConfusion ((hb.symm.trans (by assumption)) : false = true))) | (refine wpList_fneg rfl _ _ rfl _ rfl _ (by first | assumption | exact E.refl _) ?_; intro r hr) | (go_at_call 49; refine (c_satan _ _ (by first | assumption | exact E.refl _)  _ _ (by assumption)).mono ?_; rintro e w' ⟨r, rfl, hr, hs⟩))
  all_goals (go_ret; exact ⟨_, rfl, (by first | assumption | (simp [atanF, *]; done)), (by assumption)⟩)

set_option maxHeartbeats 400000 in
theorem c_atan1 (x0 e0 : Nat) (h0 : E x0 e0)  (w0 w : World) (hs : St w0 w) : Calls Try.prog 35 #[.float .f64 x0] w (RF (atanF e0) w0) := by
  go_enter Try.func35, Try.ntmps35
  go_wp2_with (first | (refine wpList_fop rfl _ _ _ _ _ rfl _ rfl _ _ rfl rfl _ _ (by first | assumption | exact E.refl _) (by first | assumption | exact E.refl _) _ (by assumption) ?_; intro r w' hr hs) | (refine wpList_fcmp rfl _ _ _ _ _ rfl _ rfl _ _ rfl rfl _ _ (by first | assumption | exact E.refl _) (by first | assumption | exact E.refl _) (fun hb => ?_) (fun hb => ?_) <;> (try first | exact Bool.noConfusion ((hb.symm.trans (by assumption)) : true = false) | exact Bool.noConfusion ((hb.symm.trans (by assumption)) : false = true))) | (refine wpList_fneg rfl _ _ rfl _ rfl _ (by first | assumption | exact E.refl _) ?_; intro r hr) | (go_at_call 42; refine (c_atan0 _ _ (by first | assumption | exact E.refl _)  _ _ (by assumption)).mono ?_; rintro e w' ⟨r, rfl, hr, hs⟩))
  all_goals (go_ret; exact ⟨_, rfl, (by first | assumption | (simp [atanF, *]; done)), (by assumption)⟩)

set_option maxHeartbeats 400000 in
theorem c_atan (x0 e0 : Nat) (h0 : E x0 e0)  (w0 w : World) (hs : St w0 w) : Calls Try.prog 18 #[.float .f64 x0] w (RF (atanF e0) w0) := by
  go_enter Try.func18, Try.ntmps18
  go_wp2_with (first | (refine wpList_fop rfl _ _ _ _ _ rfl _ rfl _ _ rfl rfl _ _ (by first | assumption | exact E.refl _) (by first | assumption | exact E.refl _) _ (by assumption) ?_; intro r w' hr hs) | (refine wpList_fcmp rfl _ _ _ _ _ rfl _ rfl _ _ rfl rfl _ _ (by first | assumption | exact E.refl _) (by first | assumption | exact E.refl _) (fun hb => ?_) (fun hb => ?_) <;> (try first | exact Bool.noConfusion ((hb.symm.trans (by assumption)) : true = false) | exact Bool.noConfusion ((hb.symm.trans (by assumption)) : false = true))) | (refine wpList_fneg rfl _ _ rfl _ rfl _ (by first | assumption | exact E.refl _) ?_; intro r hr) | (go_at_call 35; refine (c_atan1 _ _ (by first | assumption | exact E.refl _)  _ _ (by assumption)).mono ?_; rintro e w' ⟨r, rfl, hr, hs⟩))
  all_goals (go_ret; exact ⟨_, rfl, (by first | assumption | (simp [atanF, *]; done)), (by assumption)⟩)

set_option maxHeartbeats 400000 in
theorem c_misnan (x0 e0 : Nat) (h0 : E x0 e0)  (w0 w : World) (hs : St w0 w) : Calls Try.prog 50 #[.float .f64 x0] w (RB (isNanF e0) w0) := by
  go_enter Try.func50, Try.ntmps50
  go_wp2_with (first | (refine wpList_fop rfl _ _ _ _ _ rfl _ rfl _ _ rfl rfl _ _ (by first | assumption | exact E.refl _) (by first | assumption | exact E.refl _) _ (by assumption) ?_; intro r w' hr hs) | (refine wpList_fcmp rfl _ _ _ _ _ rfl _ rfl _ _ rfl rfl _ _ (by first | assumption | exact E.refl _) (by first | assumption | exact E.refl _) (fun hb => ?_) (fun hb => ?_) <;> (try first | exact Bool.noConfusion ((hb.symm.trans (by assumption)) : true = false) | exact Bool.noConfusion ((hb.symm.trans (by assumption)) : false = true))) | (refine wpList_fneg rfl _ _ rfl _ rfl _ (by first | assumption | exact E.refl _) ?_; intro r hr))
  all_goals (go_ret; first | exact ⟨.inl ⟨(by simp [isNanF, *]), rfl⟩, (by assumption)⟩ | exact ⟨.inr ⟨(by simp [isNanF, *]), rfl⟩, (by assumption)⟩)

end Go.Proofs.Yticceknfjhfccaa
