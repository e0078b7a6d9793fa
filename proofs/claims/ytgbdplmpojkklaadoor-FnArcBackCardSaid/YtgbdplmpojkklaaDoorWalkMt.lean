import Derived.Test.YtgbdplmpojkklaaDoorWalkS
import Derived.BigQuiet
import Derived.Lib.Hide
import Derived.Deep.RegionWith
namespace Go.Proofs.YtgbdplmpojkklaaDoor
open Go.RowKit

set_option maxHeartbeats 400000 in
theorem c_given0 (x0 e0 : Nat) (_ : E x0 e0) (w0 w : World) (hs : St w0 w) : Calls Tryd.prog 62 #[.int .i64 0, .float .f64 x0] w (RFB (givenV 0 e0) (givenB 0) w0) := by
  go_enter Tryd.func62, Tryd.ntmps62
  go_wp2
  go_ret2
  exact ⟨_, .inr ⟨rfl, rfl⟩, E.refl _, hs⟩

set_option maxHeartbeats 400000 in
theorem c_given1 (x0 e0 : Nat) (h0 : E x0 e0) (w0 w : World) (hs : St w0 w) : Calls Tryd.prog 62 #[.int .i64 1, .float .f64 x0] w (RFB (givenV 1 e0) (givenB 1) w0) := by
  go_enter Tryd.func62, Tryd.ntmps62
  go_wp2
  go_ret2
  exact ⟨_, .inl ⟨rfl, rfl⟩, h0, hs⟩

set_option maxHeartbeats 400000 in
theorem c_given2 (x0 e0 : Nat) (_ : E x0 e0) (w0 w : World) (hs : St w0 w) : Calls Tryd.prog 62 #[.int .i64 2, .float .f64 x0] w (RFB (givenV 2 e0) (givenB 2) w0) := by
  go_enter Tryd.func62, Tryd.ntmps62
  go_wp2_with (go_at_call 61; refine (c_nanv _ _ (by assumption)).mono ?_; rintro e w' ⟨r, rfl, hr, hs⟩)
  go_ret2
  exact ⟨_, .inl ⟨rfl, rfl⟩, by assumption, by assumption⟩

set_option maxHeartbeats 400000 in
theorem c_given3 (x0 e0 : Nat) (h0 : E x0 e0) (w0 w : World) (hs : St w0 w) : Calls Tryd.prog 62 #[.int .i64 3, .float .f64 x0] w (RFB (givenV 3 e0) (givenB 3) w0) := by
  go_enter Tryd.func62, Tryd.ntmps62
  go_wp2_with (go_at_call 75; refine (c_like _ _ (by first | assumption | exact E.refl _) _ _ (by first | assumption | exact E.refl _) _ _ (by assumption)).mono ?_; rintro e w' ⟨r, rfl, hr, hs⟩)
  go_ret2
  exact ⟨_, .inl ⟨rfl, rfl⟩, by assumption, by assumption⟩

theorem c_given (k : Nat) (hk : k ≤ 3) (x0 e0 : Nat) (h0 : E x0 e0) (w0 w : World) (hs : St w0 w) : Calls Tryd.prog 62 #[.int .i64 k, .float .f64 x0] w (RFB (givenV k e0) (givenB k) w0) := by
  match k, hk with
  | 0, _ => exact c_given0 x0 e0 h0 w0 w hs
  | 1, _ => exact c_given1 x0 e0 h0 w0 w hs
  | 2, _ => exact c_given2 x0 e0 h0 w0 w hs
  | 3, _ => exact c_given3 x0 e0 h0 w0 w hs

set_option maxHeartbeats 1000000 in
theorem c_special_true (z f : Nat) (hz : z ≤ 3) (hf : f ≤ 3) (x0 e0 : Nat) (h0 : E x0 e0) (w0 w : World) (hs : St w0 w) :
    Calls Tryd.prog 40 #[.agg #[.int .i64 z, .int .i64 f, .bool true], .float .f64 x0] w (RFB (specV z f e0) (specB z f true e0) w0) := by
  go_enter Tryd.func40, Tryd.ntmps40
  go_wp2_with (first | (refine wpList_fcmp rfl _ _ _ _ _ rfl _ rfl _ _ rfl rfl _ _ (by first | assumption | exact E.refl _) (by first | assumption | exact E.refl _) (fun hb => ?_) (fun hb => ?_) <;> (try first | exact Bool.noConfusion ((hb.symm.trans (by assumption)) : true = false) | exact Bool.noConfusion ((hb.symm.trans (by assumption)) : false = true))) | (go_at_call 14; refine (c_isnan _ _ (by first | assumption | exact E.refl _) _ _ (by first | assumption | exact St.refl _)).mono ?_; rintro e w' ⟨⟨hb, rfl⟩ | ⟨hb, rfl⟩, hs'⟩ <;> have hc := hs'.cell) | (go_at_call 63; refine (c_isinf _ _ (by first | assumption | exact E.refl _) _ _ (by first | assumption | exact St.refl _)).mono ?_; rintro e w' ⟨⟨hb, rfl⟩ | ⟨hb, rfl⟩, hs'⟩ <;> have hc := hs'.cell) | (go_at_call 62; refine (c_given _ (by assumption) _ _ (by first | assumption | exact E.refl _) _ _ (by first | assumption | exact St.refl _)).mono ?_; rintro e w' ⟨r, ⟨hb, rfl⟩ | ⟨hb, rfl⟩, hr, hs'⟩))
  · go_region_with (go_at_call 61; refine (c_nanv _ _ (by first | assumption | exact St.drew (by assumption) | exact St.refl _)).mono ?_; rintro e w2 ⟨r, rfl, hr, hs2⟩; have hc2 := hs2.cell)
    all_goals (go_wp2; (go_ret2; first | exact ⟨_, .inl ⟨(by simp [specB, *]), rfl⟩, (by first | (simp [specV, *]; done) | (simp only [specV, *]; exact E.refl _)), (hs.alloc _).trans (by assumption)⟩ | exact ⟨_, .inr ⟨(by simp [specB, *]), rfl⟩, (by first | (simp [specV, *]; done) | (simp [specV, *]; exact E.refl _)), (hs.alloc _).trans (by assumption)⟩))
  all_goals (go_ret2; first | exact ⟨_, .inl ⟨(by simp [specB, *]), rfl⟩, (by first | (simp [specV, *]; done) | (simp only [specV, *]; exact E.refl _)), (hs.alloc _).trans (by assumption)⟩ | exact ⟨_, .inr ⟨(by simp [specB, *]), rfl⟩, (by first | (simp [specV, *]; done) | (simp [specV, *]; exact E.refl _)), (hs.alloc _).trans (by assumption)⟩)

set_option maxHeartbeats 1000000 in
theorem c_special_false (z f : Nat) (hz : z ≤ 3) (hf : f ≤ 3) (x0 e0 : Nat) (h0 : E x0 e0) (w0 w : World) (hs : St w0 w) :
    Calls Tryd.prog 40 #[.agg #[.int .i64 z, .int .i64 f, .bool false], .float .f64 x0] w (RFB (specV z f e0) (specB z f false e0) w0) := by
  go_enter Tryd.func40, Tryd.ntmps40
  go_wp2_with (first | (refine wpList_fcmp rfl _ _ _ _ _ rfl _ rfl _ _ rfl rfl _ _ (by first | assumption | exact E.refl _) (by first | assumption | exact E.refl _) (fun hb => ?_) (fun hb => ?_) <;> (try first | exact Bool.noConfusion ((hb.symm.trans (by assumption)) : true = false) | exact Bool.noConfusion ((hb.symm.trans (by assumption)) : false = true))) | (go_at_call 14; refine (c_isnan _ _ (by first | assumption | exact E.refl _) _ _ (by first | assumption | exact St.refl _)).mono ?_; rintro e w' ⟨⟨hb, rfl⟩ | ⟨hb, rfl⟩, hs'⟩ <;> have hc := hs'.cell) | (go_at_call 63; refine (c_isinf _ _ (by first | assumption | exact E.refl _) _ _ (by first | assumption | exact St.refl _)).mono ?_; rintro e w' ⟨⟨hb, rfl⟩ | ⟨hb, rfl⟩, hs'⟩ <;> have hc := hs'.cell) | (go_at_call 62; refine (c_given _ (by assumption) _ _ (by first | assumption | exact E.refl _) _ _ (by first | assumption | exact St.refl _)).mono ?_; rintro e w' ⟨r, ⟨hb, rfl⟩ | ⟨hb, rfl⟩, hr, hs'⟩))
  · go_region_with (go_at_call 61; refine (c_nanv _ _ (by first | assumption | exact St.drew (by assumption) | exact St.refl _)).mono ?_; rintro e w2 ⟨r, rfl, hr, hs2⟩; have hc2 := hs2.cell)
    all_goals (go_wp2; (go_ret2; first | exact ⟨_, .inl ⟨(by simp [specB, *]), rfl⟩, (by first | (simp [specV, *]; done) | (simp only [specV, *]; exact E.refl _)), (hs.alloc _).trans (by assumption)⟩ | exact ⟨_, .inr ⟨(by simp [specB, *]), rfl⟩, (by first | (simp [specV, *]; done) | (simp [specV, *]; exact E.refl _)), (hs.alloc _).trans (by assumption)⟩))
  all_goals (go_ret2; first | exact ⟨_, .inl ⟨(by simp [specB, *]), rfl⟩, (by first | (simp [specV, *]; done) | (simp only [specV, *]; exact E.refl _)), (hs.alloc _).trans (by assumption)⟩ | exact ⟨_, .inr ⟨(by simp [specB, *]), rfl⟩, (by first | (simp [specV, *]; done) | (simp [specV, *]; exact E.refl _)), (hs.alloc _).trans (by assumption)⟩)

set_option maxHeartbeats 1000000 in
theorem c_met_true (z f : Nat) (hz : z ≤ 3) (hf : f ≤ 3) (x0 e0 : Nat) (h0 : E x0 e0) (x1 e1 : Nat) (h1 : E x1 e1) (w0 w : World) (hs : St w0 w) :
    Calls Tryd.prog 28 #[.agg #[.int .i64 z, .int .i64 f, .bool true], .float .f64 x0, .float .f64 x1] w (RB (metF z f true e0 e1) w0) := by
  go_enter Tryd.func28, Tryd.ntmps28
  go_wp2_with (first | (go_at_call 40; refine (c_special_true _ _ (by assumption) (by assumption) _ _ (by first | assumption | exact E.refl _) _ _ (by first | assumption | exact St.refl _)).mono ?_; rintro e w' ⟨r, ⟨hb, rfl⟩ | ⟨hb, rfl⟩, hr, hs'⟩) | (go_at_call 23; refine (c_same _ _ (by first | assumption | exact E.refl _) _ _ (by first | assumption | exact E.refl _) _ _ (by first | assumption | exact St.refl _)).mono ?_; rintro e w' ⟨⟨hb, rfl⟩ | ⟨hb, rfl⟩, hs'⟩))
  all_goals (go_ret; first | exact ⟨.inl ⟨(by simp [metF, *]), rfl⟩, (hs.alloc _).trans (by assumption)⟩ | exact ⟨.inr ⟨(by simp [metF, *]), rfl⟩, (hs.alloc _).trans (by assumption)⟩)

set_option maxHeartbeats 1000000 in
theorem c_met_false (z f : Nat) (hz : z ≤ 3) (hf : f ≤ 3) (x0 e0 : Nat) (h0 : E x0 e0) (x1 e1 : Nat) (h1 : E x1 e1) (w0 w : World) (hs : St w0 w) :
    Calls Tryd.prog 28 #[.agg #[.int .i64 z, .int .i64 f, .bool false], .float .f64 x0, .float .f64 x1] w (RB (metF z f false e0 e1) w0) := by
  go_enter Tryd.func28, Tryd.ntmps28
  go_wp2_with (first | (go_at_call 40; refine (c_special_false _ _ (by assumption) (by assumption) _ _ (by first | assumption | exact E.refl _) _ _ (by first | assumption | exact St.refl _)).mono ?_; rintro e w' ⟨r, ⟨hb, rfl⟩ | ⟨hb, rfl⟩, hr, hs'⟩) | (go_at_call 23; refine (c_same _ _ (by first | assumption | exact E.refl _) _ _ (by first | assumption | exact E.refl _) _ _ (by first | assumption | exact St.refl _)).mono ?_; rintro e w' ⟨⟨hb, rfl⟩ | ⟨hb, rfl⟩, hs'⟩))
  all_goals (go_ret; first | exact ⟨.inl ⟨(by simp [metF, *]), rfl⟩, (hs.alloc _).trans (by assumption)⟩ | exact ⟨.inr ⟨(by simp [metF, *]), rfl⟩, (hs.alloc _).trans (by assumption)⟩)

end Go.Proofs.YtgbdplmpojkklaaDoor
