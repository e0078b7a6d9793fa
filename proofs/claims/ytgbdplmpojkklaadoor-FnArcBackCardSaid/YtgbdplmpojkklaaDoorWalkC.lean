/-
Sin, Cos, Tan, Sincos: contracts.
-/
import Derived.Test.YtgbdplmpojkklaaDoorSn1
import Derived.Test.YtgbdplmpojkklaaDoorWalkMt
import Derived.Test.YtgbdplmpojkklaaDoorFpF
namespace Go.Proofs.YtgbdplmpojkklaaDoor
open Go.RowKit

def TS (w : World) : Prop := TabF 2 sinTab w ∧ TabF 1 cosTab w ∧ TabU 5 mpT w
def TT (w : World) : Prop := TabF 3 tanPTab w ∧ TabF 4 tanQTab w ∧ TabU 5 mpT w

theorem fin_word {x : Nat} (hl : W64 x) (hn : isNanF x = false) (hi : infA x = false) : ∃ s r, r < INF ∧ x = Ieee.double.word s r := by
  rcases word_cases x hl with h | ⟨s, r, hr, rfl, _⟩
  · rw [isNanF_eq x hl, h] at hn; cases hn
  · rw [infA_word s r hr] at hi
    have : r ≠ INF := of_decide_eq_false hi
    exact ⟨s, r, by omega, rfl⟩
theorem fin_neg {x : Nat} (hl : W64 x) (hn : isNanF x = false) (hi : infA x = false) (h : flt x 0 = true) : fneg x < INF := by
  obtain ⟨s, r, hr, rfl⟩ := fin_word hl hn hi
  have hI := INF_lt_SGN
  rw [flt_zero s r (by omega)] at h
  cases s
  · simp at h
  · rw [fneg_word true r (by omega)]; exact hr
theorem fin_pos {x : Nat} (hl : W64 x) (hn : isNanF x = false) (hi : infA x = false) (h : flt x 0 = false) (hz : feq x 0 = false) : x < INF := by
  obtain ⟨s, r, hr, rfl⟩ := fin_word hl hn hi
  rw [flt_zero s r (by omega)] at h
  rw [feq_zero s r (by omega)] at hz
  have h0 : r ≠ 0 := of_decide_eq_false hz
  cases s
  · exact hr
  · simp at h; omega
theorem fin_abs {x : Nat} (hl : W64 x) (hn : isNanF x = false) (hi : infA x = false) : absF x < INF := by
  obtain ⟨s, r, hr, rfl⟩ := fin_word hl hn hi
  have hI := INF_lt_SGN
  rw [absF_word s r (by omega)]; exact hr
theorem nan_small {x : Nat} (h : x < INF) : nan x = false := by
  have := nan_word false x (by have := INF_lt_SGN; omega)
  rw [word_false] at this
  rw [this]; exact decide_eq_false (by omega)
theorem E_x {x e : Nat} (h : E x e) (hl : W64 e) (hn : isNanF e = false) : x = e := h.eq (by rw [← isNanF_eq e hl]; exact hn)

theorem c_sin0 (x0 e0 : Nat) (h0 : E x0 e0) (hl : W64 e0) (w0 w : World) (hs : St w0 w) (hT : TS w0) : Calls Tryd.prog 44 #[.float .f64 x0] w (RF (sinF e0) w0) := by
  unfold sinF
  cases hz : feq e0 0 with
  | true => exact sin_zero x0 e0 h0 hz w0 w hs
  | false =>
    cases hn : isNanF e0 with
    | true => exact sin_nan x0 e0 h0 hz hn w0 w hs
    | false =>
      obtain rfl := E_x h0 hl hn
      cases hi : infA x0 with
      | true => exact sin_inf x0 x0 h0 hz hn hi hl w0 w hs
      | false =>
        cases hf : flt x0 0 with
        | true => exact sin_fin_true x0 hz hn hi hl hf (fin_neg hl hn hi hf) w0 hT.1 hT.2.1 hT.2.2 w hs
        | false => exact sin_fin_false x0 hz hn hi hl hf (fin_pos hl hn hi hf hz) w0 hT.1 hT.2.1 hT.2.2 w hs
theorem c_tan0 (x0 e0 : Nat) (h0 : E x0 e0) (hl : W64 e0) (w0 w : World) (hs : St w0 w) (hT : TT w0) : Calls Tryd.prog 48 #[.float .f64 x0] w (RF (tanF e0) w0) := by
  unfold tanF
  cases hz : feq e0 0 with
  | true => exact tan_zero x0 e0 h0 hz w0 w hs
  | false =>
    cases hn : isNanF e0 with
    | true => exact tan_nan x0 e0 h0 hz hn w0 w hs
    | false =>
      obtain rfl := E_x h0 hl hn
      cases hi : infA x0 with
      | true => exact tan_inf x0 x0 h0 hz hn hi hl w0 w hs
      | false =>
        cases hf : flt x0 0 with
        | true => exact tan_fin_true x0 hz hn hi hl hf (fin_neg hl hn hi hf) w0 hT.1 hT.2.1 hT.2.2 w hs
        | false => exact tan_fin_false x0 hz hn hi hl hf (fin_pos hl hn hi hf hz) w0 hT.1 hT.2.1 hT.2.2 w hs
theorem c_cos0 (x0 e0 : Nat) (h0 : E x0 e0) (hl : W64 e0) (w0 w : World) (hs : St w0 w) (hT : TS w0) : Calls Tryd.prog 52 #[.float .f64 x0] w (RF (cosF e0) w0) := by
  unfold cosF
  cases hn : isNanF e0 with
  | true => exact cos_nan x0 e0 h0 hn w0 w hs
  | false =>
    obtain rfl := E_x h0 hl hn
    cases hi : infA x0 with
    | true => exact cos_inf x0 x0 h0 hn hi hl w0 w hs
    | false =>
      have ha := fin_abs hl hn hi
      exact cos_fin_false x0 hn hi hl (nan_small ha) ha w0 hT.1 hT.2.1 hT.2.2 w hs
theorem c_sc0 (x0 e0 : Nat) (h0 : E x0 e0) (hl : W64 e0) (w0 w : World) (hs : St w0 w) (hT : TS w0) : Calls Tryd.prog 39 #[.float .f64 x0] w (RFF (scS e0) (scC e0) w0) := by
  unfold scS scC
  cases hz : feq e0 0 with
  | true => exact sc_zero x0 e0 h0 hz w0 w hs
  | false =>
    cases hn : isNanF e0 with
    | true => exact sc_nan x0 e0 h0 hz hn w0 w hs
    | false =>
      obtain rfl := E_x h0 hl hn
      cases hi : infA x0 with
      | true => exact sc_inf x0 x0 h0 hz hn hi hl w0 w hs
      | false =>
        cases hf : flt x0 0 with
        | true => exact sc_fin_true x0 hz hn hi hl hf (fin_neg hl hn hi hf) w0 hT.1 hT.2.1 hT.2.2 w hs
        | false => exact sc_fin_false x0 hz hn hi hl hf (fin_pos hl hn hi hf hz) w0 hT.1 hT.2.1 hT.2.2 w hs

set_option maxRecDepth 100000 in
set_option maxHeartbeats 2000000 in
theorem c_sin1 (x0 e0 : Nat) (h0 : E x0 e0) (hl0 : W64 e0)  (w0 w : World) (hs : St w0 w) (hT : TS w0) : Calls Tryd.prog 31 #[.float .f64 x0] w (RF (sinF e0) w0) := by
  go_enter Tryd.func31, Tryd.ntmps31
  go_wp2_with (first | (refine wpList_fop rfl _ _ _ _ _ rfl _ rfl _ _ rfl rfl _ _ (by first | with_reducible assumption | exact E.refl _) (by first | with_reducible assumption | exact E.refl _) _ (by with_reducible assumption) ?_; intro r w' hr hs) | (refine wpList_fcmp rfl _ _ _ _ _ rfl _ rfl _ _ rfl rfl _ _ (by first | with_reducible assumption | exact E.refl _) (by first | with_reducible assumption | exact E.refl _) (fun hb => ?_) (fun hb => ?_) <;> (try first | exact Bool.noConfusion ((hb.symm.trans (by with_reducible assumption)) : true = false) | exact Bool.noConfusion ((hb.symm.trans (by with_reducible assumption)) : false = true))) | (refine wpList_fneg rfl _ _ rfl _ rfl _ (by first | with_reducible assumption | exact E.refl _) ?_; intro r hr) | (go_at_call 44; refine (c_sin0 _ _ (by first | with_reducible assumption | exact E.refl _) (by with_reducible assumption) _ _ (by with_reducible assumption) (by with_reducible assumption)).mono ?_; rintro e w' ⟨r, rfl, hr, hs⟩))
  all_goals (go_ret; exact ⟨_, rfl, (by first | with_reducible assumption | (simp [sinF, *]; done) | (simp [sinF, *]; exact E.refl _)), (by with_reducible assumption)⟩)

set_option maxRecDepth 100000 in
set_option maxHeartbeats 2000000 in
theorem c_sin (x0 e0 : Nat) (h0 : E x0 e0) (hl0 : W64 e0)  (w0 w : World) (hs : St w0 w) (hT : TS w0) : Calls Tryd.prog 17 #[.float .f64 x0] w (RF (sinF e0) w0) := by
  go_enter Tryd.func17, Tryd.ntmps17
  go_wp2_with (first | (refine wpList_fop rfl _ _ _ _ _ rfl _ rfl _ _ rfl rfl _ _ (by first | with_reducible assumption | exact E.refl _) (by first | with_reducible assumption | exact E.refl _) _ (by with_reducible assumption) ?_; intro r w' hr hs) | (refine wpList_fcmp rfl _ _ _ _ _ rfl _ rfl _ _ rfl rfl _ _ (by first | with_reducible assumption | exact E.refl _) (by first | with_reducible assumption | exact E.refl _) (fun hb => ?_) (fun hb => ?_) <;> (try first | exact Bool.noConfusion ((hb.symm.trans (by with_reducible assumption)) : true = false) | exact Bool.noConfusion ((hb.symm.trans (by with_reducible assumption)) : false = true))) | (refine wpList_fneg rfl _ _ rfl _ rfl _ (by first | with_reducible assumption | exact E.refl _) ?_; intro r hr) | (go_at_call 31; refine (c_sin1 _ _ (by first | with_reducible assumption | exact E.refl _) (by with_reducible assumption) _ _ (by with_reducible assumption) (by with_reducible assumption)).mono ?_; rintro e w' ⟨r, rfl, hr, hs⟩))
  all_goals (go_ret; exact ⟨_, rfl, (by first | with_reducible assumption | (simp [sinF, *]; done) | (simp [sinF, *]; exact E.refl _)), (by with_reducible assumption)⟩)

set_option maxRecDepth 100000 in
set_option maxHeartbeats 2000000 in
theorem c_cos1 (x0 e0 : Nat) (h0 : E x0 e0) (hl0 : W64 e0)  (w0 w : World) (hs : St w0 w) (hT : TS w0) : Calls Tryd.prog 35 #[.float .f64 x0] w (RF (cosF e0) w0) := by
  go_enter Tryd.func35, Tryd.ntmps35
  go_wp2_with (first | (refine wpList_fop rfl _ _ _ _ _ rfl _ rfl _ _ rfl rfl _ _ (by first | with_reducible assumption | exact E.refl _) (by first | with_reducible assumption | exact E.refl _) _ (by with_reducible assumption) ?_; intro r w' hr hs) | (refine wpList_fcmp rfl _ _ _ _ _ rfl _ rfl _ _ rfl rfl _ _ (by first | with_reducible assumption | exact E.refl _) (by first | with_reducible assumption | exact E.refl _) (fun hb => ?_) (fun hb => ?_) <;> (try first | exact Bool.noConfusion ((hb.symm.trans (by with_reducible assumption)) : true = false) | exact Bool.noConfusion ((hb.symm.trans (by with_reducible assumption)) : false = true))) | (refine wpList_fneg rfl _ _ rfl _ rfl _ (by first | with_reducible assumption | exact E.refl _) ?_; intro r hr) | (go_at_call 52; refine (c_cos0 _ _ (by first | with_reducible assumption | exact E.refl _) (by with_reducible assumption) _ _ (by with_reducible assumption) (by with_reducible assumption)).mono ?_; rintro e w' ⟨r, rfl, hr, hs⟩))
  all_goals (go_ret; exact ⟨_, rfl, (by first | with_reducible assumption | (simp [cosF, *]; done) | (simp [cosF, *]; exact E.refl _)), (by with_reducible assumption)⟩)

set_option maxRecDepth 100000 in
set_option maxHeartbeats 2000000 in
theorem c_cos (x0 e0 : Nat) (h0 : E x0 e0) (hl0 : W64 e0)  (w0 w : World) (hs : St w0 w) (hT : TS w0) : Calls Tryd.prog 21 #[.float .f64 x0] w (RF (cosF e0) w0) := by
  go_enter Tryd.func21, Tryd.ntmps21
  go_wp2_with (first | (refine wpList_fop rfl _ _ _ _ _ rfl _ rfl _ _ rfl rfl _ _ (by first | with_reducible assumption | exact E.refl _) (by first | with_reducible assumption | exact E.refl _) _ (by with_reducible assumption) ?_; intro r w' hr hs) | (refine wpList_fcmp rfl _ _ _ _ _ rfl _ rfl _ _ rfl rfl _ _ (by first | with_reducible assumption | exact E.refl _) (by first | with_reducible assumption | exact E.refl _) (fun hb => ?_) (fun hb => ?_) <;> (try first | exact Bool.noConfusion ((hb.symm.trans (by with_reducible assumption)) : true = false) | exact Bool.noConfusion ((hb.symm.trans (by with_reducible assumption)) : false = true))) | (refine wpList_fneg rfl _ _ rfl _ rfl _ (by first | with_reducible assumption | exact E.refl _) ?_; intro r hr) | (go_at_call 35; refine (c_cos1 _ _ (by first | with_reducible assumption | exact E.refl _) (by with_reducible assumption) _ _ (by with_reducible assumption) (by with_reducible assumption)).mono ?_; rintro e w' ⟨r, rfl, hr, hs⟩))
  all_goals (go_ret; exact ⟨_, rfl, (by first | with_reducible assumption | (simp [cosF, *]; done) | (simp [cosF, *]; exact E.refl _)), (by with_reducible assumption)⟩)

set_option maxRecDepth 100000 in
set_option maxHeartbeats 2000000 in
theorem c_tan1 (x0 e0 : Nat) (h0 : E x0 e0) (hl0 : W64 e0)  (w0 w : World) (hs : St w0 w) (hT : TT w0) : Calls Tryd.prog 33 #[.float .f64 x0] w (RF (tanF e0) w0) := by
  go_enter Tryd.func33, Tryd.ntmps33
  go_wp2_with (first | (refine wpList_fop rfl _ _ _ _ _ rfl _ rfl _ _ rfl rfl _ _ (by first | with_reducible assumption | exact E.refl _) (by first | with_reducible assumption | exact E.refl _) _ (by with_reducible assumption) ?_; intro r w' hr hs) | (refine wpList_fcmp rfl _ _ _ _ _ rfl _ rfl _ _ rfl rfl _ _ (by first | with_reducible assumption | exact E.refl _) (by first | with_reducible assumption | exact E.refl _) (fun hb => ?_) (fun hb => ?_) <;> (try first | exact Bool.noConfusion ((hb.symm.trans (by with_reducible assumption)) : true = false) | exact Bool.noConfusion ((hb.symm.trans (by with_reducible assumption)) : false = true))) | (refine wpList_fneg rfl _ _ rfl _ rfl _ (by first | with_reducible assumption | exact E.refl _) ?_; intro r hr) | (go_at_call 48; refine (c_tan0 _ _ (by first | with_reducible assumption | exact E.refl _) (by with_reducible assumption) _ _ (by with_reducible assumption) (by with_reducible assumption)).mono ?_; rintro e w' ⟨r, rfl, hr, hs⟩))
  all_goals (go_ret; exact ⟨_, rfl, (by first | with_reducible assumption | (simp [tanF, *]; done) | (simp [tanF, *]; exact E.refl _)), (by with_reducible assumption)⟩)

set_option maxRecDepth 100000 in
set_option maxHeartbeats 2000000 in
theorem c_tan (x0 e0 : Nat) (h0 : E x0 e0) (hl0 : W64 e0)  (w0 w : World) (hs : St w0 w) (hT : TT w0) : Calls Tryd.prog 19 #[.float .f64 x0] w (RF (tanF e0) w0) := by
  go_enter Tryd.func19, Tryd.ntmps19
  go_wp2_with (first | (refine wpList_fop rfl _ _ _ _ _ rfl _ rfl _ _ rfl rfl _ _ (by first | with_reducible assumption | exact E.refl _) (by first | with_reducible assumption | exact E.refl _) _ (by with_reducible assumption) ?_; intro r w' hr hs) | (refine wpList_fcmp rfl _ _ _ _ _ rfl _ rfl _ _ rfl rfl _ _ (by first | with_reducible assumption | exact E.refl _) (by first | with_reducible assumption | exact E.refl _) (fun hb => ?_) (fun hb => ?_) <;> (try first | exact Bool.noConfusion ((hb.symm.trans (by with_reducible assumption)) : true = false) | exact Bool.noConfusion ((hb.symm.trans (by with_reducible assumption)) : false = true))) | (refine wpList_fneg rfl _ _ rfl _ rfl _ (by first | with_reducible assumption | exact E.refl _) ?_; intro r hr) | (go_at_call 33; refine (c_tan1 _ _ (by first | with_reducible assumption | exact E.refl _) (by with_reducible assumption) _ _ (by with_reducible assumption) (by with_reducible assumption)).mono ?_; rintro e w' ⟨r, rfl, hr, hs⟩))
  all_goals (go_ret; exact ⟨_, rfl, (by first | with_reducible assumption | (simp [tanF, *]; done) | (simp [tanF, *]; exact E.refl _)), (by with_reducible assumption)⟩)

set_option maxRecDepth 100000 in
set_option maxHeartbeats 2000000 in
theorem c_sc (x0 e0 : Nat) (h0 : E x0 e0) (hl0 : W64 e0)  (w0 w : World) (hs : St w0 w) (hT : TS w0) : Calls Tryd.prog 26 #[.float .f64 x0] w (RFF (scS e0) (scC e0) w0) := by
  go_enter Tryd.func26, Tryd.ntmps26
  go_wp2_with (first | (refine wpList_fop rfl _ _ _ _ _ rfl _ rfl _ _ rfl rfl _ _ (by first | with_reducible assumption | exact E.refl _) (by first | with_reducible assumption | exact E.refl _) _ (by with_reducible assumption) ?_; intro r w' hr hs) | (refine wpList_fcmp rfl _ _ _ _ _ rfl _ rfl _ _ rfl rfl _ _ (by first | with_reducible assumption | exact E.refl _) (by first | with_reducible assumption | exact E.refl _) (fun hb => ?_) (fun hb => ?_) <;> (try first | exact Bool.noConfusion ((hb.symm.trans (by with_reducible assumption)) : true = false) | exact Bool.noConfusion ((hb.symm.trans (by with_reducible assumption)) : false = true))) | (refine wpList_fneg rfl _ _ rfl _ rfl _ (by first | with_reducible assumption | exact E.refl _) ?_; intro r hr) | (go_at_call 39; refine (c_sc0 _ _ (by first | with_reducible assumption | exact E.refl _) (by with_reducible assumption) _ _ (by with_reducible assumption) (by with_reducible assumption)).mono ?_; rintro e w' ⟨r, s, rfl, hr, hr2, hs⟩))
  all_goals (go_ret2; exact ⟨_, _, rfl, (by with_reducible assumption), (by with_reducible assumption), (by with_reducible assumption)⟩)

end Go.Proofs.YtgbdplmpojkklaaDoor
