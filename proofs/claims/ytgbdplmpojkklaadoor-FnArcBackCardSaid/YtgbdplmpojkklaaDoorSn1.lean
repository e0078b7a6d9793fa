/-
Sin, Cos, Tan and Sincos of finite numbers: contracts.
-/
import Derived.Test.YtgbdplmpojkklaaDoorSnA
import Derived.Test.YtgbdplmpojkklaaDoorSnB
import Derived.Test.YtgbdplmpojkklaaDoorSnC
import Derived.Test.YtgbdplmpojkklaaDoorSnD
import Derived.Test.YtgbdplmpojkklaaDoorSnE
import Derived.Test.YtgbdplmpojkklaaDoorSnF
import Derived.Test.YtgbdplmpojkklaaDoorSnG
import Derived.Test.YtgbdplmpojkklaaDoorFpY
namespace Go.Proofs.YtgbdplmpojkklaaDoor
open Go.RowKit

theorem km_of {r : Nat} (h : r < TH29) : KnownF .mul r 4608412980311869571 (fmul r M4PI) := by
  have hT : TH29 < INF := by decide
  refine ⟨rfl, ?_⟩
  obtain ⟨q, k, _⟩ := Go.Proofs.YtgbdplmpojkklaaDoor.mul_fin false false r M4PI (by omega) (by decide)
  rw [word_false, word_false] at k
  show Ieee.double.mul r M4PI = _
  unfold fmul
  rw [k]; rfl
theorem kc_of {m : Nat} (hm : m < INF) (hb : truncF m < 9223372036854775808) : KnownC Tryd.prog 22 37 (.float .f64 m) (.int .u64 (truncF m : Nat)) := by
  intro w
  have e : (FloatKind.f64.decode m).toInt .zero = some ((truncF m : Nat) : Int) := toInt_fin hm
  have h1 : IntKind.u64.min ≤ ((truncF m : Nat) : Int) ∧ ((truncF m : Nat) : Int) ≤ IntKind.u64.max := by
    constructor
    · show (0 : Int) ≤ _; omega
    · show _ ≤ (18446744073709551615 : Int); omega
  simp [convert, run_underlying Tryd.underlying22, run_underlying Tryd.underlying37, Conv.floatToInt, e, h1]
theorem ky_of (p : Nat) : KnownC Tryd.prog 37 22 (.int .u64 p) (.float .f64 (fi p)) := by
  intro w
  have e : ofI (p : Int) = fi p := by
    rw [ofI_word]
    have : decide ((p : Int) < 0) = false := by simp
    rw [this, word_false, Int.natAbs_natCast]
  rw [← e]
  exact run_convert_int_float w _ _ .u64 .f64 p (by rw [Tryd.underlying37]; rfl) Tryd.underlying22
theorem ev8_U64 {j : Nat} (h : ev8 j) : U64 j := by
  unfold ev8 at h
  unfold U64; omega

theorem sin_any_false (r z' : Nat) (hz : E z' (redZ r)) (w0 w : World) (hS : TabF 2 sinTab w0) (hC : TabF 1 cosTab w0) (hs : St w0 w) :
    HW Tryd.prog sinTail (bodyPost Tryd.prog Tryd.f44 (RF (sinR false r) w0)) 142 [(3, .bool false), (4, .int .u64 (redJ r : Nat)), (6, .float .f64 z')] w := by
  rcases redJ_ev r with e | e | e | e
  · have e1 : sinR false r = (sinP (redZ r)) := by simp [sinR, negIf, e]
    rw [e, e1]; exact sin_tail_false_0 z' _ hz w0 w hS hs
  · have e1 : sinR false r = (cosP (redZ r)) := by simp [sinR, negIf, e]
    rw [e, e1]; exact sin_tail_false_2 z' _ hz w0 w hC hs
  · have e1 : sinR false r = (fneg (sinP (redZ r))) := by simp [sinR, negIf, e]
    rw [e, e1]; exact sin_tail_false_4 z' _ hz w0 w hS hs
  · have e1 : sinR false r = (fneg (cosP (redZ r))) := by simp [sinR, negIf, e]
    rw [e, e1]; exact sin_tail_false_6 z' _ hz w0 w hC hs

theorem sin_any_true (r z' : Nat) (hz : E z' (redZ r)) (w0 w : World) (hS : TabF 2 sinTab w0) (hC : TabF 1 cosTab w0) (hs : St w0 w) :
    HW Tryd.prog sinTail (bodyPost Tryd.prog Tryd.f44 (RF (sinR true r) w0)) 142 [(3, .bool true), (4, .int .u64 (redJ r : Nat)), (6, .float .f64 z')] w := by
  rcases redJ_ev r with e | e | e | e
  · have e1 : sinR true r = (fneg (sinP (redZ r))) := by simp [sinR, negIf, e]
    rw [e, e1]; exact sin_tail_true_0 z' _ hz w0 w hS hs
  · have e1 : sinR true r = (fneg (cosP (redZ r))) := by simp [sinR, negIf, e]
    rw [e, e1]; exact sin_tail_true_2 z' _ hz w0 w hC hs
  · have e1 : sinR true r = (sinP (redZ r)) := by simp [sinR, negIf, e]
    rw [e, e1]; exact sin_tail_true_4 z' _ hz w0 w hS hs
  · have e1 : sinR true r = (cosP (redZ r)) := by simp [sinR, negIf, e]
    rw [e, e1]; exact sin_tail_true_6 z' _ hz w0 w hC hs

theorem cos_any_false (r z' : Nat) (hz : E z' (redZ r)) (w0 w : World) (hS : TabF 2 sinTab w0) (hC : TabF 1 cosTab w0) (hs : St w0 w) :
    HW Tryd.prog cosTail (bodyPost Tryd.prog Tryd.f52 (RF (cosR r) w0)) 140 [(3, .bool false), (4, .int .u64 (redJ r : Nat)), (6, .float .f64 z')] w := by
  rcases redJ_ev r with e | e | e | e
  · have e2 : cosR r = (cosP (redZ r)) := by simp [cosR, negIf, e]
    rw [e, e2]; exact cos_tail_0 z' _ hz w0 w hC hs
  · have e2 : cosR r = (fneg (sinP (redZ r))) := by simp [cosR, negIf, e]
    rw [e, e2]; exact cos_tail_2 z' _ hz w0 w hS hs
  · have e2 : cosR r = (fneg (cosP (redZ r))) := by simp [cosR, negIf, e]
    rw [e, e2]; exact cos_tail_4 z' _ hz w0 w hC hs
  · have e2 : cosR r = (sinP (redZ r)) := by simp [cosR, negIf, e]
    rw [e, e2]; exact cos_tail_6 z' _ hz w0 w hS hs

theorem tan_any_false (r z' : Nat) (hU : U64 (redT r)) (hz : E z' (redZ r)) (w0 w : World) (hP : TabF 3 tanPTab w0) (hQ : TabF 4 tanQTab w0) (hs : St w0 w) :
    HW Tryd.prog tanTail (bodyPost Tryd.prog Tryd.f48 (RF (tanR false r) w0)) 106 [(3, .bool false), (4, .int .u64 (redT r : Nat)), (6, .float .f64 z')] w := by
  have k5 : Known Tryd.prog .and (.int .u64 (redT r : Nat)) (.int .u64 2) (.int .u64 (uand (redT r) 2 : Nat)) := (ki_u64 (op := .and) rfl hU (q := 2) (by decide)).1
  by_cases e : uand (redT r) 2 = 2
  · have : tanR false r = (fdiv 13830554455654793216 (tanP (redZ r))) := by simp [tanR, negIf, e]
    rw [this]; exact tan_tail_false_true _ _ k5 (eql_t (q := 2) e) z' _ hz w0 w hP hQ hs
  · have : tanR false r = (tanP (redZ r)) := by simp [tanR, negIf, e]
    rw [this]; exact tan_tail_false_false _ _ k5 (eql_f (q := 2) e) z' _ hz w0 w hP hQ hs

theorem tan_any_true (r z' : Nat) (hU : U64 (redT r)) (hz : E z' (redZ r)) (w0 w : World) (hP : TabF 3 tanPTab w0) (hQ : TabF 4 tanQTab w0) (hs : St w0 w) :
    HW Tryd.prog tanTail (bodyPost Tryd.prog Tryd.f48 (RF (tanR true r) w0)) 106 [(3, .bool true), (4, .int .u64 (redT r : Nat)), (6, .float .f64 z')] w := by
  have k5 : Known Tryd.prog .and (.int .u64 (redT r : Nat)) (.int .u64 2) (.int .u64 (uand (redT r) 2 : Nat)) := (ki_u64 (op := .and) rfl hU (q := 2) (by decide)).1
  by_cases e : uand (redT r) 2 = 2
  · have : tanR true r = fneg (fdiv 13830554455654793216 (tanP (redZ r))) := by simp [tanR, negIf, e]
    rw [this]; exact tan_tail_true_true _ _ k5 (eql_t (q := 2) e) z' _ hz w0 w hP hQ hs
  · have : tanR true r = fneg (tanP (redZ r)) := by simp [tanR, negIf, e]
    rw [this]; exact tan_tail_true_false _ _ k5 (eql_f (q := 2) e) z' _ hz w0 w hP hQ hs

theorem sc_any_false (r z' : Nat) (hz : E z' (redZ r)) (w0 w : World) (hS : TabF 2 sinTab w0) (hC : TabF 1 cosTab w0) (hs : St w0 w) :
    HW Tryd.prog scTail (bodyPost Tryd.prog Tryd.f39 (RFF (sinR false r) (cosR r) w0)) 155 [(4, .bool false), (5, .bool false), (6, .int .u64 (redJ r : Nat)), (8, .float .f64 z')] w := by
  rcases redJ_ev r with e | e | e | e
  · have e1 : sinR false r = (sinP (redZ r)) := by simp [sinR, negIf, e]
    have e2 : cosR r = (cosP (redZ r)) := by simp [cosR, negIf, e]
    rw [e, e1, e2]; exact sc_tail_false_0 z' _ hz w0 w hS hC hs
  · have e1 : sinR false r = (cosP (redZ r)) := by simp [sinR, negIf, e]
    have e2 : cosR r = (fneg (sinP (redZ r))) := by simp [cosR, negIf, e]
    rw [e, e1, e2]; exact sc_tail_false_2 z' _ hz w0 w hS hC hs
  · have e1 : sinR false r = (fneg (sinP (redZ r))) := by simp [sinR, negIf, e]
    have e2 : cosR r = (fneg (cosP (redZ r))) := by simp [cosR, negIf, e]
    rw [e, e1, e2]; exact sc_tail_false_4 z' _ hz w0 w hS hC hs
  · have e1 : sinR false r = (fneg (cosP (redZ r))) := by simp [sinR, negIf, e]
    have e2 : cosR r = (sinP (redZ r)) := by simp [cosR, negIf, e]
    rw [e, e1, e2]; exact sc_tail_false_6 z' _ hz w0 w hS hC hs

theorem sc_any_true (r z' : Nat) (hz : E z' (redZ r)) (w0 w : World) (hS : TabF 2 sinTab w0) (hC : TabF 1 cosTab w0) (hs : St w0 w) :
    HW Tryd.prog scTail (bodyPost Tryd.prog Tryd.f39 (RFF (sinR true r) (cosR r) w0)) 155 [(4, .bool true), (5, .bool false), (6, .int .u64 (redJ r : Nat)), (8, .float .f64 z')] w := by
  rcases redJ_ev r with e | e | e | e
  · have e1 : sinR true r = (fneg (sinP (redZ r))) := by simp [sinR, negIf, e]
    have e2 : cosR r = (cosP (redZ r)) := by simp [cosR, negIf, e]
    rw [e, e1, e2]; exact sc_tail_true_0 z' _ hz w0 w hS hC hs
  · have e1 : sinR true r = (fneg (cosP (redZ r))) := by simp [sinR, negIf, e]
    have e2 : cosR r = (fneg (sinP (redZ r))) := by simp [cosR, negIf, e]
    rw [e, e1, e2]; exact sc_tail_true_2 z' _ hz w0 w hS hC hs
  · have e1 : sinR true r = (sinP (redZ r)) := by simp [sinR, negIf, e]
    have e2 : cosR r = (fneg (cosP (redZ r))) := by simp [cosR, negIf, e]
    rw [e, e1, e2]; exact sc_tail_true_4 z' _ hz w0 w hS hC hs
  · have e1 : sinR true r = (cosP (redZ r)) := by simp [sinR, negIf, e]
    have e2 : cosR r = (sinP (redZ r)) := by simp [cosR, negIf, e]
    rw [e, e1, e2]; exact sc_tail_true_6 z' _ hz w0 w hS hC hs

set_option maxRecDepth 10000 in
theorem sin_fin_false (x : Nat) (h1 : feq x 0 = false) (h2 : isNanF x = false) (h3 : infA x = false) (hl : W64 x) (h4 : flt x 0 = false) (hr : x < INF) (w0 : World) (hS : TabF 2 sinTab w0) (hC : TabF 1 cosTab w0) (hM : TabU 5 mpT w0) (w : World) (hs : St w0 w) : Calls Tryd.prog 44 #[.float .f64 x] w (RF (sinR false x) w0) := by
  by_cases hb : TH29 ≤ x
  · have h5 : fge x TH29 = true := by rw [fge_TH (Nat.le_of_lt hr)]; exact decide_eq_true hb
    have eJ : redJ x = trJ x := by unfold redJ; rw [h5]; rfl
    have eZ : redZ x = trZ x := by unfold redZ; rw [h5]; rfl
    refine sin_head_false_big w0 _ x h1 h2 h3 hl h4 h5 (trJ x) (trZ x) (fun w' h' => c_trig x hb hr w0 hM w' h') ?_ w hs
    intro z' w' hz hs'
    rw [← eZ] at hz
    rw [← eJ]
    exact sin_any_false x z' hz w0 w' hS hC hs'
  · have h5 : fge x TH29 = false := by rw [fge_TH (Nat.le_of_lt hr)]; exact decide_eq_false hb
    have hlt : x < TH29 := by omega
    have hjU : U64 (smJ x) := Nat.lt_trans (small_mul hlt).2 (by decide)
    by_cases hodd : uand (smJ x) 1 = 1
    · have eY : smY x = fadd (fi (smJ x)) one := by unfold smY; rw [if_pos hodd]
      have eK : smK x = uadd (smJ x) 1 := by unfold smK; rw [if_pos hodd]
      have eJ : redJ x = uand (smK x) 7 := by unfold redJ; rw [h5]; rfl
      have eZ : redZ x = smZ x := by unfold redZ; rw [h5]; rfl
      have hany := fun z' w' hz hs' => sin_any_false x z' hz w0 w' hS hC hs'
      rw [eZ] at hany
      unfold smZ at hany
      rw [eY] at hany
      exact sin_head_false_odd w0 _ x h1 h2 h3 hl h4 h5 (fmul x M4PI) (smJ x) _ (fi (smJ x)) (redJ x) (km_of hlt) (kc_of (small_mul hlt).1 (Nat.lt_trans (small_mul hlt).2 (by decide))) (ky_of _) (ki_u64 (op := .and) rfl hjU (q := 1) (by decide)).1 (eql_t (q := 1) hodd) (uadd (smJ x) 1) (ki_u64 (op := .add) rfl hjU (q := 1) (by decide)).1 (by rw [eJ, eK]; exact (ki_u64 (op := .and) rfl (uadd_lt _ _) (q := 7) (by decide)).1) hany w hs
    · have eY : smY x = fi (smJ x) := by unfold smY; rw [if_neg hodd]
      have eK : smK x = smJ x := by unfold smK; rw [if_neg hodd]
      have eJ : redJ x = uand (smK x) 7 := by unfold redJ; rw [h5]; rfl
      have eZ : redZ x = smZ x := by unfold redZ; rw [h5]; rfl
      have hany := fun z' w' hz hs' => sin_any_false x z' hz w0 w' hS hC hs'
      rw [eZ] at hany
      unfold smZ at hany
      rw [eY] at hany
      exact sin_head_false_even w0 _ x h1 h2 h3 hl h4 h5 (fmul x M4PI) (smJ x) _ (fi (smJ x)) (redJ x) (km_of hlt) (kc_of (small_mul hlt).1 (Nat.lt_trans (small_mul hlt).2 (by decide))) (ky_of _) (ki_u64 (op := .and) rfl hjU (q := 1) (by decide)).1 (eql_f (q := 1) hodd) (by rw [eJ, eK]; exact (ki_u64 (op := .and) rfl hjU (q := 7) (by decide)).1) hany w hs

set_option maxRecDepth 10000 in
theorem sin_fin_true (x : Nat) (h1 : feq x 0 = false) (h2 : isNanF x = false) (h3 : infA x = false) (hl : W64 x) (h4 : flt x 0 = true) (hr : (fneg x) < INF) (w0 : World) (hS : TabF 2 sinTab w0) (hC : TabF 1 cosTab w0) (hM : TabU 5 mpT w0) (w : World) (hs : St w0 w) : Calls Tryd.prog 44 #[.float .f64 x] w (RF (sinR true (fneg x)) w0) := by
  by_cases hb : TH29 ≤ (fneg x)
  · have h5 : fge (fneg x) TH29 = true := by rw [fge_TH (Nat.le_of_lt hr)]; exact decide_eq_true hb
    have eJ : redJ (fneg x) = trJ (fneg x) := by unfold redJ; rw [h5]; rfl
    have eZ : redZ (fneg x) = trZ (fneg x) := by unfold redZ; rw [h5]; rfl
    refine sin_head_true_big w0 _ x h1 h2 h3 hl h4 h5 (trJ (fneg x)) (trZ (fneg x)) (fun w' h' => c_trig (fneg x) hb hr w0 hM w' h') ?_ w hs
    intro z' w' hz hs'
    rw [← eZ] at hz
    rw [← eJ]
    exact sin_any_true (fneg x) z' hz w0 w' hS hC hs'
  · have h5 : fge (fneg x) TH29 = false := by rw [fge_TH (Nat.le_of_lt hr)]; exact decide_eq_false hb
    have hlt : (fneg x) < TH29 := by omega
    have hjU : U64 (smJ (fneg x)) := Nat.lt_trans (small_mul hlt).2 (by decide)
    by_cases hodd : uand (smJ (fneg x)) 1 = 1
    · have eY : smY (fneg x) = fadd (fi (smJ (fneg x))) one := by unfold smY; rw [if_pos hodd]
      have eK : smK (fneg x) = uadd (smJ (fneg x)) 1 := by unfold smK; rw [if_pos hodd]
      have eJ : redJ (fneg x) = uand (smK (fneg x)) 7 := by unfold redJ; rw [h5]; rfl
      have eZ : redZ (fneg x) = smZ (fneg x) := by unfold redZ; rw [h5]; rfl
      have hany := fun z' w' hz hs' => sin_any_true (fneg x) z' hz w0 w' hS hC hs'
      rw [eZ] at hany
      unfold smZ at hany
      rw [eY] at hany
      exact sin_head_true_odd w0 _ x h1 h2 h3 hl h4 h5 (fmul (fneg x) M4PI) (smJ (fneg x)) _ (fi (smJ (fneg x))) (redJ (fneg x)) (km_of hlt) (kc_of (small_mul hlt).1 (Nat.lt_trans (small_mul hlt).2 (by decide))) (ky_of _) (ki_u64 (op := .and) rfl hjU (q := 1) (by decide)).1 (eql_t (q := 1) hodd) (uadd (smJ (fneg x)) 1) (ki_u64 (op := .add) rfl hjU (q := 1) (by decide)).1 (by rw [eJ, eK]; exact (ki_u64 (op := .and) rfl (uadd_lt _ _) (q := 7) (by decide)).1) hany w hs
    · have eY : smY (fneg x) = fi (smJ (fneg x)) := by unfold smY; rw [if_neg hodd]
      have eK : smK (fneg x) = smJ (fneg x) := by unfold smK; rw [if_neg hodd]
      have eJ : redJ (fneg x) = uand (smK (fneg x)) 7 := by unfold redJ; rw [h5]; rfl
      have eZ : redZ (fneg x) = smZ (fneg x) := by unfold redZ; rw [h5]; rfl
      have hany := fun z' w' hz hs' => sin_any_true (fneg x) z' hz w0 w' hS hC hs'
      rw [eZ] at hany
      unfold smZ at hany
      rw [eY] at hany
      exact sin_head_true_even w0 _ x h1 h2 h3 hl h4 h5 (fmul (fneg x) M4PI) (smJ (fneg x)) _ (fi (smJ (fneg x))) (redJ (fneg x)) (km_of hlt) (kc_of (small_mul hlt).1 (Nat.lt_trans (small_mul hlt).2 (by decide))) (ky_of _) (ki_u64 (op := .and) rfl hjU (q := 1) (by decide)).1 (eql_f (q := 1) hodd) (by rw [eJ, eK]; exact (ki_u64 (op := .and) rfl hjU (q := 7) (by decide)).1) hany w hs

set_option maxRecDepth 10000 in
theorem cos_fin_false (x : Nat) (h2 : isNanF x = false) (h3 : infA x = false) (hl : W64 x) (ha : nan (absF x) = false) (hr : (absF x) < INF) (w0 : World) (hS : TabF 2 sinTab w0) (hC : TabF 1 cosTab w0) (hM : TabU 5 mpT w0) (w : World) (hs : St w0 w) : Calls Tryd.prog 52 #[.float .f64 x] w (RF (cosR (absF x)) w0) := by
  by_cases hb : TH29 ≤ (absF x)
  · have h5 : fge (absF x) TH29 = true := by rw [fge_TH (Nat.le_of_lt hr)]; exact decide_eq_true hb
    have eJ : redJ (absF x) = trJ (absF x) := by unfold redJ; rw [h5]; rfl
    have eZ : redZ (absF x) = trZ (absF x) := by unfold redZ; rw [h5]; rfl
    refine cos_head_big w0 _ x h2 h3 hl ha h5 (trJ (absF x)) (trZ (absF x)) (fun w' h' => c_trig (absF x) hb hr w0 hM w' h') ?_ w hs
    intro z' w' hz hs'
    rw [← eZ] at hz
    rw [← eJ]
    exact cos_any_false (absF x) z' hz w0 w' hS hC hs'
  · have h5 : fge (absF x) TH29 = false := by rw [fge_TH (Nat.le_of_lt hr)]; exact decide_eq_false hb
    have hlt : (absF x) < TH29 := by omega
    have hjU : U64 (smJ (absF x)) := Nat.lt_trans (small_mul hlt).2 (by decide)
    by_cases hodd : uand (smJ (absF x)) 1 = 1
    · have eY : smY (absF x) = fadd (fi (smJ (absF x))) one := by unfold smY; rw [if_pos hodd]
      have eK : smK (absF x) = uadd (smJ (absF x)) 1 := by unfold smK; rw [if_pos hodd]
      have eJ : redJ (absF x) = uand (smK (absF x)) 7 := by unfold redJ; rw [h5]; rfl
      have eZ : redZ (absF x) = smZ (absF x) := by unfold redZ; rw [h5]; rfl
      have hany := fun z' w' hz hs' => cos_any_false (absF x) z' hz w0 w' hS hC hs'
      rw [eZ] at hany
      unfold smZ at hany
      rw [eY] at hany
      exact cos_head_odd w0 _ x h2 h3 hl ha h5 (fmul (absF x) M4PI) (smJ (absF x)) _ (fi (smJ (absF x))) (redJ (absF x)) (km_of hlt) (kc_of (small_mul hlt).1 (Nat.lt_trans (small_mul hlt).2 (by decide))) (ky_of _) (ki_u64 (op := .and) rfl hjU (q := 1) (by decide)).1 (eql_t (q := 1) hodd) (uadd (smJ (absF x)) 1) (ki_u64 (op := .add) rfl hjU (q := 1) (by decide)).1 (by rw [eJ, eK]; exact (ki_u64 (op := .and) rfl (uadd_lt _ _) (q := 7) (by decide)).1) hany w hs
    · have eY : smY (absF x) = fi (smJ (absF x)) := by unfold smY; rw [if_neg hodd]
      have eK : smK (absF x) = smJ (absF x) := by unfold smK; rw [if_neg hodd]
      have eJ : redJ (absF x) = uand (smK (absF x)) 7 := by unfold redJ; rw [h5]; rfl
      have eZ : redZ (absF x) = smZ (absF x) := by unfold redZ; rw [h5]; rfl
      have hany := fun z' w' hz hs' => cos_any_false (absF x) z' hz w0 w' hS hC hs'
      rw [eZ] at hany
      unfold smZ at hany
      rw [eY] at hany
      exact cos_head_even w0 _ x h2 h3 hl ha h5 (fmul (absF x) M4PI) (smJ (absF x)) _ (fi (smJ (absF x))) (redJ (absF x)) (km_of hlt) (kc_of (small_mul hlt).1 (Nat.lt_trans (small_mul hlt).2 (by decide))) (ky_of _) (ki_u64 (op := .and) rfl hjU (q := 1) (by decide)).1 (eql_f (q := 1) hodd) (by rw [eJ, eK]; exact (ki_u64 (op := .and) rfl hjU (q := 7) (by decide)).1) hany w hs

set_option maxRecDepth 10000 in
theorem tan_fin_false (x : Nat) (h1 : feq x 0 = false) (h2 : isNanF x = false) (h3 : infA x = false) (hl : W64 x) (h4 : flt x 0 = false) (hr : x < INF) (w0 : World) (hP : TabF 3 tanPTab w0) (hQ : TabF 4 tanQTab w0) (hM : TabU 5 mpT w0) (w : World) (hs : St w0 w) : Calls Tryd.prog 48 #[.float .f64 x] w (RF (tanR false x) w0) := by
  by_cases hb : TH29 ≤ x
  · have h5 : fge x TH29 = true := by rw [fge_TH (Nat.le_of_lt hr)]; exact decide_eq_true hb
    have eJ : redT x = trJ x := by unfold redT; rw [h5]; rfl
    have eZ : redZ x = trZ x := by unfold redZ; rw [h5]; rfl
    refine tan_head_false_big w0 _ x h1 h2 h3 hl h4 h5 (trJ x) (trZ x) (fun w' h' => c_trig x hb hr w0 hM w' h') ?_ w hs
    intro z' w' hz hs'
    rw [← eZ] at hz
    rw [← eJ]
    exact tan_any_false x z' (by rw [eJ]; exact ev8_U64 (trJ_ev _)) hz w0 w' hP hQ hs'
  · have h5 : fge x TH29 = false := by rw [fge_TH (Nat.le_of_lt hr)]; exact decide_eq_false hb
    have hlt : x < TH29 := by omega
    have hjU : U64 (smJ x) := Nat.lt_trans (small_mul hlt).2 (by decide)
    by_cases hodd : uand (smJ x) 1 = 1
    · have eY : smY x = fadd (fi (smJ x)) one := by unfold smY; rw [if_pos hodd]
      have eK : smK x = uadd (smJ x) 1 := by unfold smK; rw [if_pos hodd]
      have eJ : redT x = smK x := by unfold redT; rw [h5]; rfl
      have eZ : redZ x = smZ x := by unfold redZ; rw [h5]; rfl
      have hany := fun z' w' hz hs' => tan_any_false x z' (by rw [eJ, eK]; exact uadd_lt _ _) hz w0 w' hP hQ hs'
      rw [eZ] at hany
      unfold smZ at hany
      rw [eY] at hany
      exact tan_head_false_odd w0 _ x h1 h2 h3 hl h4 h5 (fmul x M4PI) (smJ x) _ (fi (smJ x)) (redT x) (km_of hlt) (kc_of (small_mul hlt).1 (Nat.lt_trans (small_mul hlt).2 (by decide))) (ky_of _) (ki_u64 (op := .and) rfl hjU (q := 1) (by decide)).1 (eql_t (q := 1) hodd) (by rw [eJ, eK]; exact (ki_u64 (op := .add) rfl hjU (q := 1) (by decide)).1) hany w hs
    · have eY : smY x = fi (smJ x) := by unfold smY; rw [if_neg hodd]
      have eK : smK x = smJ x := by unfold smK; rw [if_neg hodd]
      have eJ : redT x = smK x := by unfold redT; rw [h5]; rfl
      have eZ : redZ x = smZ x := by unfold redZ; rw [h5]; rfl
      have hany := fun z' w' hz hs' => tan_any_false x z' (by rw [eJ, eK]; exact hjU) hz w0 w' hP hQ hs'
      rw [eZ] at hany
      unfold smZ at hany
      rw [eY] at hany
      rw [eJ, eK] at hany
      exact tan_head_false_even w0 _ x h1 h2 h3 hl h4 h5 (fmul x M4PI) (smJ x) _ (fi (smJ x)) (km_of hlt) (kc_of (small_mul hlt).1 (Nat.lt_trans (small_mul hlt).2 (by decide))) (ky_of _) (ki_u64 (op := .and) rfl hjU (q := 1) (by decide)).1 (eql_f (q := 1) hodd)  hany w hs

set_option maxRecDepth 10000 in
theorem tan_fin_true (x : Nat) (h1 : feq x 0 = false) (h2 : isNanF x = false) (h3 : infA x = false) (hl : W64 x) (h4 : flt x 0 = true) (hr : (fneg x) < INF) (w0 : World) (hP : TabF 3 tanPTab w0) (hQ : TabF 4 tanQTab w0) (hM : TabU 5 mpT w0) (w : World) (hs : St w0 w) : Calls Tryd.prog 48 #[.float .f64 x] w (RF (tanR true (fneg x)) w0) := by
  by_cases hb : TH29 ≤ (fneg x)
  · have h5 : fge (fneg x) TH29 = true := by rw [fge_TH (Nat.le_of_lt hr)]; exact decide_eq_true hb
    have eJ : redT (fneg x) = trJ (fneg x) := by unfold redT; rw [h5]; rfl
    have eZ : redZ (fneg x) = trZ (fneg x) := by unfold redZ; rw [h5]; rfl
    refine tan_head_true_big w0 _ x h1 h2 h3 hl h4 h5 (trJ (fneg x)) (trZ (fneg x)) (fun w' h' => c_trig (fneg x) hb hr w0 hM w' h') ?_ w hs
    intro z' w' hz hs'
    rw [← eZ] at hz
    rw [← eJ]
    exact tan_any_true (fneg x) z' (by rw [eJ]; exact ev8_U64 (trJ_ev _)) hz w0 w' hP hQ hs'
  · have h5 : fge (fneg x) TH29 = false := by rw [fge_TH (Nat.le_of_lt hr)]; exact decide_eq_false hb
    have hlt : (fneg x) < TH29 := by omega
    have hjU : U64 (smJ (fneg x)) := Nat.lt_trans (small_mul hlt).2 (by decide)
    by_cases hodd : uand (smJ (fneg x)) 1 = 1
    · have eY : smY (fneg x) = fadd (fi (smJ (fneg x))) one := by unfold smY; rw [if_pos hodd]
      have eK : smK (fneg x) = uadd (smJ (fneg x)) 1 := by unfold smK; rw [if_pos hodd]
      have eJ : redT (fneg x) = smK (fneg x) := by unfold redT; rw [h5]; rfl
      have eZ : redZ (fneg x) = smZ (fneg x) := by unfold redZ; rw [h5]; rfl
      have hany := fun z' w' hz hs' => tan_any_true (fneg x) z' (by rw [eJ, eK]; exact uadd_lt _ _) hz w0 w' hP hQ hs'
      rw [eZ] at hany
      unfold smZ at hany
      rw [eY] at hany
      exact tan_head_true_odd w0 _ x h1 h2 h3 hl h4 h5 (fmul (fneg x) M4PI) (smJ (fneg x)) _ (fi (smJ (fneg x))) (redT (fneg x)) (km_of hlt) (kc_of (small_mul hlt).1 (Nat.lt_trans (small_mul hlt).2 (by decide))) (ky_of _) (ki_u64 (op := .and) rfl hjU (q := 1) (by decide)).1 (eql_t (q := 1) hodd) (by rw [eJ, eK]; exact (ki_u64 (op := .add) rfl hjU (q := 1) (by decide)).1) hany w hs
    · have eY : smY (fneg x) = fi (smJ (fneg x)) := by unfold smY; rw [if_neg hodd]
      have eK : smK (fneg x) = smJ (fneg x) := by unfold smK; rw [if_neg hodd]
      have eJ : redT (fneg x) = smK (fneg x) := by unfold redT; rw [h5]; rfl
      have eZ : redZ (fneg x) = smZ (fneg x) := by unfold redZ; rw [h5]; rfl
      have hany := fun z' w' hz hs' => tan_any_true (fneg x) z' (by rw [eJ, eK]; exact hjU) hz w0 w' hP hQ hs'
      rw [eZ] at hany
      unfold smZ at hany
      rw [eY] at hany
      rw [eJ, eK] at hany
      exact tan_head_true_even w0 _ x h1 h2 h3 hl h4 h5 (fmul (fneg x) M4PI) (smJ (fneg x)) _ (fi (smJ (fneg x))) (km_of hlt) (kc_of (small_mul hlt).1 (Nat.lt_trans (small_mul hlt).2 (by decide))) (ky_of _) (ki_u64 (op := .and) rfl hjU (q := 1) (by decide)).1 (eql_f (q := 1) hodd)  hany w hs

set_option maxRecDepth 10000 in
theorem sc_fin_false (x : Nat) (h1 : feq x 0 = false) (h2 : isNanF x = false) (h3 : infA x = false) (hl : W64 x) (h4 : flt x 0 = false) (hr : x < INF) (w0 : World) (hS : TabF 2 sinTab w0) (hC : TabF 1 cosTab w0) (hM : TabU 5 mpT w0) (w : World) (hs : St w0 w) : Calls Tryd.prog 39 #[.float .f64 x] w (RFF (sinR false x) (cosR x) w0) := by
  by_cases hb : TH29 ≤ x
  · have h5 : fge x TH29 = true := by rw [fge_TH (Nat.le_of_lt hr)]; exact decide_eq_true hb
    have eJ : redJ x = trJ x := by unfold redJ; rw [h5]; rfl
    have eZ : redZ x = trZ x := by unfold redZ; rw [h5]; rfl
    refine sc_head_false_big w0 _ x h1 h2 h3 hl h4 h5 (trJ x) (trZ x) (fun w' h' => c_trig x hb hr w0 hM w' h') ?_ w hs
    intro z' w' hz hs'
    rw [← eZ] at hz
    rw [← eJ]
    exact sc_any_false x z' hz w0 w' hS hC hs'
  · have h5 : fge x TH29 = false := by rw [fge_TH (Nat.le_of_lt hr)]; exact decide_eq_false hb
    have hlt : x < TH29 := by omega
    have hjU : U64 (smJ x) := Nat.lt_trans (small_mul hlt).2 (by decide)
    by_cases hodd : uand (smJ x) 1 = 1
    · have eY : smY x = fadd (fi (smJ x)) one := by unfold smY; rw [if_pos hodd]
      have eK : smK x = uadd (smJ x) 1 := by unfold smK; rw [if_pos hodd]
      have eJ : redJ x = uand (smK x) 7 := by unfold redJ; rw [h5]; rfl
      have eZ : redZ x = smZ x := by unfold redZ; rw [h5]; rfl
      have hany := fun z' w' hz hs' => sc_any_false x z' hz w0 w' hS hC hs'
      rw [eZ] at hany
      unfold smZ at hany
      rw [eY] at hany
      exact sc_head_false_odd w0 _ x h1 h2 h3 hl h4 h5 (fmul x M4PI) (smJ x) _ (fi (smJ x)) (redJ x) (km_of hlt) (kc_of (small_mul hlt).1 (Nat.lt_trans (small_mul hlt).2 (by decide))) (ky_of _) (ki_u64 (op := .and) rfl hjU (q := 1) (by decide)).1 (eql_t (q := 1) hodd) (uadd (smJ x) 1) (ki_u64 (op := .add) rfl hjU (q := 1) (by decide)).1 (by rw [eJ, eK]; exact (ki_u64 (op := .and) rfl (uadd_lt _ _) (q := 7) (by decide)).1) hany w hs
    · have eY : smY x = fi (smJ x) := by unfold smY; rw [if_neg hodd]
      have eK : smK x = smJ x := by unfold smK; rw [if_neg hodd]
      have eJ : redJ x = uand (smK x) 7 := by unfold redJ; rw [h5]; rfl
      have eZ : redZ x = smZ x := by unfold redZ; rw [h5]; rfl
      have hany := fun z' w' hz hs' => sc_any_false x z' hz w0 w' hS hC hs'
      rw [eZ] at hany
      unfold smZ at hany
      rw [eY] at hany
      exact sc_head_false_even w0 _ x h1 h2 h3 hl h4 h5 (fmul x M4PI) (smJ x) _ (fi (smJ x)) (redJ x) (km_of hlt) (kc_of (small_mul hlt).1 (Nat.lt_trans (small_mul hlt).2 (by decide))) (ky_of _) (ki_u64 (op := .and) rfl hjU (q := 1) (by decide)).1 (eql_f (q := 1) hodd) (by rw [eJ, eK]; exact (ki_u64 (op := .and) rfl hjU (q := 7) (by decide)).1) hany w hs

set_option maxRecDepth 10000 in
theorem sc_fin_true (x : Nat) (h1 : feq x 0 = false) (h2 : isNanF x = false) (h3 : infA x = false) (hl : W64 x) (h4 : flt x 0 = true) (hr : (fneg x) < INF) (w0 : World) (hS : TabF 2 sinTab w0) (hC : TabF 1 cosTab w0) (hM : TabU 5 mpT w0) (w : World) (hs : St w0 w) : Calls Tryd.prog 39 #[.float .f64 x] w (RFF (sinR true (fneg x)) (cosR (fneg x)) w0) := by
  by_cases hb : TH29 ≤ (fneg x)
  · have h5 : fge (fneg x) TH29 = true := by rw [fge_TH (Nat.le_of_lt hr)]; exact decide_eq_true hb
    have eJ : redJ (fneg x) = trJ (fneg x) := by unfold redJ; rw [h5]; rfl
    have eZ : redZ (fneg x) = trZ (fneg x) := by unfold redZ; rw [h5]; rfl
    refine sc_head_true_big w0 _ x h1 h2 h3 hl h4 h5 (trJ (fneg x)) (trZ (fneg x)) (fun w' h' => c_trig (fneg x) hb hr w0 hM w' h') ?_ w hs
    intro z' w' hz hs'
    rw [← eZ] at hz
    rw [← eJ]
    exact sc_any_true (fneg x) z' hz w0 w' hS hC hs'
  · have h5 : fge (fneg x) TH29 = false := by rw [fge_TH (Nat.le_of_lt hr)]; exact decide_eq_false hb
    have hlt : (fneg x) < TH29 := by omega
    have hjU : U64 (smJ (fneg x)) := Nat.lt_trans (small_mul hlt).2 (by decide)
    by_cases hodd : uand (smJ (fneg x)) 1 = 1
    · have eY : smY (fneg x) = fadd (fi (smJ (fneg x))) one := by unfold smY; rw [if_pos hodd]
      have eK : smK (fneg x) = uadd (smJ (fneg x)) 1 := by unfold smK; rw [if_pos hodd]
      have eJ : redJ (fneg x) = uand (smK (fneg x)) 7 := by unfold redJ; rw [h5]; rfl
      have eZ : redZ (fneg x) = smZ (fneg x) := by unfold redZ; rw [h5]; rfl
      have hany := fun z' w' hz hs' => sc_any_true (fneg x) z' hz w0 w' hS hC hs'
      rw [eZ] at hany
      unfold smZ at hany
      rw [eY] at hany
      exact sc_head_true_odd w0 _ x h1 h2 h3 hl h4 h5 (fmul (fneg x) M4PI) (smJ (fneg x)) _ (fi (smJ (fneg x))) (redJ (fneg x)) (km_of hlt) (kc_of (small_mul hlt).1 (Nat.lt_trans (small_mul hlt).2 (by decide))) (ky_of _) (ki_u64 (op := .and) rfl hjU (q := 1) (by decide)).1 (eql_t (q := 1) hodd) (uadd (smJ (fneg x)) 1) (ki_u64 (op := .add) rfl hjU (q := 1) (by decide)).1 (by rw [eJ, eK]; exact (ki_u64 (op := .and) rfl (uadd_lt _ _) (q := 7) (by decide)).1) hany w hs
    · have eY : smY (fneg x) = fi (smJ (fneg x)) := by unfold smY; rw [if_neg hodd]
      have eK : smK (fneg x) = smJ (fneg x) := by unfold smK; rw [if_neg hodd]
      have eJ : redJ (fneg x) = uand (smK (fneg x)) 7 := by unfold redJ; rw [h5]; rfl
      have eZ : redZ (fneg x) = smZ (fneg x) := by unfold redZ; rw [h5]; rfl
      have hany := fun z' w' hz hs' => sc_any_true (fneg x) z' hz w0 w' hS hC hs'
      rw [eZ] at hany
      unfold smZ at hany
      rw [eY] at hany
      exact sc_head_true_even w0 _ x h1 h2 h3 hl h4 h5 (fmul (fneg x) M4PI) (smJ (fneg x)) _ (fi (smJ (fneg x))) (redJ (fneg x)) (km_of hlt) (kc_of (small_mul hlt).1 (Nat.lt_trans (small_mul hlt).2 (by decide))) (ky_of _) (ki_u64 (op := .and) rfl hjU (q := 1) (by decide)).1 (eql_f (q := 1) hodd) (by rw [eJ, eK]; exact (ki_u64 (op := .and) rfl hjU (q := 7) (by decide)).1) hany w hs

end Go.Proofs.YtgbdplmpojkklaaDoor
