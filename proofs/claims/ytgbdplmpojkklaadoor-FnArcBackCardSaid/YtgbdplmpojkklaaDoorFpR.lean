/-
Signed numbers: rounding is monotone; intervals of words through + - * /.
-/
import Derived.Test.YtgbdplmpojkklaaDoorFpG
namespace Go.Proofs.YtgbdplmpojkklaaDoor
open Ieee

/-- The signed value of a word. -/
def sv (x : Nat) : Int := if x < SGN then (V x : Int) else -(V (x - SGN) : Int)
theorem sv_word (s : Bool) (r : Nat) (h : r < SGN) : sv (double.word s r) = SV s r := by
  unfold sv
  cases s
  · rw [word_false, if_pos h]; rfl
  · rw [word_true, if_neg (by omega), Nat.add_sub_cancel_left]; rfl

/-- A finite word. -/
def Fw (x : Nat) : Prop := ∃ s r, r < INF ∧ x = double.word s r
def fwB (x : Nat) : Bool := decide (x < SGN + INF) && decide (x % SGN < INF)
theorem Fw.of {x : Nat} (h : fwB x = true) : Fw x := by
  have hI : INF < SGN := INF_lt_SGN
  unfold fwB at h
  simp only [Bool.and_eq_true, decide_eq_true_eq] at h
  by_cases hx : x < SGN
  · rw [Nat.mod_eq_of_lt hx] at h
    exact ⟨false, x, h.2, rfl⟩
  · refine ⟨true, x - SGN, by omega, ?_⟩
    rw [word_true]; omega

/-- y is the signed number Z / d rounded. -/
def RnS (Z : Int) (d y : Nat) : Prop := ∃ s r, y = double.word s r ∧ Rn Z.natAbs d r ∧ (Z < 0 → s = true) ∧ (0 < Z → s = false)

theorem Rn.zero {d r : Nat} (h : Rn 0 d r) : r = 0 := by
  have := h.mono (Rn.exact 0 (Nat.zero_le _)) (by simp)
  omega

theorem RnS.sv {Z : Int} {d y : Nat} (h : RnS Z d y) : ∃ r, Rn Z.natAbs d r ∧ r ≤ INF ∧ sv y = (if Z < 0 then -(V r : Int) else (V r : Int)) := by
  obtain ⟨s, r, rfl, hr, h1, h2⟩ := h
  refine ⟨r, hr, hr.2.1, ?_⟩
  have hI := INF_lt_SGN
  rw [sv_word s r (by have := hr.2.1; omega)]
  rcases Int.lt_trichotomy Z 0 with hz | hz | hz
  · rw [h1 hz, if_pos hz]; rfl
  · subst hz
    have : r = 0 := Rn.zero hr
    subst this
    cases s <;> simp [SV, V_zero]
  · rw [h2 hz, if_neg (by omega)]; rfl

theorem RnS.mono {Z Z' : Int} {d d' y y' : Nat} (h : RnS Z d y) (h' : RnS Z' d' y') (hle : Z * d' ≤ Z' * d) : Go.Proofs.YtgbdplmpojkklaaDoor.sv y ≤ Go.Proofs.YtgbdplmpojkklaaDoor.sv y' := by
  obtain ⟨r, hr, _, e⟩ := h.sv
  obtain ⟨r', hr', _, e'⟩ := h'.sv
  have hd : (0 : Int) < d := by have := hr.1; omega
  have hd' : (0 : Int) < d' := by have := hr'.1; omega
  rw [e, e']
  by_cases hz : Z < 0
  · rw [if_pos hz]
    by_cases hz' : Z' < 0
    · rw [if_pos hz']
      have hm : Z'.natAbs * d ≤ Z.natAbs * d' := by
        have h1 : ((Z'.natAbs * d : Nat) : Int) = -(Z' * d) := by
          rw [Int.natCast_mul, show (Z'.natAbs : Int) = -Z' by omega, Int.neg_mul]
        have h2 : ((Z.natAbs * d' : Nat) : Int) = -(Z * d') := by
          rw [Int.natCast_mul, show (Z.natAbs : Int) = -Z by omega, Int.neg_mul]
        omega
      have := V_le (hr'.mono hr hm)
      omega
    · rw [if_neg hz']; omega
  · rw [if_neg hz]
    by_cases hz' : Z' < 0
    · exfalso
      have h1 : 0 ≤ Z * d' := Int.mul_nonneg (by omega) (by omega)
      have h2 : Z' * d < 0 := Int.mul_neg_of_neg_of_pos hz' hd
      omega
    · rw [if_neg hz']
      have hm : Z.natAbs * d' ≤ Z'.natAbs * d := by
        have h1 : ((Z.natAbs * d' : Nat) : Int) = Z * d' := by rw [Int.natCast_mul, show (Z.natAbs : Int) = Z by omega]
        have h2 : ((Z'.natAbs * d : Nat) : Int) = Z' * d := by rw [Int.natCast_mul, show (Z'.natAbs : Int) = Z' by omega]
        omega
      have := V_le (hr.mono hr' hm)
      omega

theorem fadd_RnS {x y : Nat} (hx : Fw x) (hy : Fw y) : RnS (sv x + sv y) 1 (fadd x y) := by
  obtain ⟨s, a, ha, rfl⟩ := hx
  obtain ⟨t, b, hb, rfl⟩ := hy
  have hI := INF_lt_SGN
  obtain ⟨r, h, hr⟩ := fadd_word s t a b ha hb
  rw [sv_word s a (by omega), sv_word t b (by omega)]
  refine ⟨_, r, h, hr, fun hz => ?_, fun hz => ?_⟩
  · rw [if_neg (by omega)]; simpa using hz
  · rw [if_neg (by omega)]; simp; omega
theorem Fw.neg {x : Nat} (hx : Fw x) : Fw (fneg x) := by
  obtain ⟨s, a, ha, rfl⟩ := hx
  have hI := INF_lt_SGN
  exact ⟨!s, a, ha, fneg_word s a (by omega)⟩
theorem sv_fneg {x : Nat} (hx : Fw x) : sv (fneg x) = -sv x := by
  obtain ⟨s, a, ha, rfl⟩ := hx
  have hI := INF_lt_SGN
  rw [fneg_word s a (by omega), sv_word _ a (by omega), sv_word s a (by omega)]
  cases s <;> simp [SV]
theorem fsub_eq {x y : Nat} (hx : Fw x) (hy : Fw y) : fsub x y = fadd x (fneg y) := by
  obtain ⟨s, a, ha, rfl⟩ := hx
  obtain ⟨t, b, hb, rfl⟩ := hy
  have hI := INF_lt_SGN
  rw [fneg_word t b (by omega)]
  unfold fsub fadd
  rw [sub_fin s t a b ha hb]
theorem fsub_RnS {x y : Nat} (hx : Fw x) (hy : Fw y) : RnS (sv x - sv y) 1 (fsub x y) := by
  rw [fsub_eq hx hy, Int.sub_eq_add_neg, ← sv_fneg hy]; exact fadd_RnS hx hy.neg

theorem SV_mul (s t : Bool) (a b : Nat) : SV s a * SV t b = if s ^^ t then -((V a * V b : Nat) : Int) else ((V a * V b : Nat) : Int) := by
  cases s <;> cases t <;> simp [SV, Int.neg_mul, Int.mul_neg]
theorem fmul_RnS {x y : Nat} (hx : Fw x) (hy : Fw y) : RnS (sv x * sv y) U (fmul x y) := by
  obtain ⟨s, a, ha, rfl⟩ := hx
  obtain ⟨t, b, hb, rfl⟩ := hy
  have hI := INF_lt_SGN
  rw [sv_word s a (by omega), sv_word t b (by omega), SV_mul, fmul_word s t ha hb]
  have hr := fmul_Rn ha hb
  generalize fmul a b = q at *
  generalize V a * V b = m at *
  refine ⟨s ^^ t, _, rfl, ?_, ?_, ?_⟩
  · cases s ^^ t
    · simpa using hr
    · simpa using hr
  · cases s ^^ t
    · intro hz; simp at hz; omega
    · intro _; rfl
  · cases s ^^ t
    · intro _; rfl
    · intro hz; simp at hz; omega
theorem fdiv_RnS {x b : Nat} (hx : Fw x) (hb : b < INF) (h0 : 0 < b) : RnS (sv x * U) (V b) (fdiv x b) := by
  obtain ⟨s, a, ha, rfl⟩ := hx
  have hI := INF_lt_SGN
  have h := fdiv_word s false ha hb h0
  rw [word_false, Bool.xor_false] at h
  rw [sv_word s a (by omega), h]
  have hr := fdiv_Rn ha hb h0
  have hU := U_pos
  refine ⟨s, _, rfl, ?_, ?_, ?_⟩
  · cases s
    · have e : (SV false a * (U : Int)).natAbs = V a * U := by rw [SV_false, Int.natAbs_mul]; rfl
      rw [e]; exact hr
    · have e : (SV true a * (U : Int)).natAbs = V a * U := by rw [SV_true, Int.natAbs_mul, Int.natAbs_neg]; rfl
      rw [e]; exact hr
  · cases s
    · intro hz
      have : 0 ≤ SV false a * (U : Int) := Int.mul_nonneg (by rw [SV_false]; omega) (by omega)
      omega
    · intro _; rfl
  · cases s
    · intro _; rfl
    · intro hz
      have h1 : SV true a * (U : Int) = -((V a : Int) * U) := by rw [SV_true, Int.neg_mul]
      have : 0 ≤ (V a : Int) * (U : Int) := Int.mul_nonneg (by omega) (by omega)
      omega

/-- x is a finite number from lo to hi. -/
def In (x lo hi : Nat) : Prop := Fw x ∧ sv lo ≤ sv x ∧ sv x ≤ sv hi

theorem Fw.between {Z : Int} {d y L H : Nat} (h : RnS Z d y) (m1 : sv L ≤ sv y) (m2 : sv y ≤ sv H) (fL : Fw L) (fH : Fw H) : Fw y := by
  obtain ⟨s, r, rfl, hr, _, _⟩ := h
  obtain ⟨s1, r1, hr1, rfl⟩ := fL
  obtain ⟨s2, r2, hr2, rfl⟩ := fH
  have hI := INF_lt_SGN
  have hri := hr.2.1
  rw [sv_word s r (by omega), sv_word _ _ (by omega)] at m1 m2
  refine ⟨s, r, ?_, rfl⟩
  have v1 := V_lt hr1
  have v2 := V_lt hr2
  by_cases e : r < INF
  · exact e
  · exfalso
    obtain rfl : r = INF := by omega
    cases s <;> cases s1 <;> cases s2 <;> simp [SV] at m1 m2 <;> omega

theorem RnS.inn {Z ZL ZH : Int} {d dL dH y L H : Nat} (h : RnS Z d y) (hL : RnS ZL dL L) (hH : RnS ZH dH H) (h1 : ZL * d ≤ Z * dL) (h2 : Z * dH ≤ ZH * d) (fL : Fw L) (fH : Fw H) : In y L H := by
  have m1 := hL.mono h h1
  have m2 := h.mono hH h2
  exact ⟨Fw.between h m1 m2 fL fH, m1, m2⟩

theorem In.mono {x a b c d : Nat} (h : In x a b) (h1 : sv c ≤ sv a) (h2 : sv b ≤ sv d) : In x c d := ⟨h.1, by have := h.2.1; omega, by have := h.2.2; omega⟩
theorem In_add {x y a b c d L H : Nat} (hx : In x a b) (hy : In y c d) (fa : Fw a) (fb : Fw b) (fc : Fw c) (fd : Fw d) (eL : fadd a c = L) (eH : fadd b d = H) (fL : Fw L) (fH : Fw H) : In (fadd x y) L H := by
  subst eL eH
  have h1 := hx.2; have h2 := hy.2
  exact (fadd_RnS hx.1 hy.1).inn (fadd_RnS fa fc) (fadd_RnS fb fd) (by omega) (by omega) fL fH
theorem In_sub {x y a b c d L H : Nat} (hx : In x a b) (hy : In y c d) (fa : Fw a) (fb : Fw b) (fc : Fw c) (fd : Fw d) (eL : fsub a d = L) (eH : fsub b c = H) (fL : Fw L) (fH : Fw H) : In (fsub x y) L H := by
  subst eL eH
  have h1 := hx.2; have h2 := hy.2
  exact (fsub_RnS hx.1 hy.1).inn (fsub_RnS fa fd) (fsub_RnS fb fc) (by omega) (by omega) fL fH

theorem mul_corner_le {x y a b c d : Int} (h1 : a ≤ x) (h2 : x ≤ b) (h3 : c ≤ y) (h4 : y ≤ d) : x * y ≤ a * c ∨ x * y ≤ a * d ∨ x * y ≤ b * c ∨ x * y ≤ b * d := by
  by_cases hy : 0 ≤ y
  · have e1 : x * y ≤ b * y := Int.mul_le_mul_of_nonneg_right h2 hy
    by_cases hb : 0 ≤ b
    · have := Int.mul_le_mul_of_nonneg_left h4 hb; omega
    · have := Int.mul_le_mul_of_nonpos_left (a := b) (by omega) h3; omega
  · have e1 : x * y ≤ a * y := Int.mul_le_mul_of_nonpos_right h1 (by omega)
    by_cases ha : 0 ≤ a
    · have := Int.mul_le_mul_of_nonneg_left h4 ha; omega
    · have := Int.mul_le_mul_of_nonpos_left (a := a) (by omega) h3; omega
theorem corner_le_mul {x y a b c d : Int} (h1 : a ≤ x) (h2 : x ≤ b) (h3 : c ≤ y) (h4 : y ≤ d) : a * c ≤ x * y ∨ a * d ≤ x * y ∨ b * c ≤ x * y ∨ b * d ≤ x * y := by
  by_cases hy : 0 ≤ y
  · have e1 : a * y ≤ x * y := Int.mul_le_mul_of_nonneg_right h1 hy
    by_cases ha : 0 ≤ a
    · have := Int.mul_le_mul_of_nonneg_left h3 ha; omega
    · have := Int.mul_le_mul_of_nonpos_left (a := a) (by omega) h4; omega
  · have e1 : b * y ≤ x * y := Int.mul_le_mul_of_nonpos_right h2 (by omega)
    by_cases hb : 0 ≤ b
    · have := Int.mul_le_mul_of_nonneg_left h3 hb; omega
    · have := Int.mul_le_mul_of_nonpos_left (a := b) (by omega) h4; omega

/-- A product: no corner is below L or above H. -/
theorem In_mul {x y a b c d L H : Nat} (hx : In x a b) (hy : In y c d) (fa : Fw a) (fb : Fw b) (fc : Fw c) (fd : Fw d) (fL : Fw L) (fH : Fw H)
    (l1 : sv L ≤ sv (fmul a c)) (l2 : sv L ≤ sv (fmul a d)) (l3 : sv L ≤ sv (fmul b c)) (l4 : sv L ≤ sv (fmul b d))
    (u1 : sv (fmul a c) ≤ sv H) (u2 : sv (fmul a d) ≤ sv H) (u3 : sv (fmul b c) ≤ sv H) (u4 : sv (fmul b d) ≤ sv H) : In (fmul x y) L H := by
  have hr := fmul_RnS hx.1 hy.1
  have hU : (0 : Int) ≤ U := by have := U_pos; omega
  have m1 : sv L ≤ sv (fmul x y) := by
    rcases corner_le_mul hx.2.1 hx.2.2 hy.2.1 hy.2.2 with h | h | h | h
    · have := (fmul_RnS fa fc).mono hr (Int.mul_le_mul_of_nonneg_right h hU); omega
    · have := (fmul_RnS fa fd).mono hr (Int.mul_le_mul_of_nonneg_right h hU); omega
    · have := (fmul_RnS fb fc).mono hr (Int.mul_le_mul_of_nonneg_right h hU); omega
    · have := (fmul_RnS fb fd).mono hr (Int.mul_le_mul_of_nonneg_right h hU); omega
  have m2 : sv (fmul x y) ≤ sv H := by
    rcases mul_corner_le hx.2.1 hx.2.2 hy.2.1 hy.2.2 with h | h | h | h
    · have := hr.mono (fmul_RnS fa fc) (Int.mul_le_mul_of_nonneg_right h hU); omega
    · have := hr.mono (fmul_RnS fa fd) (Int.mul_le_mul_of_nonneg_right h hU); omega
    · have := hr.mono (fmul_RnS fb fc) (Int.mul_le_mul_of_nonneg_right h hU); omega
    · have := hr.mono (fmul_RnS fb fd) (Int.mul_le_mul_of_nonneg_right h hU); omega
  exact ⟨Fw.between hr m1 m2 fL fH, m1, m2⟩

/-- A quotient by a positive number: no corner is below L or above H. -/
theorem In_div {x y a b c d L H : Nat} (hx : In x a b) (hc : 0 < c) (hy1 : c ≤ y) (hy2 : y ≤ d) (hd : d < INF) (fa : Fw a) (fb : Fw b) (fL : Fw L) (fH : Fw H)
    (l1 : sv L ≤ sv (fdiv a c)) (l2 : sv L ≤ sv (fdiv a d)) (u1 : sv (fdiv b c) ≤ sv H) (u2 : sv (fdiv b d) ≤ sv H) : In (fdiv x y) L H := by
  have hr := fdiv_RnS hx.1 (show y < INF by omega) (show 0 < y by omega)
  have hU : (0 : Int) ≤ U := by have := U_pos; omega
  have vc : (V c : Int) ≤ V y := by have := V_le hy1; omega
  have vd : (V y : Int) ≤ V d := by have := V_le hy2; omega
  have hx1 := Int.mul_le_mul_of_nonneg_right hx.2.1 hU
  have hx2 := Int.mul_le_mul_of_nonneg_right hx.2.2 hU
  have pc : (0 : Int) ≤ V c := by omega
  have py : (0 : Int) ≤ V y := by omega
  have pd : (0 : Int) ≤ V d := by omega
  have m1 : sv L ≤ sv (fdiv x y) := by
    by_cases ha : 0 ≤ sv a * U
    · -- a/d is below
      have h1 : sv a * U * V y ≤ sv x * U * V d := by
        have e1 := Int.mul_le_mul_of_nonneg_left vd ha
        have e2 := Int.mul_le_mul_of_nonneg_right hx1 pd
        omega
      have := (fdiv_RnS fa hd (by omega)).mono hr h1; omega
    · have h1 : sv a * U * V y ≤ sv x * U * V c := by
        have e1 := Int.mul_le_mul_of_nonpos_left (a := sv a * U) (by omega) vc
        have e2 := Int.mul_le_mul_of_nonneg_right hx1 pc
        omega
      have := (fdiv_RnS fa (show c < INF by omega) hc).mono hr h1; omega
  have m2 : sv (fdiv x y) ≤ sv H := by
    by_cases hb : 0 ≤ sv b * U
    · have h1 : sv x * U * V c ≤ sv b * U * V y := by
        have e1 := Int.mul_le_mul_of_nonneg_left vc hb
        have e2 := Int.mul_le_mul_of_nonneg_right hx2 pc
        omega
      have := hr.mono (fdiv_RnS fb (show c < INF by omega) hc) h1; omega
    · have h1 : sv x * U * V d ≤ sv b * U * V y := by
        have e1 := Int.mul_le_mul_of_nonpos_left (a := sv b * U) (by omega) vd
        have e2 := Int.mul_le_mul_of_nonneg_right hx2 pd
        omega
      have := hr.mono (fdiv_RnS fb hd (by omega)) h1; omega
  exact ⟨Fw.between hr m1 m2 fL fH, m1, m2⟩
end Go.Proofs.YtgbdplmpojkklaaDoor
