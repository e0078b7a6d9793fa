/-
Words as rational numbers; the reduced number; the polynomials of Sin, Cos and Tan; FnTanIsQuotient's plain law. No program in sight.
-/
import Derived.Test.YtgbdplmpojkklaaDoorFpS
import Derived.Test.YtgbdplmpojkklaaDoorFpY
import Derived.Test.YtgbdplmpojkklaaDoorPl7
import Derived.Test.YtgbdplmpojkklaaDoorFpW
namespace Go.Proofs.YtgbdplmpojkklaaDoor
open Ieee

/-- The rounding's relative error, as whole numbers. -/
theorem Rn.relB {n d r : Nat} (h : Rn n d r) (hr : r < INF) : 9007199254740992 * n ≤ 9007199254740992 * (V r * d) + n + 4503599627370496 * d := by
  by_cases hc : n ≤ V r * d
  · omega
  · have h1 : 2 * n ≤ M r * d := by
      rcases (h.2.2 r hr).1 (Nat.le_refl _) with h1 | ⟨h1, _⟩ <;> omega
    have e1 : M r = 2 * V r + 2 ^ pl r := by unfold M; rw [V_step]; show V r + (V r + 2 ^ pl r) = _; omega
    rw [e1, Nat.add_mul, Nat.mul_assoc] at h1
    by_cases hB : r < B
    · have e2 : pl r = 0 := by unfold pl; rw [Nat.div_eq_of_lt hB]
      rw [e2, Nat.pow_zero, Nat.one_mul] at h1
      generalize V r * d = x at *
      omega
    · have h2 : B * 2 ^ pl r ≤ V r := by
        rw [V_eq]; refine Nat.mul_le_mul_right _ ?_
        unfold mg; rw [if_neg hB]; omega
      have h3 := Nat.mul_le_mul_right d h2
      rw [Nat.mul_assoc, show B = 4503599627370496 from rfl] at h3
      generalize V r * d = x at *
      generalize 2 ^ pl r * d = y at *
      omega
theorem Rn.relA {n d r : Nat} (h : Rn n d r) (hr : r < INF) : 9007199254740992 * (V r * d) ≤ 9007199254740992 * n + n + 4503599627370496 * d := by
  by_cases hc : V r * d ≤ n
  · omega
  · have h0 : r ≠ 0 := by intro h0; apply hc; rw [h0, V_zero, Nat.zero_mul]; exact Nat.zero_le _
    have h1 : M (r - 1) * d ≤ 2 * n := by
      by_cases hh : M (r - 1) * d ≤ 2 * n
      · exact hh
      · have := (h.2.2 (r - 1) (by omega)).2 (.inl (by omega)); omega
    have e1 : M (r - 1) = V (r - 1) + V r := by unfold M; rw [show r - 1 + 1 = r by omega]
    have e2 : V r = V (r - 1) + 2 ^ pl (r - 1) := by
      have := V_step (r - 1); rw [show r - 1 + 1 = r by omega] at this; exact this
    rw [e1, Nat.add_mul] at h1
    have e3 : V r * d = V (r - 1) * d + 2 ^ pl (r - 1) * d := by rw [e2, Nat.add_mul]
    by_cases hB : r - 1 < B
    · have e4 : pl (r - 1) = 0 := by unfold pl; rw [Nat.div_eq_of_lt hB]
      rw [e4, Nat.pow_zero, Nat.one_mul] at e3
      generalize V r * d = x at *
      generalize V (r - 1) * d = y at *
      omega
    · have h2 : B * 2 ^ pl (r - 1) ≤ V (r - 1) := by
        rw [V_eq]; refine Nat.mul_le_mul_right _ ?_
        unfold mg; rw [if_neg hB]; omega
      have h3 := Nat.mul_le_mul_right d h2
      rw [Nat.mul_assoc, show B = 4503599627370496 from rfl] at h3
      generalize V r * d = x at *
      generalize V (r - 1) * d = y at *
      generalize 2 ^ pl (r - 1) * d = z at *
      omega

/-- Rounding's unit, and half the least number. -/
def uq : Rat := 1 / 9007199254740992
def Uq : Rat := (U : Rat)
def hq : Rat := 1 / (2 * Uq)
theorem Uq_pos : 0 < Uq := Rat.natCast_pos.2 U_pos
/-- The number that a word stands for. -/
def vq (x : Nat) : Rat := (sv x : Rat) / Uq

theorem rat_near {n d r : Nat} (h : Rn n d r) (hr : r < INF) :
    (V r : Rat) ≤ (n : Rat) / d + ((n : Rat) / d * uq + 1 / 2) ∧ (n : Rat) / d ≤ (V r : Rat) + ((n : Rat) / d * uq + 1 / 2) := by
  have hd : (0 : Rat) < d := Rat.natCast_pos.2 h.1
  have hA := Rat.natCast_le_natCast.2 (h.relA hr)
  have hB := Rat.natCast_le_natCast.2 (h.relB hr)
  simp only [Rat.natCast_mul, Rat.natCast_add] at hA hB
  have e : (n : Rat) = (n : Rat) / d * d := (Rat.div_mul_cancel (by grind)).symm
  generalize (n : Rat) / d = q at *
  rw [e] at hA hB
  have c1 : ((9007199254740992 : Nat) : Rat) = 9007199254740992 := rfl
  have c2 : ((4503599627370496 : Nat) : Rat) = 4503599627370496 := rfl
  rw [c1, c2] at hA hB
  unfold uq
  constructor
  · refine Rat.le_of_mul_le_mul_right (c := 9007199254740992 * d) ?_ (by grind)
    grind
  · refine Rat.le_of_mul_le_mul_right (c := 9007199254740992 * d) ?_ (by grind)
    grind

theorem natI (n : Nat) : ((n : Int) : Rat) = (n : Rat) := rfl
theorem RnS_near {Z : Int} {d y : Nat} (h : RnS Z d y) (hy : Fw y) {b : Rat} (h1 : -b ≤ (Z : Rat) / d) (h2 : (Z : Rat) / d ≤ b) :
    (Z : Rat) / d - (b * uq + 1 / 2) ≤ (sv y : Rat) ∧ (sv y : Rat) ≤ (Z : Rat) / d + (b * uq + 1 / 2) := by
  obtain ⟨r, hr, hle, e⟩ := h.sv
  have hI : r < INF := by
    obtain ⟨s, r', hr', rfl⟩ := hy
    have hIS := INF_lt_SGN
    have := sv_word s r' (by omega)
    rw [this] at e
    by_cases hh : r < INF
    · exact hh
    · exfalso
      obtain rfl : r = INF := by omega
      have := V_lt hr'
      cases s <;> simp only [SV_false, SV_true] at e <;> split at e <;> omega
  obtain ⟨n1, n2⟩ := rat_near hr hI
  have hd : (0 : Rat) < d := Rat.natCast_pos.2 hr.1
  have hu : (0 : Rat) < uq := by decide +kernel
  rw [e]
  by_cases hz : Z < 0
  · have e2 : ((Z.natAbs : Nat) : Rat) = -(Z : Rat) := by
      have : ((Z.natAbs : Nat) : Int) = -Z := by omega
      rw [← natI, this, Rat.intCast_neg]
    have e3 : ((Z.natAbs : Nat) : Rat) / d = -((Z : Rat) / d) := by rw [e2]; grind
    rw [e3] at n1 n2
    rw [if_pos hz]
    have e4 : ((-(V r : Int) : Int) : Rat) = -(V r : Rat) := by rw [Rat.intCast_neg, natI]
    rw [e4]
    have := Rat.mul_le_mul_of_nonneg_right (show -((Z : Rat) / d) ≤ b by grind) (show (0 : Rat) ≤ uq by grind)
    constructor <;> grind
  · have e2 : ((Z.natAbs : Nat) : Rat) = (Z : Rat) := by
      have : ((Z.natAbs : Nat) : Int) = Z := by omega
      rw [← natI, this]
    have e3 : ((Z.natAbs : Nat) : Rat) / d = (Z : Rat) / d := by rw [e2]
    rw [e3] at n1 n2
    rw [if_neg hz]
    have e4 : (((V r : Int) : Int) : Rat) = (V r : Rat) := natI _
    rw [e4]
    have := Rat.mul_le_mul_of_nonneg_right h2 (show (0 : Rat) ≤ uq by grind)
    constructor <;> grind


/-- A word's number lies within e of p. -/
def Er (x : Nat) (p e : Rat) : Prop := p - e ≤ vq x ∧ vq x ≤ p + e

theorem svq (x : Nat) : (sv x : Rat) = vq x * Uq := by
  have := Uq_pos
  unfold vq; grind
theorem q_add {x y : Nat} {b : Rat} (hx : Fw x) (hy : Fw y) (hr : Fw (fadd x y)) (h1 : -b ≤ vq x + vq y) (h2 : vq x + vq y ≤ b) : Er (fadd x y) (vq x + vq y) (b * uq + hq) := by
  have hU := Uq_pos
  have e : (((sv x + sv y : Int)) : Rat) / ((1 : Nat) : Rat) = (vq x + vq y) * Uq := by
    rw [Rat.intCast_add, svq, svq]
    have : ((1 : Nat) : Rat) = 1 := rfl
    rw [this]; grind
  have m1 := Rat.mul_le_mul_of_nonneg_right h1 (show 0 ≤ Uq by grind)
  have m2 := Rat.mul_le_mul_of_nonneg_right h2 (show 0 ≤ Uq by grind)
  have h := RnS_near (fadd_RnS hx hy) hr (b := b * Uq) (by rw [e]; grind) (by rw [e]; grind)
  rw [e, svq] at h
  unfold Er hq
  constructor
  · refine Rat.le_of_mul_le_mul_right (c := Uq) ?_ hU; grind
  · refine Rat.le_of_mul_le_mul_right (c := Uq) ?_ hU; grind
theorem q_sub {x y : Nat} {b : Rat} (hx : Fw x) (hy : Fw y) (hr : Fw (fsub x y)) (h1 : -b ≤ vq x - vq y) (h2 : vq x - vq y ≤ b) : Er (fsub x y) (vq x - vq y) (b * uq + hq) := by
  have hU := Uq_pos
  have e : (((sv x - sv y : Int)) : Rat) / ((1 : Nat) : Rat) = (vq x - vq y) * Uq := by
    rw [Rat.intCast_sub, svq, svq]
    have : ((1 : Nat) : Rat) = 1 := rfl
    rw [this]; grind
  have m1 := Rat.mul_le_mul_of_nonneg_right h1 (show 0 ≤ Uq by grind)
  have m2 := Rat.mul_le_mul_of_nonneg_right h2 (show 0 ≤ Uq by grind)
  have h := RnS_near (fsub_RnS hx hy) hr (b := b * Uq) (by rw [e]; grind) (by rw [e]; grind)
  rw [e, svq] at h
  unfold Er hq
  constructor
  · refine Rat.le_of_mul_le_mul_right (c := Uq) ?_ hU; grind
  · refine Rat.le_of_mul_le_mul_right (c := Uq) ?_ hU; grind
theorem q_mul {x y : Nat} {b : Rat} (hx : Fw x) (hy : Fw y) (hr : Fw (fmul x y)) (h1 : -b ≤ vq x * vq y) (h2 : vq x * vq y ≤ b) : Er (fmul x y) (vq x * vq y) (b * uq + hq) := by
  have hU := Uq_pos
  have e : (((sv x * sv y : Int)) : Rat) / ((U : Nat) : Rat) = (vq x * vq y) * Uq := by
    rw [Rat.intCast_mul, svq, svq]
    show vq x * Uq * (vq y * Uq) / Uq = _
    grind
  have m1 := Rat.mul_le_mul_of_nonneg_right h1 (show 0 ≤ Uq by grind)
  have m2 := Rat.mul_le_mul_of_nonneg_right h2 (show 0 ≤ Uq by grind)
  have h := RnS_near (fmul_RnS hx hy) hr (b := b * Uq) (by rw [e]; grind) (by rw [e]; grind)
  rw [e, svq] at h
  unfold Er hq
  constructor
  · refine Rat.le_of_mul_le_mul_right (c := Uq) ?_ hU; grind
  · refine Rat.le_of_mul_le_mul_right (c := Uq) ?_ hU; grind
theorem vq_nat {x : Nat} (h : x < INF) : vq x = (V x : Rat) / Uq := by
  have hI := INF_lt_SGN
  have := sv_word false x (by omega)
  unfold vq; rw [show sv x = (V x : Int) from this, natI]
theorem vq_pos {x : Nat} (h : x < INF) (h0 : 0 < x) : 0 < vq x := by
  have hU := Uq_pos
  have hv : (0 : Rat) < (V x : Rat) := Rat.natCast_pos.2 (V_pos h0)
  have e : (V x : Rat) = vq x * Uq := by rw [vq_nat h]; grind
  rcases Rat.le_total (a := vq x) (b := 0) with hh | hh
  · have := Rat.mul_le_mul_of_nonneg_right hh (show 0 ≤ Uq by grind)
    grind
  · by_cases hz : vq x = 0
    · rw [hz] at e; grind
    · grind
theorem q_div {x y : Nat} {b : Rat} (hx : Fw x) (hy : y < INF) (hy0 : 0 < y) (hr : Fw (fdiv x y)) (h1 : -b ≤ vq x / vq y) (h2 : vq x / vq y ≤ b) : Er (fdiv x y) (vq x / vq y) (b * uq + hq) := by
  have hU := Uq_pos
  have hp := vq_pos hy hy0
  have ey : ((V y : Nat) : Rat) = vq y * Uq := by rw [vq_nat hy]; grind
  have e : (((sv x * (U : Int) : Int)) : Rat) / ((V y : Nat) : Rat) = (vq x / vq y) * Uq := by
    rw [Rat.intCast_mul, svq, ey, natI]
    show vq x * Uq * Uq / (vq y * Uq) = _
    grind
  have m1 := Rat.mul_le_mul_of_nonneg_right h1 (show 0 ≤ Uq by grind)
  have m2 := Rat.mul_le_mul_of_nonneg_right h2 (show 0 ≤ Uq by grind)
  have h := RnS_near (fdiv_RnS hx hy hy0) hr (b := b * Uq) (by rw [e]; grind) (by rw [e]; grind)
  rw [e, svq] at h
  unfold Er hq
  constructor
  · refine Rat.le_of_mul_le_mul_right (c := Uq) ?_ hU; grind
  · refine Rat.le_of_mul_le_mul_right (c := Uq) ?_ hU; grind

theorem vq_le {x y : Nat} (h : sv x ≤ sv y) : vq x ≤ vq y := by
  have hU := Uq_pos
  have h2 := Rat.intCast_le_intCast.2 h
  refine Rat.le_of_mul_le_mul_right (c := Uq) ?_ hU
  rw [← svq, ← svq]; exact h2
theorem In.q {x a b : Nat} (h : In x a b) : vq a ≤ vq x ∧ vq x ≤ vq b := ⟨vq_le h.2.1, vq_le h.2.2⟩

end Go.Proofs.YtgbdplmpojkklaaDoor

namespace Go.Proofs.YtgbdplmpojkklaaDoor
open Ieee

theorem In.ofPos2 {y c d : Nat} (h1 : c ≤ y) (h2 : y ≤ d) (hd : d < INF) : In y c d := by
  have hI := INF_lt_SGN
  have e : ∀ z, z < INF → sv z = V z := fun z hz => sv_word false z (by omega)
  refine ⟨⟨false, y, by omega, (word_false _).symm⟩, ?_, ?_⟩
  · rw [e c (by omega), e y (by omega)]; have := V_le h1; omega
  · rw [e d hd, e y (by omega)]; have := V_le h2; omega

-- GREAT NUMBERS
theorem or_hi (c m : Nat) (hm : m < 4503599627370496) : c * 4503599627370496 ||| m = c * 4503599627370496 + m := by
  have e : (4503599627370496 : Nat) = 2 ^ 52 := by decide
  rw [e, Nat.mul_comm, ← Nat.two_pow_add_eq_or_of_lt (by omega)]
theorem trW_bounds (x : Nat) : 4314448443020935168 ≤ trW x ∧ trW x < 4607182418800017408 := by
  have hlz := lzF_le (trH x)
  have hL : trL x = lzF (trH x) + 1 := by unfold trL uadd; omega
  have hL1 : 1 ≤ trL x ∧ trL x ≤ 65 := by omega
  have hF : trF x < 4503599627370496 := by
    unfold trF ushr
    rw [show min 12 64 = 12 by decide]
    have : uor (ushl (trH x) (trL x)) (trLo x / 2 ^ min (usub 64 (trL x)) 64) < 18446744073709551616 := by
      refine Nat.or_lt_two_pow (n := 64) (Nat.mod_lt _ (by decide)) (Nat.lt_of_le_of_lt (Nat.div_le_self _ _) (Nat.mod_lt _ (by decide)))
    omega
  have hS : usub 1023 (trL x) = 1023 - trL x := by unfold usub; omega
  have hE : ushl (usub 1023 (trL x)) 52 = (1023 - trL x) * 4503599627370496 := by
    unfold ushl
    rw [hS, show min 52 64 = 52 by decide, show (2 : Nat) ^ 52 = 4503599627370496 by decide]
    omega
  have hW : trW x = (1023 - trL x) * 4503599627370496 + trF x := by
    unfold trW
    rw [hE]
    show trF x ||| _ = _
    rw [Nat.or_comm, or_hi _ _ hF]
  rw [hW]; omega
theorem trZ_in (x : Nat) : In (trZ x) 13828622411414651273 4605250374559875465 := by
  obtain ⟨h1, h2⟩ := trW_bounds x
  have i0 : In (trW x) 4314448443020935168 4607182418800017407 := In.ofPos2 h1 (by omega) (by decide)
  unfold trZ
  split
  · have i1 : In (fsub (trW x) 4607182418800017408) 13830554455654793216 13591863675404156928 := In_sub i0 (In.const (Fw.of (by decide +kernel))) (Fw.of (by decide +kernel)) (Fw.of (by decide +kernel)) (Fw.of (by decide +kernel)) (Fw.of (by decide +kernel)) (by decide +kernel) (by decide +kernel) (Fw.of (by decide +kernel)) (Fw.of (by decide +kernel))
    have i2 : In (fmul (fsub (trW x) 4607182418800017408) 4605249457297304856) 13828622411414651273 4605250374559875465 := In_mul i1 (In.const (Fw.of (by decide +kernel))) (Fw.of (by decide +kernel)) (Fw.of (by decide +kernel)) (Fw.of (by decide +kernel)) (Fw.of (by decide +kernel)) (Fw.of (by decide +kernel)) (Fw.of (by decide +kernel)) (by decide +kernel) (by decide +kernel) (by decide +kernel) (by decide +kernel) (by decide +kernel) (by decide +kernel) (by decide +kernel) (by decide +kernel)
    exact i2
  · have i2 : In (fmul (trW x) 4605249457297304856) 13828622411414651273 4605250374559875465 := In_mul i0 (In.const (Fw.of (by decide +kernel))) (Fw.of (by decide +kernel)) (Fw.of (by decide +kernel)) (Fw.of (by decide +kernel)) (Fw.of (by decide +kernel)) (Fw.of (by decide +kernel)) (Fw.of (by decide +kernel)) (by decide +kernel) (by decide +kernel) (by decide +kernel) (by decide +kernel) (by decide +kernel) (by decide +kernel) (by decide +kernel) (by decide +kernel)
    exact i2

-- SMALL NUMBERS
theorem fi_up {j : Nat} (h : j < 2147483648) : fadd (fi j) one = fi (j + 1) := by
  obtain ⟨v1, f1⟩ := fi_V (m := j) (by omega)
  obtain ⟨v2, f2⟩ := fi_V (m := j + 1) (by omega)
  rw [one_eq]
  refine (fadd_Rn f1 ONE_lt).unique (Rn.exact _ (Nat.le_of_lt f2)) ?_
  rw [v1, v2, V_ONE, Nat.mul_one, Nat.mul_one, Nat.add_mul, Nat.one_mul]
/-- The even whole number that is taken off. -/
def smN (r : Nat) : Nat := if uand (smJ r) 1 = 1 then smJ r + 1 else smJ r
theorem smY_eq {r : Nat} (h : r < TH29) : smY r = fi (smN r) := by
  have hj := (small_mul h).2
  unfold smY smN
  split
  · exact fi_up (by show truncF (fmul r M4PI) < _; omega)
  · rfl
theorem vq_fi {n : Nat} (h : n ≤ 2147483648) : vq (fi n) = (n : Rat) ∧ fi n < INF := by
  obtain ⟨v1, f1⟩ := fi_V h
  have hU := Uq_pos
  refine ⟨?_, f1⟩
  rw [vq_nat f1, v1, Rat.natCast_mul]
  show (n : Rat) * Uq / Uq = n
  grind
theorem hq_small : 0 < hq ∧ hq ≤ 1 / 100000000000000000000 := by
  constructor <;> decide +kernel

theorem In.qb {x a b : Nat} (h : In x a b) {l u : Rat} (ha : l ≤ vq a) (hb : vq b ≤ u) : l ≤ vq x ∧ vq x ≤ u := ⟨Rat.le_trans ha h.q.1, Rat.le_trans h.q.2 hb⟩
theorem ax1 {y c : Rat} (h : 0 ≤ y ∧ y ≤ 1073741824) (h0 : 0 ≤ c) (h1 : 1073741824 * c ≤ 1000000000) : -1000000000 ≤ y * c ∧ y * c ≤ 1000000000 := by
  have m1 := Rat.mul_nonneg h.1 h0
  have m2 := Rat.mul_le_mul_of_nonneg_right h.2 h0
  constructor <;> grind
theorem ax2 {x y a b c d : Rat} (hx : a ≤ x ∧ x ≤ b) (hy : c ≤ y ∧ y ≤ d) (h1 : -2000000000 ≤ a - d) (h2 : b - c ≤ 2000000000) : -2000000000 ≤ x - y ∧ x - y ≤ 2000000000 := by
  constructor <;> grind
theorem ax3 {y c : Rat} (h : 0 ≤ y ∧ y ≤ 536870912) (h0 : 0 ≤ c) (h1 : 536870912 * c ≤ 1000000000) : -1000000000 ≤ y * c ∧ y * c ≤ 1000000000 := by
  have m1 := Rat.mul_nonneg h.1 h0
  have m2 := Rat.mul_le_mul_of_nonneg_right h.2 h0
  constructor <;> grind
theorem err_aux : 2000000000 * uq + hq ≤ 1 / 4000000 := by decide +kernel
theorem chain_lin {R w1 a1 a2 w2 a3 w3 p q s d : Rat} (h1 : p - d ≤ a1 ∧ a1 ≤ p + d) (h2 : R - a1 - d ≤ w1 ∧ w1 ≤ R - a1 + d) (h3 : q - d ≤ a2 ∧ a2 ≤ q + d) (h4 : w1 - a2 - d ≤ w2 ∧ w2 ≤ w1 - a2 + d) (h5 : s - d ≤ a3 ∧ a3 ≤ s + d) (h6 : w2 - a3 - d ≤ w3 ∧ w3 ≤ w2 - a3 + d) :
    R - (p + q + s) - 6 * d ≤ w3 ∧ w3 ≤ R - (p + q + s) + 6 * d := by
  constructor <;> grind
theorem Er.weak {x : Nat} {p e e' : Rat} (h : Er x p e) (he : e ≤ e') : Er x p e' := by
  unfold Er at *; constructor <;> grind
theorem chain_aux {r y v1 v2 v3 v4 v5 v6 : Nat} (n0 : Er v1 (vq y * (6588397 / 8388608 : Rat)) (1000000000 * uq + hq)) (n1 : Er v2 (vq r - vq v1) (2000000000 * uq + hq)) (n2 : Er v3 (vq y * (1328173 / 35184372088832 : Rat)) (1000000000 * uq + hq)) (n3 : Er v4 (vq v2 - vq v3) (2000000000 * uq + hq)) (n4 : Er v5 (vq y * (427063790847255 / 158456325028528675187087900672 : Rat)) (1000000000 * uq + hq)) (n5 : Er v6 (vq v4 - vq v5) (2000000000 * uq + hq)) :
    Er v6 (vq r - vq y * (124451306656115542615260972311 / 158456325028528675187087900672 : Rat)) (3 / 2000000) := by
  have k0 := n0.weak (e' := 1 / 4000000) (by decide +kernel)
  have k1 := n1.weak (e' := 1 / 4000000) (by decide +kernel)
  have k2 := n2.weak (e' := 1 / 4000000) (by decide +kernel)
  have k3 := n3.weak (e' := 1 / 4000000) (by decide +kernel)
  have k4 := n4.weak (e' := 1 / 4000000) (by decide +kernel)
  have k5 := n5.weak (e' := 1 / 4000000) (by decide +kernel)
  have h := chain_lin k0 k1 k2 k3 k4 k5
  clear n0 n1 n2 n3 n4 n5 k0 k1 k2 k3 k4 k5
  generalize vq y = Y at *
  unfold Er
  have e : Y * (6588397 / 8388608 : Rat) + Y * (1328173 / 35184372088832 : Rat) + Y * (427063790847255 / 158456325028528675187087900672 : Rat) = Y * (124451306656115542615260972311 / 158456325028528675187087900672 : Rat) := by grind
  rw [e] at h
  have e2 : (6 : Rat) * (1 / 4000000) = 3 / 2000000 := by decide +kernel
  rw [e2] at h
  exact h

set_option maxRecDepth 10000 in
theorem small_chain {r y : Nat} (hr : In r 0 4737786807993761792) (hy : In y 0 4742290407621132288) :
    Er (fsub (fsub (fsub r (fmul y 4605249456957292544)) (fmul y 4495793288086814720)) (fmul y 4388835458085048688)) (vq r - vq y * (124451306656115542615260972311 / 158456325028528675187087900672 : Rat)) (3 / 2000000) ∧ Fw (fsub (fsub (fsub r (fmul y 4605249456957292544)) (fmul y 4495793288086814720)) (fmul y 4388835458085048688)) := by
  obtain ⟨v1, e1⟩ : ∃ v, v = fmul y 4605249456957292544 := ⟨_, rfl⟩
  have i1 : In v1 0 4740357445778407424 := by rw [e1]; exact In_mul hy (In.const (Fw.of (by decide +kernel))) (Fw.of (by decide +kernel)) (Fw.of (by decide +kernel)) (Fw.of (by decide +kernel)) (Fw.of (by decide +kernel)) (Fw.of (by decide +kernel)) (Fw.of (by decide +kernel)) (by decide +kernel) (by decide +kernel) (by decide +kernel) (by decide +kernel) (by decide +kernel) (by decide +kernel) (by decide +kernel) (by decide +kernel)
  obtain ⟨v2, e2⟩ : ∃ v, v = fsub r v1 := ⟨_, rfl⟩
  have i2 : In v2 13963729482633183232 4737786807993761792 := by rw [e2]; exact In_sub hr i1 (Fw.of (by decide +kernel)) (Fw.of (by decide +kernel)) (Fw.of (by decide +kernel)) (Fw.of (by decide +kernel)) (by decide +kernel) (by decide +kernel) (Fw.of (by decide +kernel)) (Fw.of (by decide +kernel))
  obtain ⟨v3, e3⟩ : ∃ v, v = fmul y 4495793288086814720 := ⟨_, rfl⟩
  have i3 : In v3 0 4630901276907929600 := by rw [e3]; exact In_mul hy (In.const (Fw.of (by decide +kernel))) (Fw.of (by decide +kernel)) (Fw.of (by decide +kernel)) (Fw.of (by decide +kernel)) (Fw.of (by decide +kernel)) (Fw.of (by decide +kernel)) (Fw.of (by decide +kernel)) (by decide +kernel) (by decide +kernel) (by decide +kernel) (by decide +kernel) (by decide +kernel) (by decide +kernel) (by decide +kernel) (by decide +kernel)
  obtain ⟨v4, e4⟩ : ∃ v, v = fsub v2 v3 := ⟨_, rfl⟩
  have i4 : In v4 13963729482973195520 4737786807993761792 := by rw [e4]; exact In_sub i2 i3 (Fw.of (by decide +kernel)) (Fw.of (by decide +kernel)) (Fw.of (by decide +kernel)) (Fw.of (by decide +kernel)) (by decide +kernel) (by decide +kernel) (Fw.of (by decide +kernel)) (Fw.of (by decide +kernel))
  obtain ⟨v5, e5⟩ : ∃ v, v = fmul y 4388835458085048688 := ⟨_, rfl⟩
  have i5 : In v5 0 4523943446906163568 := by rw [e5]; exact In_mul hy (In.const (Fw.of (by decide +kernel))) (Fw.of (by decide +kernel)) (Fw.of (by decide +kernel)) (Fw.of (by decide +kernel)) (Fw.of (by decide +kernel)) (Fw.of (by decide +kernel)) (Fw.of (by decide +kernel)) (by decide +kernel) (by decide +kernel) (by decide +kernel) (by decide +kernel) (by decide +kernel) (by decide +kernel) (by decide +kernel) (by decide +kernel)
  obtain ⟨v6, e6⟩ : ∃ v, v = fsub v4 v5 := ⟨_, rfl⟩
  have i6 : In v6 13963729482973195544 4737786807993761792 := by rw [e6]; exact In_sub i4 i5 (Fw.of (by decide +kernel)) (Fw.of (by decide +kernel)) (Fw.of (by decide +kernel)) (Fw.of (by decide +kernel)) (by decide +kernel) (by decide +kernel) (Fw.of (by decide +kernel)) (Fw.of (by decide +kernel))
  have cA : vq 4605249456957292544 = (6588397 / 8388608 : Rat) := by decide +kernel
  have cB : vq 4495793288086814720 = (1328173 / 35184372088832 : Rat) := by decide +kernel
  have cC : vq 4388835458085048688 = (427063790847255 / 158456325028528675187087900672 : Rat) := by decide +kernel
  have fA : Fw 4605249456957292544 := (Fw.of (by decide +kernel))
  have fB : Fw 4495793288086814720 := (Fw.of (by decide +kernel))
  have fC : Fw 4388835458085048688 := (Fw.of (by decide +kernel))
  have ry := hy.qb (l := 0) (u := 1073741824) (by decide +kernel) (by decide +kernel)
  have rr := hr.qb (l := 0) (u := 536870912) (by decide +kernel) (by decide +kernel)
  have k1 := i1.qb (l := 0) (u := 900000000) (by decide +kernel) (by decide +kernel)
  have k2 := i2.qb (l := -900000000) (u := 900000000) (by decide +kernel) (by decide +kernel)
  have k3 := i3.qb (l := 0) (u := 100) (by decide +kernel) (by decide +kernel)
  have k4 := i4.qb (l := -900000000) (u := 900000000) (by decide +kernel) (by decide +kernel)
  have k5 := i5.qb (l := 0) (u := 1) (by decide +kernel) (by decide +kernel)
  have n0 := q_mul hy.1 fA (by rw [← e1]; exact i1.1) (b := 1000000000) (by rw [cA]; exact (ax1 ry (by decide +kernel) (by decide +kernel)).1) (by rw [cA]; exact (ax1 ry (by decide +kernel) (by decide +kernel)).2)
  have n2 := q_mul hy.1 fB (by rw [← e3]; exact i3.1) (b := 1000000000) (by rw [cB]; exact (ax1 ry (by decide +kernel) (by decide +kernel)).1) (by rw [cB]; exact (ax1 ry (by decide +kernel) (by decide +kernel)).2)
  have n4 := q_mul hy.1 fC (by rw [← e5]; exact i5.1) (b := 1000000000) (by rw [cC]; exact (ax1 ry (by decide +kernel) (by decide +kernel)).1) (by rw [cC]; exact (ax1 ry (by decide +kernel) (by decide +kernel)).2)
  have n1 := q_sub hr.1 i1.1 (by rw [← e2]; exact i2.1) (b := 2000000000) (ax2 rr k1 (by decide +kernel) (by decide +kernel)).1 (ax2 rr k1 (by decide +kernel) (by decide +kernel)).2
  have n3 := q_sub i2.1 i3.1 (by rw [← e4]; exact i4.1) (b := 2000000000) (ax2 k2 k3 (by decide +kernel) (by decide +kernel)).1 (ax2 k2 k3 (by decide +kernel) (by decide +kernel)).2
  have n5 := q_sub i4.1 i5.1 (by rw [← e6]; exact i6.1) (b := 2000000000) (ax2 k4 k5 (by decide +kernel) (by decide +kernel)).1 (ax2 k4 k5 (by decide +kernel) (by decide +kernel)).2
  rw [← e1, cA] at n0
  rw [← e3, cB] at n2
  rw [← e5, cC] at n4
  rw [← e2] at n1
  rw [← e4] at n3
  rw [← e6] at n5
  have e : fsub (fsub (fsub r (fmul y 4605249456957292544)) (fmul y 4495793288086814720)) (fmul y 4388835458085048688) = v6 := by subst_vars; rfl
  rw [e]
  exact ⟨chain_aux n0 n1 n2 n3 n4 n5, i6.1⟩

theorem vq_le_inv {x y : Nat} (h : vq x ≤ vq y) : sv x ≤ sv y := by
  have hU := Uq_pos
  have := Rat.mul_le_mul_of_nonneg_right h (show 0 ≤ Uq by grind)
  rw [← svq, ← svq] at this
  exact Rat.intCast_le_intCast.1 this
theorem In.ofQ {x a b : Nat} (hx : Fw x) {l u : Rat} (h : l ≤ vq x ∧ vq x ≤ u) (ha : vq a ≤ l) (hb : u ≤ vq b) : In x a b := ⟨hx, vq_le_inv (Rat.le_trans ha h.1), vq_le_inv (Rat.le_trans h.2 hb)⟩
theorem trunc_q {m : Nat} (h : m < INF) : (truncF m : Rat) ≤ vq m ∧ vq m < (truncF m : Rat) + 1 := by
  have hU := Uq_pos
  have h1 : truncF m * U ≤ V m := Nat.div_mul_le_self _ _
  have h2 : V m < (truncF m + 1) * U := by
    have := Nat.lt_div_mul_add (a := V m) U_pos
    rw [Nat.add_mul, Nat.one_mul]; exact this
  have q1 := Rat.natCast_le_natCast.2 h1
  have q2 := Rat.natCast_lt_natCast.2 h2
  simp only [Rat.natCast_mul, Rat.natCast_add] at q1 q2
  have e : (V m : Rat) = vq m * Uq := by rw [vq_nat h]; grind
  rw [e] at q1 q2
  have c1 : ((1 : Nat) : Rat) = 1 := rfl
  rw [c1] at q2
  constructor
  · exact Rat.le_of_mul_le_mul_right q1 hU
  · rcases Rat.le_total (a := vq m) (b := (truncF m : Rat) + 1) with hh | hh
    · by_cases he : vq m = (truncF m : Rat) + 1
      · rw [he] at q2
        change _ < ((truncF m : Rat) + 1) * Uq at q2
        grind
      · grind
    · have := Rat.mul_le_mul_of_nonneg_right hh (show 0 ≤ Uq by grind)
      change vq m * Uq < ((truncF m : Rat) + 1) * Uq at q2
      grind

theorem red_lin {R T n v c D e : Rat} (hR : R = T * c) (hT : v - e ≤ T ∧ T ≤ v + e) (hv : -1 ≤ v - n ∧ v - n ≤ 1) (hn : 0 ≤ n ∧ n ≤ 1073741824) (c0 : 0 ≤ c) (hcD : -(1 / 2000000000000000) ≤ c - D ∧ c - D ≤ 1 / 2000000000000000) :
    -((1 + e) * c + 1073741824 * (1 / 2000000000000000)) ≤ R - n * D ∧ R - n * D ≤ (1 + e) * c + 1073741824 * (1 / 2000000000000000) := by
  have a1 : -(1 + e) ≤ T - n := by grind
  have a2 : T - n ≤ 1 + e := by grind
  have m1 := Rat.mul_le_mul_of_nonneg_right a1 c0
  have m2 := Rat.mul_le_mul_of_nonneg_right a2 c0
  have m3 := Rat.mul_le_mul_of_nonneg_right hcD.1 hn.1
  have m4 := Rat.mul_le_mul_of_nonneg_right hcD.2 hn.1
  have e1 : R - n * D = (T - n) * c + (c - D) * n := by rw [hR]; grind
  have e2 : (1 / 2000000000000000 : Rat) * n ≤ 1073741824 * (1 / 2000000000000000) := by grind
  rw [e1]
  constructor <;> grind

set_option maxRecDepth 10000 in
theorem small_bound {r : Nat} (h : r < TH29) : smN r ≤ 1073741824 ∧ -(78541 / 100000) ≤ vq r - (smN r : Rat) * (124451306656115542615260972311 / 158456325028528675187087900672 : Rat) ∧ vq r - (smN r : Rat) * (124451306656115542615260972311 / 158456325028528675187087900672 : Rat) ≤ 78541 / 100000 := by
  have hTI : TH29 < INF := by decide
  have hr : r < INF := by omega
  have hrI : In r 0 4737786807993761792 := In.ofPos2 (Nat.zero_le _) (Nat.le_of_lt h) (by decide)
  obtain ⟨hm, hj⟩ := small_mul h
  have hn : smN r ≤ 1073741824 := by
    have : smJ r < 1073741824 := hj
    unfold smN; split <;> omega
  have hnq : (0 : Rat) ≤ (smN r : Rat) ∧ (smN r : Rat) ≤ 1073741824 := ⟨Rat.natCast_nonneg, Rat.natCast_le_natCast.2 hn⟩
  -- the multiple
  have rr := hrI.qb (l := 0) (u := 536870912) (by decide +kernel) (by decide +kernel)
  have cM : vq M4PI = (5734161139222659 / 4503599627370496 : Rat) := by decide +kernel
  have nm := (q_mul hrI.1 (show Fw M4PI from (Fw.of (by decide +kernel))) ⟨false, _, hm, (word_false _).symm⟩ (b := 1000000000) (by rw [cM]; exact (ax3 rr (by decide +kernel) (by decide +kernel)).1) (by rw [cM]; exact (ax3 rr (by decide +kernel) (by decide +kernel)).2)).weak (e' := 1 / 4000000) (by decide +kernel)
  rw [cM] at nm
  have tq := trunc_q hm
  have hv : -1 ≤ vq (fmul r M4PI) - (smN r : Rat) ∧ vq (fmul r M4PI) - (smN r : Rat) ≤ 1 := by
    have e0 : ((truncF (fmul r M4PI) : Nat) : Rat) = (smJ r : Rat) := rfl
    rw [e0] at tq
    unfold smN
    split
    · rw [Rat.natCast_add, show ((1 : Nat) : Rat) = 1 from rfl]
      generalize vq (fmul r M4PI) = v at *
      generalize (smJ r : Rat) = k at *
      constructor <;> grind
    · generalize vq (fmul r M4PI) = v at *
      generalize (smJ r : Rat) = k at *
      constructor <;> grind
  have k := red_lin (R := vq r) (T := vq r * (5734161139222659 / 4503599627370496 : Rat)) (n := (smN r : Rat)) (v := vq (fmul r M4PI)) (c := (4503599627370496 / 5734161139222659 : Rat)) (D := (124451306656115542615260972311 / 158456325028528675187087900672 : Rat)) (e := 1 / 4000000)
    (by rw [Rat.mul_assoc, show ((5734161139222659 / 4503599627370496 : Rat) * (4503599627370496 / 5734161139222659 : Rat) : Rat) = 1 by decide +kernel, Rat.mul_one])
    (by unfold Er at nm; generalize vq (fmul r M4PI) = v at *; generalize vq r * (5734161139222659 / 4503599627370496 : Rat) = t at *; constructor <;> grind)
    hv hnq (by decide +kernel) ⟨(by decide +kernel), (by decide +kernel)⟩
  have k1 : -(78541 / 100000) ≤ vq r - (smN r : Rat) * (124451306656115542615260972311 / 158456325028528675187087900672 : Rat) := Rat.le_trans (by decide +kernel) k.1
  have k2 : vq r - (smN r : Rat) * (124451306656115542615260972311 / 158456325028528675187087900672 : Rat) ≤ 78541 / 100000 := Rat.le_trans k.2 (by decide +kernel)
  exact ⟨hn, k1, k2⟩
theorem smZ_in {r : Nat} (h : r < TH29) : In (smZ r) 13828622411414651273 4605250374559875465 := by
  obtain ⟨hn, k1, k2⟩ := small_bound h
  have hTI : TH29 < INF := by decide
  have hr : r < INF := by omega
  have hrI : In r 0 4737786807993761792 := In.ofPos2 (Nat.zero_le _) (Nat.le_of_lt h) (by decide)
  obtain ⟨vy, fy⟩ := vq_fi (n := smN r) (by omega)
  have hnq : (0 : Rat) ≤ (smN r : Rat) ∧ (smN r : Rat) ≤ 1073741824 := ⟨Rat.natCast_nonneg, Rat.natCast_le_natCast.2 hn⟩
  have hyI : In (fi (smN r)) 0 4742290407621132288 := by
    refine In.ofQ ⟨false, _, fy, (word_false _).symm⟩ (l := 0) (u := 1073741824) ?_ (by decide +kernel) (by decide +kernel)
    rw [vy]; exact hnq
  obtain ⟨hz, fz⟩ := small_chain hrI hyI
  have eZ : smZ r = fsub (fsub (fsub r (fmul (fi (smN r)) 4605249456957292544)) (fmul (fi (smN r)) 4495793288086814720)) (fmul (fi (smN r)) 4388835458085048688) := by unfold smZ; rw [smY_eq h]
  rw [← eZ] at hz fz
  rw [vy] at hz
  refine In.ofQ fz (l := -(78542 / 100000)) (u := 78542 / 100000) ?_ (by decide +kernel) (by decide +kernel)
  unfold Er at hz
  generalize vq r - (smN r : Rat) * (124451306656115542615260972311 / 158456325028528675187087900672 : Rat) = t at *
  generalize vq (smZ r) = z at *
  clear hnq
  constructor <;> grind

/-- The reduced number. -/
theorem redZ_in {r : Nat} (h : r < INF) : In (redZ r) 13828622411414651273 4605250374559875465 := by
  unfold redZ
  rw [fge_TH (Nat.le_of_lt h)]
  split
  · exact trZ_in r
  · next hh =>
    simp only [decide_eq_true_eq] at hh
    exact smZ_in (by omega)

end Go.Proofs.YtgbdplmpojkklaaDoor

namespace Go.Proofs.YtgbdplmpojkklaaDoor
open Ieee

theorem cosP_in {z : Nat} (hz : In z 13828622411414651273 4605250374559875465) : In (cosP z) 4604390187031047700 4607272490792564818 := by
  obtain ⟨v1, e1⟩ : ∃ v, v = fmul z z := ⟨_, rfl⟩
  have i1 : In v1 0 4603732753809243969 := by rw [e1]; exact In_sq hz (Fw.of (by decide +kernel)) (Fw.of (by decide +kernel)) (Fw.of (by decide +kernel)) (by decide +kernel) (by decide +kernel)
  obtain ⟨v2, e2⟩ : ∃ v, v = cosS v1 := ⟨_, rfl⟩
  have i2 : In v2 4585925428558828667 4586213658934980379 := by rw [e2]; exact cosS_in (i1.mono (by decide +kernel) (by decide +kernel))
  obtain ⟨v3, e3⟩ : ∃ v, v = fmul 4602678819172646912 v1 := ⟨_, rfl⟩
  have i3 : In v3 0 4599229154181873473 := by rw [e3]; exact In_mul (In.const (Fw.of (by decide +kernel))) i1 (Fw.of (by decide +kernel)) (Fw.of (by decide +kernel)) (Fw.of (by decide +kernel)) (Fw.of (by decide +kernel)) (Fw.of (by decide +kernel)) (Fw.of (by decide +kernel)) (by decide +kernel) (by decide +kernel) (by decide +kernel) (by decide +kernel) (by decide +kernel) (by decide +kernel) (by decide +kernel) (by decide +kernel)
  obtain ⟨v4, e4⟩ : ∃ v, v = fsub 4607182418800017408 v3 := ⟨_, rfl⟩
  have i4 : In v4 4604403651668033632 4607182418800017408 := by rw [e4]; exact In_sub (In.const (Fw.of (by decide +kernel))) i3 (Fw.of (by decide +kernel)) (Fw.of (by decide +kernel)) (Fw.of (by decide +kernel)) (Fw.of (by decide +kernel)) (by decide +kernel) (by decide +kernel) (Fw.of (by decide +kernel)) (Fw.of (by decide +kernel))
  obtain ⟨v5, e5⟩ : ∃ v, v = fmul v1 v1 := ⟨_, rfl⟩
  have i5 : In v5 0 4600529731129094292 := by rw [e5]; exact In_sq i1 (Fw.of (by decide +kernel)) (Fw.of (by decide +kernel)) (Fw.of (by decide +kernel)) (by decide +kernel) (by decide +kernel)
  obtain ⟨v6, e6⟩ : ∃ v, v = fmul v5 v2 := ⟨_, rfl⟩
  have i6 : In v6 0 4580265872142342522 := by rw [e6]; exact In_mul i5 i2 (Fw.of (by decide +kernel)) (Fw.of (by decide +kernel)) (Fw.of (by decide +kernel)) (Fw.of (by decide +kernel)) (Fw.of (by decide +kernel)) (Fw.of (by decide +kernel)) (by decide +kernel) (by decide +kernel) (by decide +kernel) (by decide +kernel) (by decide +kernel) (by decide +kernel) (by decide +kernel) (by decide +kernel)
  obtain ⟨v7, e7⟩ : ∃ v, v = fadd v4 v6 := ⟨_, rfl⟩
  have i7 : In v7 4604403651668033632 4607254428967734886 := by rw [e7]; exact In_add i4 i6 (Fw.of (by decide +kernel)) (Fw.of (by decide +kernel)) (Fw.of (by decide +kernel)) (Fw.of (by decide +kernel)) (by decide +kernel) (by decide +kernel) (Fw.of (by decide +kernel)) (Fw.of (by decide +kernel))
  have e : cosP z = v7 := by subst_vars; rfl
  rw [e]; exact i7.mono (by decide +kernel) (by decide +kernel)
theorem sinP_in {z : Nat} (hz : In z 13828622411414651273 4605250374559875465) : In (sinP z) 13829383519751676887 4606011482896901079 := by
  obtain ⟨v1, e1⟩ : ∃ v, v = fmul z z := ⟨_, rfl⟩
  have i1 : In v1 0 4603732753809243969 := by rw [e1]; exact In_sq hz (Fw.of (by decide +kernel)) (Fw.of (by decide +kernel)) (Fw.of (by decide +kernel)) (by decide +kernel) (by decide +kernel)
  obtain ⟨v2, e2⟩ : ∃ v, v = sinS v1 := ⟨_, rfl⟩
  have i2 : In v2 13818664952638535107 13815242216921733530 := by rw [e2]; exact sinS_in (i1.mono (by decide +kernel) (by decide +kernel))
  obtain ⟨v3, e3⟩ : ∃ v, v = fmul z v1 := ⟨_, rfl⟩
  have i3 : In v3 13825774543101374753 4602402506246598945 := by rw [e3]; exact In_mul hz i1 (Fw.of (by decide +kernel)) (Fw.of (by decide +kernel)) (Fw.of (by decide +kernel)) (Fw.of (by decide +kernel)) (Fw.of (by decide +kernel)) (Fw.of (by decide +kernel)) (by decide +kernel) (by decide +kernel) (by decide +kernel) (by decide +kernel) (by decide +kernel) (by decide +kernel) (by decide +kernel) (by decide +kernel)
  obtain ⟨v4, e4⟩ : ∃ v, v = fmul v3 v2 := ⟨_, rfl⟩
  have i4 : In v4 13813973460221451993 4590601423366676185 := by rw [e4]; exact In_mul i3 i2 (Fw.of (by decide +kernel)) (Fw.of (by decide +kernel)) (Fw.of (by decide +kernel)) (Fw.of (by decide +kernel)) (Fw.of (by decide +kernel)) (Fw.of (by decide +kernel)) (by decide +kernel) (by decide +kernel) (by decide +kernel) (by decide +kernel) (by decide +kernel) (by decide +kernel) (by decide +kernel) (by decide +kernel)
  obtain ⟨v5, e5⟩ : ∃ v, v = fadd z v4 := ⟨_, rfl⟩
  have i5 : In v5 13829364536752590180 4605992499897814372 := by rw [e5]; exact In_add hz i4 (Fw.of (by decide +kernel)) (Fw.of (by decide +kernel)) (Fw.of (by decide +kernel)) (Fw.of (by decide +kernel)) (by decide +kernel) (by decide +kernel) (Fw.of (by decide +kernel)) (Fw.of (by decide +kernel))
  have e : sinP z = v5 := by subst_vars; rfl
  rw [e]; exact i5.mono (by decide +kernel) (by decide +kernel)

theorem fne_of {y : Nat} (h : In y 4604390187031047700 4607272490792564818) : fne y 0 = true ∧ fne (fneg y) 0 = true := by
  obtain ⟨h1, h2⟩ := h.pos (by decide) (by decide) (by decide)
  have hI : y ≤ INF := Nat.le_trans h2 (by decide)
  have h0 : y ≠ 0 := by
    intro e; rw [e] at h1; exact absurd h1 (by decide)
  have a := feq_zero false y hI
  have b := feq_zero true y hI
  rw [word_false] at a
  have e : fneg y = double.word true y := fneg_word false y (INF_lt' hI)
  unfold fne feq at *
  constructor
  · rw [bne, a]; simp [h0]
  · rw [e, bne, b]; simp [h0]

theorem sc_nonzero (s : Bool) {r : Nat} (h : r < INF) : (fne (sinR s r) 0 || fne (cosR r) 0) = true := by
  obtain ⟨a, b⟩ := fne_of (cosP_in (redZ_in h))
  unfold sinR cosR
  by_cases hj : redJ r % 4 = 2
  · rw [if_pos hj]
    cases (s ^^ decide (3 < redJ r))
    · show (fne (cosP (redZ r)) 0 || _) = true
      rw [a]; rfl
    · show (fne (fneg (cosP (redZ r))) 0 || _) = true
      rw [b]; rfl
  · rw [if_neg hj, if_neg hj]
    cases (decide (3 < redJ r) ^^ decide (redJ r % 4 = 2))
    · show (_ || fne (cosP (redZ r)) 0) = true
      rw [a]; simp
    · show (_ || fne (fneg (cosP (redZ r))) 0) = true
      rw [b]; simp

theorem sincosBoth_plain (x : Nat) (h : x < 18446744073709551616) : sincosBothF x = true := by
  unfold sincosBothF
  rcases word_cases x h with hn | ⟨s, r, hr, rfl, hn⟩
  · rw [scS_nan h hn, scC_nan h hn, sinF_nan h hn, cosF_nan h hn]
    have a := sameF_nan (show cnan < 18446744073709551616 by decide) h nan_cnan hn
    have b : sameF cnan cnan = true := by decide +kernel
    have c : fne cnan 0 = true := by decide +kernel
    rw [a, b, c]; rfl
  · by_cases h1 : r = INF
    · subst h1; cases s <;> decide +kernel
    · have hf : r < INF := by omega
      by_cases h0 : r = 0
      · subst h0
        have e : cosR 0 = ONE := by
          obtain ⟨j, z, _⟩ := near_red (r := 0) (by decide)
          unfold cosR; rw [j, z]
          simp [negIf, near_cosP (r := 0) (by decide)]
        rw [cosF_word _ hf, e]
        cases s <;> decide +kernel
      · rw [scS_word _ hf h0, scC_word _ hf h0, sinF_word _ hf h0, cosF_word _ hf, sc_nonzero s hf, sameF_self _ (sinR_lt s r), sameF_self _ (cosR_lt r)]; rfl

end Go.Proofs.YtgbdplmpojkklaaDoor

namespace Go.Proofs.YtgbdplmpojkklaaDoor

/-- A polynomial's value, lowest coefficient first. -/
def pev : List Rat → Rat → Rat
  | [], _ => 0
  | c :: cs, x => c + x * pev cs x
def padd : List Rat → List Rat → List Rat
  | [], q => q
  | p, [] => p
  | a :: p, b :: q => (a + b) :: padd p q
def psc (k : Rat) : List Rat → List Rat
  | [] => []
  | c :: cs => k * c :: psc k cs
def pmul : List Rat → List Rat → List Rat
  | [], _ => []
  | a :: p, q => padd (psc a q) (0 :: pmul p q)
def psh (a : Rat) : List Rat → List Rat
  | [] => []
  | c :: cs => padd [c] (padd (psc a (psh a cs)) (0 :: psh a cs))
def rabs (c : Rat) : Rat := if c < 0 then -c else c
def pab (h : Rat) : List Rat → Rat
  | [] => 0
  | c :: cs => rabs c + h * pab h cs

theorem pev_add (p q : List Rat) (x : Rat) : pev (padd p q) x = pev p x + pev q x := by
  induction p generalizing q with
  | nil => simp [padd, pev]; grind
  | cons a p ih =>
    cases q with
    | nil => simp [padd, pev]; grind
    | cons b q => simp only [padd, pev, ih]; grind
theorem pev_sc (k : Rat) (p : List Rat) (x : Rat) : pev (psc k p) x = k * pev p x := by
  induction p with
  | nil => simp [psc, pev]
  | cons a p ih => simp only [psc, pev, ih]; grind
theorem pev_mul (p q : List Rat) (x : Rat) : pev (pmul p q) x = pev p x * pev q x := by
  induction p with
  | nil => simp [pmul, pev]
  | cons a p ih => simp only [pmul, pev_add, pev_sc, pev, ih]; grind
theorem pev_sh (a : Rat) (p : List Rat) (t : Rat) : pev (psh a p) t = pev p (a + t) := by
  induction p with
  | nil => simp [psh, pev]
  | cons c p ih => simp only [psh, pev_add, pev_sc, pev, ih]; grind

theorem rabs_le (c : Rat) : -rabs c ≤ c ∧ c ≤ rabs c ∧ 0 ≤ rabs c := by
  unfold rabs; split <;> grind
theorem prod_abs {x y A Y : Rat} (hx : -A ≤ x ∧ x ≤ A) (hy : -Y ≤ y ∧ y ≤ Y) : -(A * Y) ≤ x * y ∧ x * y ≤ A * Y := by
  have m1 := Rat.mul_nonneg (show 0 ≤ A - x by grind) (show 0 ≤ Y + y by grind)
  have m2 := Rat.mul_nonneg (show 0 ≤ A + x by grind) (show 0 ≤ Y - y by grind)
  have m3 := Rat.mul_nonneg (show 0 ≤ A - x by grind) (show 0 ≤ Y - y by grind)
  have m4 := Rat.mul_nonneg (show 0 ≤ A + x by grind) (show 0 ≤ Y + y by grind)
  constructor <;> grind
theorem pab_bound {h t : Rat} (ht : -h ≤ t ∧ t ≤ h) (p : List Rat) : -pab h p ≤ pev p t ∧ pev p t ≤ pab h p := by
  induction p with
  | nil => simp [pab, pev]
  | cons c p ih =>
    have h1 := rabs_le c
    have h2 := prod_abs ht ih
    simp only [pab, pev]
    constructor <;> grind

/-- On each of the first n pieces of width 2h the polynomial is at most e in size. -/
def pieces (p : List Rat) (h e : Rat) : Nat → Bool
  | 0 => true
  | n + 1 => decide (pab h (psh ((2 * (n : Rat) + 1) * h) p) ≤ e) && pieces p h e n
theorem pieces_bound {p : List Rat} {h e : Rat} (n : Nat) (hc : pieces p h e n = true) {x : Rat} (h0 : 0 ≤ x) (h1 : x ≤ 2 * (n : Rat) * h) (he : 0 < n) : -e ≤ pev p x ∧ pev p x ≤ e := by
  induction n with
  | zero => omega
  | succ n ih =>
    simp only [pieces, Bool.and_eq_true, decide_eq_true_eq] at hc
    rcases Rat.le_total (a := x) (b := 2 * (n : Rat) * h) with hx | hx
    · by_cases hn : 0 < n
      · exact ih hc.2 hx hn
      · have : n = 0 := by omega
        subst this
        have e0 : ((0 : Nat) : Rat) = 0 := rfl
        rw [e0] at hx hc
        have hx0 : x = 0 := by grind
        have hb := pab_bound (h := h) (t := x - (2 * 0 + 1) * h) ⟨by grind, by
          have e1 : ((0 + 1 : Nat) : Rat) = 1 := rfl
          rw [e1] at h1; grind⟩ (psh ((2 * 0 + 1) * h) p)
        rw [pev_sh] at hb
        have e2 : (2 * 0 + 1) * h + (x - (2 * 0 + 1) * h) = x := by grind
        rw [e2] at hb
        constructor <;> grind
    · have e1 : ((n + 1 : Nat) : Rat) = (n : Rat) + 1 := by rw [Rat.natCast_add]; rfl
      rw [e1] at h1
      have hb := pab_bound (h := h) (t := x - (2 * (n : Rat) + 1) * h) ⟨by grind, by grind⟩ (psh ((2 * (n : Rat) + 1) * h) p)
      rw [pev_sh] at hb
      have e2 : (2 * (n : Rat) + 1) * h + (x - (2 * (n : Rat) + 1) * h) = x := by grind
      rw [e2] at hb
      constructor <;> grind

end Go.Proofs.YtgbdplmpojkklaaDoor

namespace Go.Proofs.YtgbdplmpojkklaaDoor
open Ieee

/-- A word's number is at most A in size. -/
def Bd (x : Nat) (A : Rat) : Prop := -A ≤ vq x ∧ vq x ≤ A
theorem In.bd {x a b : Nat} (h : In x a b) {A : Rat} (ha : -A ≤ vq a) (hb : vq b ≤ A) : Bd x A := h.qb ha hb
theorem Er.const {x : Nat} {p : Rat} (h : vq x = p) : Er x p 0 := by unfold Er; rw [h]; constructor <;> grind
theorem Er.self (x : Nat) : Er x (vq x) 0 := Er.const rfl

theorem lin_add {x y p q e f v d : Rat} (hx : p - e ≤ x ∧ x ≤ p + e) (hy : q - f ≤ y ∧ y ≤ q + f) (hv : x + y - d ≤ v ∧ v ≤ x + y + d) : p + q - (e + f + d) ≤ v ∧ v ≤ p + q + (e + f + d) := by
  constructor <;> grind
theorem lin_sub {x y p q e f v d : Rat} (hx : p - e ≤ x ∧ x ≤ p + e) (hy : q - f ≤ y ∧ y ≤ q + f) (hv : x - y - d ≤ v ∧ v ≤ x - y + d) : p - q - (e + f + d) ≤ v ∧ v ≤ p - q + (e + f + d) := by
  constructor <;> grind
theorem lin_mul {x y p q e f v d A Y : Rat} (hx : p - e ≤ x ∧ x ≤ p + e) (hy : q - f ≤ y ∧ y ≤ q + f) (hA : -A ≤ x ∧ x ≤ A) (hY : -Y ≤ y ∧ y ≤ Y) (hv : x * y - d ≤ v ∧ v ≤ x * y + d) :
    p * q - (A * f + e * (Y + f) + d) ≤ v ∧ v ≤ p * q + (A * f + e * (Y + f) + d) := by
  have h1 := prod_abs hA (show -f ≤ y - q ∧ y - q ≤ f by constructor <;> grind)
  have h2 := prod_abs (show -e ≤ x - p ∧ x - p ≤ e by constructor <;> grind) (show -(Y + f) ≤ q ∧ q ≤ Y + f by constructor <;> grind)
  have e1 : x * y = p * q + (x * (y - q) + (x - p) * q) := by grind
  rw [e1] at hv
  constructor <;> grind

theorem q_addE {x y : Nat} {p q e f T e' : Rat} (fx : Fw x) (fy : Fw y) (fr : Fw (fadd x y)) (hx : Er x p e) (hy : Er y q f) (hT : -T ≤ vq x + vq y ∧ vq x + vq y ≤ T) (he : e + f + (T * uq + hq) ≤ e') : Er (fadd x y) (p + q) e' :=
  Er.weak (lin_add hx hy (q_add fx fy fr hT.1 hT.2)) he
theorem q_subE {x y : Nat} {p q e f T e' : Rat} (fx : Fw x) (fy : Fw y) (fr : Fw (fsub x y)) (hx : Er x p e) (hy : Er y q f) (hT : -T ≤ vq x - vq y ∧ vq x - vq y ≤ T) (he : e + f + (T * uq + hq) ≤ e') : Er (fsub x y) (p - q) e' :=
  Er.weak (lin_sub hx hy (q_sub fx fy fr hT.1 hT.2)) he
theorem q_mulE {x y : Nat} {p q e f A Y e' : Rat} (fx : Fw x) (fy : Fw y) (fr : Fw (fmul x y)) (hx : Er x p e) (hy : Er y q f) (hA : Bd x A) (hY : Bd y Y) (he : A * f + e * (Y + f) + (A * Y * uq + hq) ≤ e') : Er (fmul x y) (p * q) e' := by
  have hT := prod_abs hA hY
  exact Er.weak (lin_mul hx hy hA hY (q_mul fx fy fr hT.1 hT.2)) he
/-- The sum's size out of the intervals. -/
theorem sum_T {x y a b c d : Nat} (hx : In x a b) (hy : In y c d) {T : Rat} (h1 : -T ≤ vq a + vq c) (h2 : vq b + vq d ≤ T) : -T ≤ vq x + vq y ∧ vq x + vq y ≤ T := by
  have := hx.q; have := hy.q
  constructor <;> grind
theorem dif_T {x y a b c d : Nat} (hx : In x a b) (hy : In y c d) {T : Rat} (h1 : -T ≤ vq a - vq d) (h2 : vq b - vq c ≤ T) : -T ≤ vq x - vq y ∧ vq x - vq y ≤ T := by
  have := hx.q; have := hy.q
  constructor <;> grind

end Go.Proofs.YtgbdplmpojkklaaDoor

namespace Go.Proofs.YtgbdplmpojkklaaDoor
open Ieee

def pS (X : Rat) : Rat := (((((6149556183080141 / 38685626227668133590597632 : Rat) * X + (-7571123942793053 / 302231454903657293676544 : Rat)) * X + (6506786710177953 / 2361183241434822606848 : Rat)) * X + (-7320136532877059 / 36893488147419103232 : Rat)) * X + (300239975157629 / 36028797018963968 : Rat)) * X + (-750599937895081 / 4503599627370496 : Rat)
def pC (X : Rat) : Rat := (((((-7030593573755547 / 618970019642690137449562112 : Rat) * X + (5047434750082821 / 2417851639229258349412352 : Rat)) * X + (-2602714736764387 / 9444732965739290427392 : Rat)) * X + (7320136533427445 / 295147905179352825856 : Rat)) * X + (-6405119470030737 / 4611686018427387904 : Rat)) * X + (6004799503160651 / 144115188075855872 : Rat)

set_option maxRecDepth 10000 in
theorem sin_er {z w : Nat} (hz : In z 13828622411414651273 4605250374559875465) (hw : In w 0 4603733562205377082) : Er (fadd z (fmul (fmul z w) (sinS w))) (vq z + vq z * vq w * pS (vq w)) (38266923419 / 309485009821345068724781056 : Rat) ∧ Fw (fadd z (fmul (fmul z w) (sinS w))) := by
  obtain ⟨v1, d1⟩ : ∃ v, v = fmul 4460209587652500685 w := ⟨_, rfl⟩
  have i1 : In v1 0 4457146214083207558 := by rw [d1]; exact In_mul (In.const (Fw.of (by decide +kernel))) hw (Fw.of (by decide +kernel)) (Fw.of (by decide +kernel)) (Fw.of (by decide +kernel)) (Fw.of (by decide +kernel)) (Fw.of (by decide +kernel)) (Fw.of (by decide +kernel)) (by decide +kernel) (by decide +kernel) (by decide +kernel) (by decide +kernel) (by decide +kernel) (by decide +kernel) (by decide +kernel) (by decide +kernel)
  have r1 : Er v1 (((6149556183080141 / 38685626227668133590597632 : Rat)) * (vq w)) (7 / 618970019642690137449562112 : Rat) := by rw [d1]; exact q_mulE (In.const (Fw.of (by decide +kernel))).1 hw.1 (by rw [← d1]; exact i1.1) (Er.const (show vq 4460209587652500685 = (6149556183080141 / 38685626227668133590597632 : Rat) by decide +kernel)) (Er.self w) (A := (6149556183080141 / 38685626227668133590597632 : Rat)) (Y := (2779171330050333 / 4503599627370496 : Rat)) ((In.const (Fw.of (by decide +kernel))).bd (by decide +kernel) (by decide +kernel)) (hw.bd (by decide +kernel) (by decide +kernel)) (by decide +kernel)
  obtain ⟨v2, d2⟩ : ∃ v, v = fadd v1 13716528389658582877 := ⟨_, rfl⟩
  have i2 : In v2 13716528389658582877 13716498742071703355 := by rw [d2]; exact In_add i1 (In.const (Fw.of (by decide +kernel))) (Fw.of (by decide +kernel)) (Fw.of (by decide +kernel)) (Fw.of (by decide +kernel)) (Fw.of (by decide +kernel)) (by decide +kernel) (by decide +kernel) (Fw.of (by decide +kernel)) (Fw.of (by decide +kernel))
  have r2 : Er v2 (((6149556183080141 / 38685626227668133590597632 : Rat)) * (vq w) + (-7571123942793053 / 302231454903657293676544 : Rat)) (3457 / 1237940039285380274899124224 : Rat) := by rw [d2]; exact q_addE i1.1 (In.const (Fw.of (by decide +kernel))).1 (by rw [← d2]; exact i2.1) r1 (Er.const (show vq 13716528389658582877 = (-7571123942793053 / 302231454903657293676544 : Rat) by decide +kernel)) (T := (7571123942793053 / 302231454903657293676544 : Rat)) (sum_T i1 (In.const (Fw.of (by decide +kernel))) (by decide +kernel) (by decide +kernel)) (by decide +kernel)
  obtain ⟨v3, d3⟩ : ∃ v, v = fmul v2 w := ⟨_, rfl⟩
  have i3 : In v3 13713629406300887417 9223372036854775808 := by rw [d3]; exact In_mul i2 hw (Fw.of (by decide +kernel)) (Fw.of (by decide +kernel)) (Fw.of (by decide +kernel)) (Fw.of (by decide +kernel)) (Fw.of (by decide +kernel)) (Fw.of (by decide +kernel)) (by decide +kernel) (by decide +kernel) (by decide +kernel) (by decide +kernel) (by decide +kernel) (by decide +kernel) (by decide +kernel) (by decide +kernel)
  have r3 : Er v3 ((((6149556183080141 / 38685626227668133590597632 : Rat)) * (vq w) + (-7571123942793053 / 302231454903657293676544 : Rat)) * (vq w)) (2129 / 618970019642690137449562112 : Rat) := by rw [d3]; exact q_mulE i2.1 hw.1 (by rw [← d3]; exact i3.1) r2 (Er.self w) (A := (7571123942793053 / 302231454903657293676544 : Rat)) (Y := (2779171330050333 / 4503599627370496 : Rat)) (i2.bd (by decide +kernel) (by decide +kernel)) (hw.bd (by decide +kernel) (by decide +kernel)) (by decide +kernel)
  obtain ⟨v4, d4⟩ : ∃ v, v = fadd v3 4523617212962785441 := ⟨_, rfl⟩
  have i4 : In v4 4523580711864464366 4523617212962785441 := by rw [d4]; exact In_add i3 (In.const (Fw.of (by decide +kernel))) (Fw.of (by decide +kernel)) (Fw.of (by decide +kernel)) (Fw.of (by decide +kernel)) (Fw.of (by decide +kernel)) (by decide +kernel) (by decide +kernel) (Fw.of (by decide +kernel)) (Fw.of (by decide +kernel))
  have r4 : Er v4 ((((6149556183080141 / 38685626227668133590597632 : Rat)) * (vq w) + (-7571123942793053 / 302231454903657293676544 : Rat)) * (vq w) + (6506786710177953 / 2361183241434822606848 : Rat)) (383003 / 1237940039285380274899124224 : Rat) := by rw [d4]; exact q_addE i3.1 (In.const (Fw.of (by decide +kernel))).1 (by rw [← d4]; exact i4.1) r3 (Er.const (show vq 4523617212962785441 = (6506786710177953 / 2361183241434822606848 : Rat) by decide +kernel)) (T := (6506786710177953 / 2361183241434822606848 : Rat)) (sum_T i3 (In.const (Fw.of (by decide +kernel))) (by decide +kernel) (by decide +kernel)) (by decide +kernel)
  obtain ⟨v5, d5⟩ : ∃ v, v = fmul v4 w := ⟨_, rfl⟩
  have i5 : In v5 0 4520637502782938621 := by rw [d5]; exact In_mul i4 hw (Fw.of (by decide +kernel)) (Fw.of (by decide +kernel)) (Fw.of (by decide +kernel)) (Fw.of (by decide +kernel)) (Fw.of (by decide +kernel)) (Fw.of (by decide +kernel)) (by decide +kernel) (by decide +kernel) (by decide +kernel) (by decide +kernel) (by decide +kernel) (by decide +kernel) (by decide +kernel) (by decide +kernel)
  have r5 : Er v5 (((((6149556183080141 / 38685626227668133590597632 : Rat)) * (vq w) + (-7571123942793053 / 302231454903657293676544 : Rat)) * (vq w) + (6506786710177953 / 2361183241434822606848 : Rat)) * (vq w)) (470075 / 1237940039285380274899124224 : Rat) := by rw [d5]; exact q_mulE i4.1 hw.1 (by rw [← d5]; exact i5.1) r4 (Er.self w) (A := (6506786710177953 / 2361183241434822606848 : Rat)) (Y := (2779171330050333 / 4503599627370496 : Rat)) (i4.bd (by decide +kernel) (by decide +kernel)) (hw.bd (by decide +kernel) (by decide +kernel)) (by decide +kernel)
  obtain ⟨v6, d6⟩ : ∃ v, v = fadd v5 13774824197404483331 := ⟨_, rfl⟩
  have i6 : In v6 13774824197404483331 13774761457747001287 := by rw [d6]; exact In_add i5 (In.const (Fw.of (by decide +kernel))) (Fw.of (by decide +kernel)) (Fw.of (by decide +kernel)) (Fw.of (by decide +kernel)) (Fw.of (by decide +kernel)) (by decide +kernel) (by decide +kernel) (Fw.of (by decide +kernel)) (Fw.of (by decide +kernel))
  have r6 : Er v6 (((((6149556183080141 / 38685626227668133590597632 : Rat)) * (vq w) + (-7571123942793053 / 302231454903657293676544 : Rat)) * (vq w) + (6506786710177953 / 2361183241434822606848 : Rat)) * (vq w) + (-7320136532877059 / 36893488147419103232 : Rat)) (27739709 / 1237940039285380274899124224 : Rat) := by rw [d6]; exact q_addE i5.1 (In.const (Fw.of (by decide +kernel))).1 (by rw [← d6]; exact i6.1) r5 (Er.const (show vq 13774824197404483331 = (-7320136532877059 / 36893488147419103232 : Rat) by decide +kernel)) (T := (7320136532877059 / 36893488147419103232 : Rat)) (sum_T i5 (In.const (Fw.of (by decide +kernel))) (by decide +kernel) (by decide +kernel)) (by decide +kernel)
  obtain ⟨v7, d7⟩ : ∃ v, v = fmul v6 w := ⟨_, rfl⟩
  have i7 : In v7 13772021317126044705 9223372036854775808 := by rw [d7]; exact In_mul i6 hw (Fw.of (by decide +kernel)) (Fw.of (by decide +kernel)) (Fw.of (by decide +kernel)) (Fw.of (by decide +kernel)) (Fw.of (by decide +kernel)) (Fw.of (by decide +kernel)) (by decide +kernel) (by decide +kernel) (by decide +kernel) (by decide +kernel) (by decide +kernel) (by decide +kernel) (by decide +kernel) (by decide +kernel)
  have r7 : Er v7 ((((((6149556183080141 / 38685626227668133590597632 : Rat)) * (vq w) + (-7571123942793053 / 302231454903657293676544 : Rat)) * (vq w) + (6506786710177953 / 2361183241434822606848 : Rat)) * (vq w) + (-7320136532877059 / 36893488147419103232 : Rat)) * (vq w)) (16973133 / 618970019642690137449562112 : Rat) := by rw [d7]; exact q_mulE i6.1 hw.1 (by rw [← d7]; exact i7.1) r6 (Er.self w) (A := (7320136532877059 / 36893488147419103232 : Rat)) (Y := (2779171330050333 / 4503599627370496 : Rat)) (i6.bd (by decide +kernel) (by decide +kernel)) (hw.bd (by decide +kernel) (by decide +kernel)) (by decide +kernel)
  obtain ⟨v8, d8⟩ : ∃ v, v = fadd v7 4575957461383575504 := ⟨_, rfl⟩
  have i8 : In v8 4575886879254599903 4575957461383575504 := by rw [d8]; exact In_add i7 (In.const (Fw.of (by decide +kernel))) (Fw.of (by decide +kernel)) (Fw.of (by decide +kernel)) (Fw.of (by decide +kernel)) (Fw.of (by decide +kernel)) (by decide +kernel) (by decide +kernel) (Fw.of (by decide +kernel)) (Fw.of (by decide +kernel))
  have r8 : Er v8 ((((((6149556183080141 / 38685626227668133590597632 : Rat)) * (vq w) + (-7571123942793053 / 302231454903657293676544 : Rat)) * (vq w) + (6506786710177953 / 2361183241434822606848 : Rat)) * (vq w) + (-7320136532877059 / 36893488147419103232 : Rat)) * (vq w) + (300239975157629 / 36028797018963968 : Rat)) (1179270879 / 1237940039285380274899124224 : Rat) := by rw [d8]; exact q_addE i7.1 (In.const (Fw.of (by decide +kernel))).1 (by rw [← d8]; exact i8.1) r7 (Er.const (show vq 4575957461383575504 = (300239975157629 / 36028797018963968 : Rat) by decide +kernel)) (T := (300239975157629 / 36028797018963968 : Rat)) (sum_T i7 (In.const (Fw.of (by decide +kernel))) (by decide +kernel) (by decide +kernel)) (by decide +kernel)
  obtain ⟨v9, d9⟩ : ∃ v, v = fmul v8 w := ⟨_, rfl⟩
  have i9 : In v9 0 4572578920991115675 := by rw [d9]; exact In_mul i8 hw (Fw.of (by decide +kernel)) (Fw.of (by decide +kernel)) (Fw.of (by decide +kernel)) (Fw.of (by decide +kernel)) (Fw.of (by decide +kernel)) (Fw.of (by decide +kernel)) (by decide +kernel) (by decide +kernel) (by decide +kernel) (by decide +kernel) (by decide +kernel) (by decide +kernel) (by decide +kernel) (by decide +kernel)
  have r9 : Er v9 (((((((6149556183080141 / 38685626227668133590597632 : Rat)) * (vq w) + (-7571123942793053 / 302231454903657293676544 : Rat)) * (vq w) + (6506786710177953 / 2361183241434822606848 : Rat)) * (vq w) + (-7320136532877059 / 36893488147419103232 : Rat)) * (vq w) + (300239975157629 / 36028797018963968 : Rat)) * (vq w)) (717253939 / 618970019642690137449562112 : Rat) := by rw [d9]; exact q_mulE i8.1 hw.1 (by rw [← d9]; exact i9.1) r8 (Er.self w) (A := (300239975157629 / 36028797018963968 : Rat)) (Y := (2779171330050333 / 4503599627370496 : Rat)) (i8.bd (by decide +kernel) (by decide +kernel)) (hw.bd (by decide +kernel) (by decide +kernel)) (by decide +kernel)
  obtain ⟨v10, d10⟩ : ∃ v, v = fadd v9 13818544856648471880 := ⟨_, rfl⟩
  have i10 : In v10 13818544856648471880 13818359578559802107 := by rw [d10]; exact In_add i9 (In.const (Fw.of (by decide +kernel))) (Fw.of (by decide +kernel)) (Fw.of (by decide +kernel)) (Fw.of (by decide +kernel)) (Fw.of (by decide +kernel)) (by decide +kernel) (by decide +kernel) (Fw.of (by decide +kernel)) (Fw.of (by decide +kernel))
  have r10 : Er v10 (((((((6149556183080141 / 38685626227668133590597632 : Rat)) * (vq w) + (-7571123942793053 / 302231454903657293676544 : Rat)) * (vq w) + (6506786710177953 / 2361183241434822606848 : Rat)) * (vq w) + (-7320136532877059 / 36893488147419103232 : Rat)) * (vq w) + (300239975157629 / 36028797018963968 : Rat)) * (vq w) + (-750599937895081 / 4503599627370496 : Rat)) (6085250031 / 309485009821345068724781056 : Rat) := by rw [d10]; exact q_addE i9.1 (In.const (Fw.of (by decide +kernel))).1 (by rw [← d10]; exact i10.1) r9 (Er.const (show vq 13818544856648471880 = (-750599937895081 / 4503599627370496 : Rat) by decide +kernel)) (T := (750599937895081 / 4503599627370496 : Rat)) (sum_T i9 (In.const (Fw.of (by decide +kernel))) (by decide +kernel) (by decide +kernel)) (by decide +kernel)
  obtain ⟨v11, d11⟩ : ∃ v, v = fmul z w := ⟨_, rfl⟩
  have i11 : In v11 13825775813091699874 4602403776236924066 := by rw [d11]; exact In_mul hz hw (Fw.of (by decide +kernel)) (Fw.of (by decide +kernel)) (Fw.of (by decide +kernel)) (Fw.of (by decide +kernel)) (Fw.of (by decide +kernel)) (Fw.of (by decide +kernel)) (by decide +kernel) (by decide +kernel) (by decide +kernel) (by decide +kernel) (by decide +kernel) (by decide +kernel) (by decide +kernel) (by decide +kernel)
  have r11 : Er v11 ((vq z) * (vq w)) (66621065667 / 1237940039285380274899124224 : Rat) := by rw [d11]; exact q_mulE hz.1 hw.1 (by rw [← d11]; exact i11.1) (Er.self z) (Er.self w) (A := (7075155014599049 / 9007199254740992 : Rat)) (Y := (2779171330050333 / 4503599627370496 : Rat)) (hz.bd (by decide +kernel) (by decide +kernel)) (hw.bd (by decide +kernel) (by decide +kernel)) (by decide +kernel)
  obtain ⟨v12, d12⟩ : ∃ v, v = fmul v11 v10 := ⟨_, rfl⟩
  have i12 : In v12 13813857895063952820 4590485858209177012 := by rw [d12]; exact In_mul i11 i10 (Fw.of (by decide +kernel)) (Fw.of (by decide +kernel)) (Fw.of (by decide +kernel)) (Fw.of (by decide +kernel)) (Fw.of (by decide +kernel)) (Fw.of (by decide +kernel)) (by decide +kernel) (by decide +kernel) (by decide +kernel) (by decide +kernel) (by decide +kernel) (by decide +kernel) (by decide +kernel) (by decide +kernel)
  have r12 : Er v12 (((vq z) * (vq w)) * (((((((6149556183080141 / 38685626227668133590597632 : Rat)) * (vq w) + (-7571123942793053 / 302231454903657293676544 : Rat)) * (vq w) + (6506786710177953 / 2361183241434822606848 : Rat)) * (vq w) + (-7320136532877059 / 36893488147419103232 : Rat)) * (vq w) + (300239975157629 / 36028797018963968 : Rat)) * (vq w) + (-750599937895081 / 4503599627370496 : Rat))) (34005884779 / 1237940039285380274899124224 : Rat) := by rw [d12]; exact q_mulE i11.1 i10.1 (by rw [← d12]; exact i12.1) r11 r10 (A := (4366078159509073 / 9007199254740992 : Rat)) (Y := (750599937895081 / 4503599627370496 : Rat)) (i11.bd (by decide +kernel) (by decide +kernel)) (i10.bd (by decide +kernel) (by decide +kernel)) (by decide +kernel)
  obtain ⟨v13, d13⟩ : ∃ v, v = fadd z v12 := ⟨_, rfl⟩
  have i13 : In v13 13829350091107902784 4605978054253126976 := by rw [d13]; exact In_add hz i12 (Fw.of (by decide +kernel)) (Fw.of (by decide +kernel)) (Fw.of (by decide +kernel)) (Fw.of (by decide +kernel)) (by decide +kernel) (by decide +kernel) (Fw.of (by decide +kernel)) (Fw.of (by decide +kernel))
  have r13 : Er v13 (vq z + ((vq z) * (vq w)) * (((((((6149556183080141 / 38685626227668133590597632 : Rat)) * (vq w) + (-7571123942793053 / 302231454903657293676544 : Rat)) * (vq w) + (6506786710177953 / 2361183241434822606848 : Rat)) * (vq w) + (-7320136532877059 / 36893488147419103232 : Rat)) * (vq w) + (300239975157629 / 36028797018963968 : Rat)) * (vq w) + (-750599937895081 / 4503599627370496 : Rat))) (38266923419 / 309485009821345068724781056 : Rat) := by rw [d13]; exact q_addE hz.1 i12.1 (by rw [← d13]; exact i13.1) (Er.self z) r12 (T := (15605669415701119 / 18014398509481984 : Rat)) (sum_T hz i12 (by decide +kernel) (by decide +kernel)) (by decide +kernel)
  have e : fadd z (fmul (fmul z w) (sinS w)) = v13 := by subst_vars; rfl
  rw [e]
  exact ⟨r13, i13.1⟩

set_option maxRecDepth 10000 in
theorem cos_er {w : Nat} (hw : In w 0 4603733562205377082) : Er (fadd (fsub one (fmul 4602678819172646912 w)) (fmul (fmul w w) (cosS w))) ((1 - 1 / 2 * vq w) + vq w * vq w * pC (vq w)) (163049242429 / 618970019642690137449562112 : Rat) ∧ Fw (fadd (fsub one (fmul 4602678819172646912 w)) (fmul (fmul w w) (cosS w))) := by
  obtain ⟨v1, d1⟩ : ∃ v, v = fmul 13666448263388469915 w := ⟨_, rfl⟩
  have i1 : In v1 13663591228776072968 9223372036854775808 := by rw [d1]; exact In_mul (In.const (Fw.of (by decide +kernel))) hw (Fw.of (by decide +kernel)) (Fw.of (by decide +kernel)) (Fw.of (by decide +kernel)) (Fw.of (by decide +kernel)) (Fw.of (by decide +kernel)) (Fw.of (by decide +kernel)) (by decide +kernel) (by decide +kernel) (by decide +kernel) (by decide +kernel) (by decide +kernel) (by decide +kernel) (by decide +kernel) (by decide +kernel)
  have r1 : Er v1 (((-7030593573755547 / 618970019642690137449562112 : Rat)) * (vq w)) (1 / 1237940039285380274899124224 : Rat) := by rw [d1]; exact q_mulE (In.const (Fw.of (by decide +kernel))).1 hw.1 (by rw [← d1]; exact i1.1) (Er.const (show vq 13666448263388469915 = (-7030593573755547 / 618970019642690137449562112 : Rat) by decide +kernel)) (Er.self w) (A := (7030593573755547 / 618970019642690137449562112 : Rat)) (Y := (2779171330050333 / 4503599627370496 : Rat)) ((In.const (Fw.of (by decide +kernel))).bd (by decide +kernel) (by decide +kernel)) (hw.bd (by decide +kernel) (by decide +kernel)) (by decide +kernel)
  obtain ⟨v2, d2⟩ : ∃ v, v = fadd v1 4477121864728985349 := ⟨_, rfl⟩
  have i2 : In v2 4477104917153616737 4477121864728985349 := by rw [d2]; exact In_add i1 (In.const (Fw.of (by decide +kernel))) (Fw.of (by decide +kernel)) (Fw.of (by decide +kernel)) (Fw.of (by decide +kernel)) (Fw.of (by decide +kernel)) (by decide +kernel) (by decide +kernel) (Fw.of (by decide +kernel)) (Fw.of (by decide +kernel))
  have r2 : Er v2 (((-7030593573755547 / 618970019642690137449562112 : Rat)) * (vq w) + (5047434750082821 / 2417851639229258349412352 : Rat)) (9 / 38685626227668133590597632 : Rat) := by rw [d2]; exact q_addE i1.1 (In.const (Fw.of (by decide +kernel))).1 (by rw [← d2]; exact i2.1) r1 (Er.const (show vq 4477121864728985349 = (5047434750082821 / 2417851639229258349412352 : Rat) by decide +kernel)) (T := (5047434750082821 / 2417851639229258349412352 : Rat)) (sum_T i1 (In.const (Fw.of (by decide +kernel))) (by decide +kernel) (by decide +kernel)) (by decide +kernel)
  obtain ⟨v3, d3⟩ : ∃ v, v = fmul v2 w := ⟨_, rfl⟩
  have i3 : In v3 0 4473800374320084249 := by rw [d3]; exact In_mul i2 hw (Fw.of (by decide +kernel)) (Fw.of (by decide +kernel)) (Fw.of (by decide +kernel)) (Fw.of (by decide +kernel)) (Fw.of (by decide +kernel)) (Fw.of (by decide +kernel)) (by decide +kernel) (by decide +kernel) (by decide +kernel) (by decide +kernel) (by decide +kernel) (by decide +kernel) (by decide +kernel) (by decide +kernel)
  have r3 : Er v3 ((((-7030593573755547 / 618970019642690137449562112 : Rat)) * (vq w) + (5047434750082821 / 2417851639229258349412352 : Rat)) * (vq w)) (355 / 1237940039285380274899124224 : Rat) := by rw [d3]; exact q_mulE i2.1 hw.1 (by rw [← d3]; exact i3.1) r2 (Er.self w) (A := (5047434750082821 / 2417851639229258349412352 : Rat)) (Y := (2779171330050333 / 4503599627370496 : Rat)) (i2.bd (by decide +kernel) (by decide +kernel)) (hw.bd (by decide +kernel) (by decide +kernel)) (by decide +kernel)
  obtain ⟨v4, d4⟩ : ∃ v, v = fadd v3 13732177093698800582 := ⟨_, rfl⟩
  have i4 : In v4 13732177093698800582 13732152759542673425 := by rw [d4]; exact In_add i3 (In.const (Fw.of (by decide +kernel))) (Fw.of (by decide +kernel)) (Fw.of (by decide +kernel)) (Fw.of (by decide +kernel)) (Fw.of (by decide +kernel)) (by decide +kernel) (by decide +kernel) (Fw.of (by decide +kernel)) (Fw.of (by decide +kernel))
  have r4 : Er v4 ((((-7030593573755547 / 618970019642690137449562112 : Rat)) * (vq w) + (5047434750082821 / 2417851639229258349412352 : Rat)) * (vq w) + (-2602714736764387 / 9444732965739290427392 : Rat)) (19115 / 618970019642690137449562112 : Rat) := by rw [d4]; exact q_addE i3.1 (In.const (Fw.of (by decide +kernel))).1 (by rw [← d4]; exact i4.1) r3 (Er.const (show vq 13732177093698800582 = (-2602714736764387 / 9444732965739290427392 : Rat) by decide +kernel)) (T := (2602714736764387 / 9444732965739290427392 : Rat)) (sum_T i3 (In.const (Fw.of (by decide +kernel))) (by decide +kernel) (by decide +kernel)) (by decide +kernel)
  obtain ⟨v5, d5⟩ : ∃ v, v = fmul v4 w := ⟨_, rfl⟩
  have i5 : In v5 13728892605654130525 9223372036854775808 := by rw [d5]; exact In_mul i4 hw (Fw.of (by decide +kernel)) (Fw.of (by decide +kernel)) (Fw.of (by decide +kernel)) (Fw.of (by decide +kernel)) (Fw.of (by decide +kernel)) (Fw.of (by decide +kernel)) (by decide +kernel) (by decide +kernel) (by decide +kernel) (by decide +kernel) (by decide +kernel) (by decide +kernel) (by decide +kernel) (by decide +kernel)
  have r5 : Er v5 (((((-7030593573755547 / 618970019642690137449562112 : Rat)) * (vq w) + (5047434750082821 / 2417851639229258349412352 : Rat)) * (vq w) + (-2602714736764387 / 9444732965739290427392 : Rat)) * (vq w)) (46965 / 1237940039285380274899124224 : Rat) := by rw [d5]; exact q_mulE i4.1 hw.1 (by rw [← d5]; exact i5.1) r4 (Er.self w) (A := (2602714736764387 / 9444732965739290427392 : Rat)) (Y := (2779171330050333 / 4503599627370496 : Rat)) (i4.bd (by decide +kernel) (by decide +kernel)) (hw.bd (by decide +kernel) (by decide +kernel)) (by decide +kernel)
  obtain ⟨v6, d6⟩ : ∃ v, v = fadd v5 4537941361668146421 := ⟨_, rfl⟩
  have i6 : In v6 4537891169941144630 4537941361668146421 := by rw [d6]; exact In_add i5 (In.const (Fw.of (by decide +kernel))) (Fw.of (by decide +kernel)) (Fw.of (by decide +kernel)) (Fw.of (by decide +kernel)) (Fw.of (by decide +kernel)) (by decide +kernel) (by decide +kernel) (Fw.of (by decide +kernel)) (Fw.of (by decide +kernel))
  have r6 : Er v6 (((((-7030593573755547 / 618970019642690137449562112 : Rat)) * (vq w) + (5047434750082821 / 2417851639229258349412352 : Rat)) * (vq w) + (-2602714736764387 / 9444732965739290427392 : Rat)) * (vq w) + (7320136533427445 / 295147905179352825856 : Rat)) (1727835 / 618970019642690137449562112 : Rat) := by rw [d6]; exact q_addE i5.1 (In.const (Fw.of (by decide +kernel))).1 (by rw [← d6]; exact i6.1) r5 (Er.const (show vq 4537941361668146421 = (7320136533427445 / 295147905179352825856 : Rat) by decide +kernel)) (T := (7320136533427445 / 295147905179352825856 : Rat)) (sum_T i5 (In.const (Fw.of (by decide +kernel))) (by decide +kernel) (by decide +kernel)) (by decide +kernel)
  obtain ⟨v7, d7⟩ : ∃ v, v = fmul v6 w := ⟨_, rfl⟩
  have i7 : In v7 0 4535138481389497052 := by rw [d7]; exact In_mul i6 hw (Fw.of (by decide +kernel)) (Fw.of (by decide +kernel)) (Fw.of (by decide +kernel)) (Fw.of (by decide +kernel)) (Fw.of (by decide +kernel)) (Fw.of (by decide +kernel)) (by decide +kernel) (by decide +kernel) (by decide +kernel) (by decide +kernel) (by decide +kernel) (by decide +kernel) (by decide +kernel) (by decide +kernel)
  have r7 : Er v7 ((((((-7030593573755547 / 618970019642690137449562112 : Rat)) * (vq w) + (5047434750082821 / 2417851639229258349412352 : Rat)) * (vq w) + (-2602714736764387 / 9444732965739290427392 : Rat)) * (vq w) + (7320136533427445 / 295147905179352825856 : Rat)) * (vq w)) (2118003 / 618970019642690137449562112 : Rat) := by rw [d7]; exact q_mulE i6.1 hw.1 (by rw [← d7]; exact i7.1) r6 (Er.self w) (A := (7320136533427445 / 295147905179352825856 : Rat)) (Y := (2779171330050333 / 4503599627370496 : Rat)) (i6.bd (by decide +kernel) (by decide +kernel)) (hw.bd (by decide +kernel) (by decide +kernel)) (by decide +kernel)
  obtain ⟨v8, d8⟩ : ∃ v, v = fadd v7 13787419979223748497 := ⟨_, rfl⟩
  have i8 : In v8 13787419979223748497 13787349397094767590 := by rw [d8]; exact In_add i7 (In.const (Fw.of (by decide +kernel))) (Fw.of (by decide +kernel)) (Fw.of (by decide +kernel)) (Fw.of (by decide +kernel)) (Fw.of (by decide +kernel)) (by decide +kernel) (by decide +kernel) (Fw.of (by decide +kernel)) (Fw.of (by decide +kernel))
  have r8 : Er v8 ((((((-7030593573755547 / 618970019642690137449562112 : Rat)) * (vq w) + (5047434750082821 / 2417851639229258349412352 : Rat)) * (vq w) + (-2602714736764387 / 9444732965739290427392 : Rat)) * (vq w) + (7320136533427445 / 295147905179352825856 : Rat)) * (vq w) + (-6405119470030737 / 4611686018427387904 : Rat)) (97561721 / 618970019642690137449562112 : Rat) := by rw [d8]; exact q_addE i7.1 (In.const (Fw.of (by decide +kernel))).1 (by rw [← d8]; exact i8.1) r7 (Er.const (show vq 13787419979223748497 = (-6405119470030737 / 4611686018427387904 : Rat) by decide +kernel)) (T := (6405119470030737 / 4611686018427387904 : Rat)) (sum_T i7 (In.const (Fw.of (by decide +kernel))) (by decide +kernel) (by decide +kernel)) (by decide +kernel)
  obtain ⟨v9, d9⟩ : ∃ v, v = fmul v8 w := ⟨_, rfl⟩
  have i9 : In v9 13784416458576259199 9223372036854775808 := by rw [d9]; exact In_mul i8 hw (Fw.of (by decide +kernel)) (Fw.of (by decide +kernel)) (Fw.of (by decide +kernel)) (Fw.of (by decide +kernel)) (Fw.of (by decide +kernel)) (Fw.of (by decide +kernel)) (by decide +kernel) (by decide +kernel) (by decide +kernel) (by decide +kernel) (by decide +kernel) (by decide +kernel) (by decide +kernel) (by decide +kernel)
  have r9 : Er v9 (((((((-7030593573755547 / 618970019642690137449562112 : Rat)) * (vq w) + (5047434750082821 / 2417851639229258349412352 : Rat)) * (vq w) + (-2602714736764387 / 9444732965739290427392 : Rat)) * (vq w) + (7320136533427445 / 295147905179352825856 : Rat)) * (vq w) + (-6405119470030737 / 4611686018427387904 : Rat)) * (vq w)) (238207313 / 1237940039285380274899124224 : Rat) := by rw [d9]; exact q_mulE i8.1 hw.1 (by rw [← d9]; exact i9.1) r8 (Er.self w) (A := (6405119470030737 / 4611686018427387904 : Rat)) (Y := (2779171330050333 / 4503599627370496 : Rat)) (i8.bd (by decide +kernel) (by decide +kernel)) (hw.bd (by decide +kernel) (by decide +kernel)) (by decide +kernel)
  obtain ⟨v10, d10⟩ : ∃ v, v = fadd v9 4586165620538955083 := ⟨_, rfl⟩
  have i10 : In v10 4586042101813175209 4586165620538955083 := by rw [d10]; exact In_add i9 (In.const (Fw.of (by decide +kernel))) (Fw.of (by decide +kernel)) (Fw.of (by decide +kernel)) (Fw.of (by decide +kernel)) (Fw.of (by decide +kernel)) (by decide +kernel) (by decide +kernel) (Fw.of (by decide +kernel)) (Fw.of (by decide +kernel))
  have r10 : Er v10 (((((((-7030593573755547 / 618970019642690137449562112 : Rat)) * (vq w) + (5047434750082821 / 2417851639229258349412352 : Rat)) * (vq w) + (-2602714736764387 / 9444732965739290427392 : Rat)) * (vq w) + (7320136533427445 / 295147905179352825856 : Rat)) * (vq w) + (-6405119470030737 / 4611686018427387904 : Rat)) * (vq w) + (6004799503160651 / 144115188075855872 : Rat)) (5964830375 / 1237940039285380274899124224 : Rat) := by rw [d10]; exact q_addE i9.1 (In.const (Fw.of (by decide +kernel))).1 (by rw [← d10]; exact i10.1) r9 (Er.const (show vq 4586165620538955083 = (6004799503160651 / 144115188075855872 : Rat) by decide +kernel)) (T := (6004799503160651 / 144115188075855872 : Rat)) (sum_T i9 (In.const (Fw.of (by decide +kernel))) (by decide +kernel) (by decide +kernel)) (by decide +kernel)
  obtain ⟨v11, d11⟩ : ∃ v, v = fmul 4602678819172646912 w := ⟨_, rfl⟩
  have i11 : In v11 0 4599229962578006586 := by rw [d11]; exact In_mul (In.const (Fw.of (by decide +kernel))) hw (Fw.of (by decide +kernel)) (Fw.of (by decide +kernel)) (Fw.of (by decide +kernel)) (Fw.of (by decide +kernel)) (Fw.of (by decide +kernel)) (Fw.of (by decide +kernel)) (by decide +kernel) (by decide +kernel) (by decide +kernel) (by decide +kernel) (by decide +kernel) (by decide +kernel) (by decide +kernel) (by decide +kernel)
  have r11 : Er v11 (((1 / 2 : Rat)) * (vq w)) (21203394547 / 618970019642690137449562112 : Rat) := by rw [d11]; exact q_mulE (In.const (Fw.of (by decide +kernel))).1 hw.1 (by rw [← d11]; exact i11.1) (Er.const (show vq 4602678819172646912 = (1 / 2 : Rat) by decide +kernel)) (Er.self w) (A := (1 / 2 : Rat)) (Y := (2779171330050333 / 4503599627370496 : Rat)) ((In.const (Fw.of (by decide +kernel))).bd (by decide +kernel) (by decide +kernel)) (hw.bd (by decide +kernel) (by decide +kernel)) (by decide +kernel)
  obtain ⟨v12, d12⟩ : ∃ v, v = fsub 4607182418800017408 v11 := ⟨_, rfl⟩
  have i12 : In v12 4604403247469967075 4607182418800017408 := by rw [d12]; exact In_sub (In.const (Fw.of (by decide +kernel))) i11 (Fw.of (by decide +kernel)) (Fw.of (by decide +kernel)) (Fw.of (by decide +kernel)) (Fw.of (by decide +kernel)) (by decide +kernel) (by decide +kernel) (Fw.of (by decide +kernel)) (Fw.of (by decide +kernel))
  have r12 : Er v12 ((1 : Rat) - (((1 / 2 : Rat)) * (vq w))) (179845742567 / 1237940039285380274899124224 : Rat) := by rw [d12]; exact q_subE (In.const (Fw.of (by decide +kernel))).1 i11.1 (by rw [← d12]; exact i12.1) (Er.const (show vq 4607182418800017408 = (1 : Rat) by decide +kernel)) r11 (T := (1 : Rat)) (dif_T (In.const (Fw.of (by decide +kernel))) i11 (by decide +kernel) (by decide +kernel)) (by decide +kernel)
  obtain ⟨v13, d13⟩ : ∃ v, v = fmul w w := ⟨_, rfl⟩
  have i13 : In v13 0 4600531726429002162 := by rw [d13]; exact In_sq hw (Fw.of (by decide +kernel)) (Fw.of (by decide +kernel)) (Fw.of (by decide +kernel)) (by decide +kernel) (by decide +kernel)
  have r13 : Er v13 ((vq w) * (vq w)) (13084614775 / 309485009821345068724781056 : Rat) := by rw [d13]; exact q_mulE hw.1 hw.1 (by rw [← d13]; exact i13.1) (Er.self w) (Er.self w) (A := (2779171330050333 / 4503599627370496 : Rat)) (Y := (2779171330050333 / 4503599627370496 : Rat)) (hw.bd (by decide +kernel) (by decide +kernel)) (hw.bd (by decide +kernel) (by decide +kernel)) (by decide +kernel)
  obtain ⟨v14, d14⟩ : ∃ v, v = fmul v13 v10 := ⟨_, rfl⟩
  have i14 : In v14 0 4580230625749154756 := by rw [d14]; exact In_mul i13 i10 (Fw.of (by decide +kernel)) (Fw.of (by decide +kernel)) (Fw.of (by decide +kernel)) (Fw.of (by decide +kernel)) (Fw.of (by decide +kernel)) (Fw.of (by decide +kernel)) (by decide +kernel) (by decide +kernel) (by decide +kernel) (by decide +kernel) (by decide +kernel) (by decide +kernel) (by decide +kernel) (by decide +kernel)
  have r14 : Er v14 (((vq w) * (vq w)) * (((((((-7030593573755547 / 618970019642690137449562112 : Rat)) * (vq w) + (5047434750082821 / 2417851639229258349412352 : Rat)) * (vq w) + (-2602714736764387 / 9444732965739290427392 : Rat)) * (vq w) + (7320136533427445 / 295147905179352825856 : Rat)) * (vq w) + (-6405119470030737 / 4611686018427387904 : Rat)) * (vq w) + (6004799503160651 / 144115188075855872 : Rat))) (6633019689 / 1237940039285380274899124224 : Rat) := by rw [d14]; exact q_mulE i13.1 i10.1 (by rw [← d14]; exact i14.1) r13 r10 (A := (3430053255548121 / 9007199254740992 : Rat)) (Y := (6004799503160651 / 144115188075855872 : Rat)) (i13.bd (by decide +kernel) (by decide +kernel)) (i10.bd (by decide +kernel) (by decide +kernel)) (by decide +kernel)
  obtain ⟨v15, d15⟩ : ∃ v, v = fadd v12 v14 := ⟨_, rfl⟩
  have i15 : In v15 4604403247469967075 4607253878242841327 := by rw [d15]; exact In_add i12 i14 (Fw.of (by decide +kernel)) (Fw.of (by decide +kernel)) (Fw.of (by decide +kernel)) (Fw.of (by decide +kernel)) (by decide +kernel) (by decide +kernel) (Fw.of (by decide +kernel)) (Fw.of (by decide +kernel))
  have r15 : Er v15 ((1 : Rat) - (((1 / 2 : Rat)) * (vq w)) + ((vq w) * (vq w)) * (((((((-7030593573755547 / 618970019642690137449562112 : Rat)) * (vq w) + (5047434750082821 / 2417851639229258349412352 : Rat)) * (vq w) + (-2602714736764387 / 9444732965739290427392 : Rat)) * (vq w) + (7320136533427445 / 295147905179352825856 : Rat)) * (vq w) + (-6405119470030737 / 4611686018427387904 : Rat)) * (vq w) + (6004799503160651 / 144115188075855872 : Rat))) (163049242429 / 618970019642690137449562112 : Rat) := by rw [d15]; exact q_addE i12.1 i14.1 (by rw [← d15]; exact i15.1) r12 r14 (T := (73200945123110641 / 72057594037927936 : Rat)) (sum_T i12 i14 (by decide +kernel) (by decide +kernel)) (by decide +kernel)
  have e : fadd (fsub one (fmul 4602678819172646912 w)) (fmul (fmul w w) (cosS w)) = v15 := by subst_vars; rfl
  rw [e]
  exact ⟨r15, i15.1⟩
set_option maxRecDepth 10000 in
theorem cos_parts {w : Nat} (hw : In w 0 4603733562205377082) : Er (fsub one (fmul 4602678819172646912 w)) (1 - 1 / 2 * vq w) (179845742567 / 1237940039285380274899124224 : Rat) ∧ Fw (fsub one (fmul 4602678819172646912 w)) ∧ Er (fmul (fmul w w) (cosS w)) (vq w * vq w * pC (vq w)) (6633019689 / 1237940039285380274899124224 : Rat) ∧ Fw (fmul (fmul w w) (cosS w)) := by
  obtain ⟨v1, d1⟩ : ∃ v, v = fmul 13666448263388469915 w := ⟨_, rfl⟩
  have i1 : In v1 13663591228776072968 9223372036854775808 := by rw [d1]; exact In_mul (In.const (Fw.of (by decide +kernel))) hw (Fw.of (by decide +kernel)) (Fw.of (by decide +kernel)) (Fw.of (by decide +kernel)) (Fw.of (by decide +kernel)) (Fw.of (by decide +kernel)) (Fw.of (by decide +kernel)) (by decide +kernel) (by decide +kernel) (by decide +kernel) (by decide +kernel) (by decide +kernel) (by decide +kernel) (by decide +kernel) (by decide +kernel)
  have r1 : Er v1 (((-7030593573755547 / 618970019642690137449562112 : Rat)) * (vq w)) (1 / 1237940039285380274899124224 : Rat) := by rw [d1]; exact q_mulE (In.const (Fw.of (by decide +kernel))).1 hw.1 (by rw [← d1]; exact i1.1) (Er.const (show vq 13666448263388469915 = (-7030593573755547 / 618970019642690137449562112 : Rat) by decide +kernel)) (Er.self w) (A := (7030593573755547 / 618970019642690137449562112 : Rat)) (Y := (2779171330050333 / 4503599627370496 : Rat)) ((In.const (Fw.of (by decide +kernel))).bd (by decide +kernel) (by decide +kernel)) (hw.bd (by decide +kernel) (by decide +kernel)) (by decide +kernel)
  obtain ⟨v2, d2⟩ : ∃ v, v = fadd v1 4477121864728985349 := ⟨_, rfl⟩
  have i2 : In v2 4477104917153616737 4477121864728985349 := by rw [d2]; exact In_add i1 (In.const (Fw.of (by decide +kernel))) (Fw.of (by decide +kernel)) (Fw.of (by decide +kernel)) (Fw.of (by decide +kernel)) (Fw.of (by decide +kernel)) (by decide +kernel) (by decide +kernel) (Fw.of (by decide +kernel)) (Fw.of (by decide +kernel))
  have r2 : Er v2 (((-7030593573755547 / 618970019642690137449562112 : Rat)) * (vq w) + (5047434750082821 / 2417851639229258349412352 : Rat)) (9 / 38685626227668133590597632 : Rat) := by rw [d2]; exact q_addE i1.1 (In.const (Fw.of (by decide +kernel))).1 (by rw [← d2]; exact i2.1) r1 (Er.const (show vq 4477121864728985349 = (5047434750082821 / 2417851639229258349412352 : Rat) by decide +kernel)) (T := (5047434750082821 / 2417851639229258349412352 : Rat)) (sum_T i1 (In.const (Fw.of (by decide +kernel))) (by decide +kernel) (by decide +kernel)) (by decide +kernel)
  obtain ⟨v3, d3⟩ : ∃ v, v = fmul v2 w := ⟨_, rfl⟩
  have i3 : In v3 0 4473800374320084249 := by rw [d3]; exact In_mul i2 hw (Fw.of (by decide +kernel)) (Fw.of (by decide +kernel)) (Fw.of (by decide +kernel)) (Fw.of (by decide +kernel)) (Fw.of (by decide +kernel)) (Fw.of (by decide +kernel)) (by decide +kernel) (by decide +kernel) (by decide +kernel) (by decide +kernel) (by decide +kernel) (by decide +kernel) (by decide +kernel) (by decide +kernel)
  have r3 : Er v3 ((((-7030593573755547 / 618970019642690137449562112 : Rat)) * (vq w) + (5047434750082821 / 2417851639229258349412352 : Rat)) * (vq w)) (355 / 1237940039285380274899124224 : Rat) := by rw [d3]; exact q_mulE i2.1 hw.1 (by rw [← d3]; exact i3.1) r2 (Er.self w) (A := (5047434750082821 / 2417851639229258349412352 : Rat)) (Y := (2779171330050333 / 4503599627370496 : Rat)) (i2.bd (by decide +kernel) (by decide +kernel)) (hw.bd (by decide +kernel) (by decide +kernel)) (by decide +kernel)
  obtain ⟨v4, d4⟩ : ∃ v, v = fadd v3 13732177093698800582 := ⟨_, rfl⟩
  have i4 : In v4 13732177093698800582 13732152759542673425 := by rw [d4]; exact In_add i3 (In.const (Fw.of (by decide +kernel))) (Fw.of (by decide +kernel)) (Fw.of (by decide +kernel)) (Fw.of (by decide +kernel)) (Fw.of (by decide +kernel)) (by decide +kernel) (by decide +kernel) (Fw.of (by decide +kernel)) (Fw.of (by decide +kernel))
  have r4 : Er v4 ((((-7030593573755547 / 618970019642690137449562112 : Rat)) * (vq w) + (5047434750082821 / 2417851639229258349412352 : Rat)) * (vq w) + (-2602714736764387 / 9444732965739290427392 : Rat)) (19115 / 618970019642690137449562112 : Rat) := by rw [d4]; exact q_addE i3.1 (In.const (Fw.of (by decide +kernel))).1 (by rw [← d4]; exact i4.1) r3 (Er.const (show vq 13732177093698800582 = (-2602714736764387 / 9444732965739290427392 : Rat) by decide +kernel)) (T := (2602714736764387 / 9444732965739290427392 : Rat)) (sum_T i3 (In.const (Fw.of (by decide +kernel))) (by decide +kernel) (by decide +kernel)) (by decide +kernel)
  obtain ⟨v5, d5⟩ : ∃ v, v = fmul v4 w := ⟨_, rfl⟩
  have i5 : In v5 13728892605654130525 9223372036854775808 := by rw [d5]; exact In_mul i4 hw (Fw.of (by decide +kernel)) (Fw.of (by decide +kernel)) (Fw.of (by decide +kernel)) (Fw.of (by decide +kernel)) (Fw.of (by decide +kernel)) (Fw.of (by decide +kernel)) (by decide +kernel) (by decide +kernel) (by decide +kernel) (by decide +kernel) (by decide +kernel) (by decide +kernel) (by decide +kernel) (by decide +kernel)
  have r5 : Er v5 (((((-7030593573755547 / 618970019642690137449562112 : Rat)) * (vq w) + (5047434750082821 / 2417851639229258349412352 : Rat)) * (vq w) + (-2602714736764387 / 9444732965739290427392 : Rat)) * (vq w)) (46965 / 1237940039285380274899124224 : Rat) := by rw [d5]; exact q_mulE i4.1 hw.1 (by rw [← d5]; exact i5.1) r4 (Er.self w) (A := (2602714736764387 / 9444732965739290427392 : Rat)) (Y := (2779171330050333 / 4503599627370496 : Rat)) (i4.bd (by decide +kernel) (by decide +kernel)) (hw.bd (by decide +kernel) (by decide +kernel)) (by decide +kernel)
  obtain ⟨v6, d6⟩ : ∃ v, v = fadd v5 4537941361668146421 := ⟨_, rfl⟩
  have i6 : In v6 4537891169941144630 4537941361668146421 := by rw [d6]; exact In_add i5 (In.const (Fw.of (by decide +kernel))) (Fw.of (by decide +kernel)) (Fw.of (by decide +kernel)) (Fw.of (by decide +kernel)) (Fw.of (by decide +kernel)) (by decide +kernel) (by decide +kernel) (Fw.of (by decide +kernel)) (Fw.of (by decide +kernel))
  have r6 : Er v6 (((((-7030593573755547 / 618970019642690137449562112 : Rat)) * (vq w) + (5047434750082821 / 2417851639229258349412352 : Rat)) * (vq w) + (-2602714736764387 / 9444732965739290427392 : Rat)) * (vq w) + (7320136533427445 / 295147905179352825856 : Rat)) (1727835 / 618970019642690137449562112 : Rat) := by rw [d6]; exact q_addE i5.1 (In.const (Fw.of (by decide +kernel))).1 (by rw [← d6]; exact i6.1) r5 (Er.const (show vq 4537941361668146421 = (7320136533427445 / 295147905179352825856 : Rat) by decide +kernel)) (T := (7320136533427445 / 295147905179352825856 : Rat)) (sum_T i5 (In.const (Fw.of (by decide +kernel))) (by decide +kernel) (by decide +kernel)) (by decide +kernel)
  obtain ⟨v7, d7⟩ : ∃ v, v = fmul v6 w := ⟨_, rfl⟩
  have i7 : In v7 0 4535138481389497052 := by rw [d7]; exact In_mul i6 hw (Fw.of (by decide +kernel)) (Fw.of (by decide +kernel)) (Fw.of (by decide +kernel)) (Fw.of (by decide +kernel)) (Fw.of (by decide +kernel)) (Fw.of (by decide +kernel)) (by decide +kernel) (by decide +kernel) (by decide +kernel) (by decide +kernel) (by decide +kernel) (by decide +kernel) (by decide +kernel) (by decide +kernel)
  have r7 : Er v7 ((((((-7030593573755547 / 618970019642690137449562112 : Rat)) * (vq w) + (5047434750082821 / 2417851639229258349412352 : Rat)) * (vq w) + (-2602714736764387 / 9444732965739290427392 : Rat)) * (vq w) + (7320136533427445 / 295147905179352825856 : Rat)) * (vq w)) (2118003 / 618970019642690137449562112 : Rat) := by rw [d7]; exact q_mulE i6.1 hw.1 (by rw [← d7]; exact i7.1) r6 (Er.self w) (A := (7320136533427445 / 295147905179352825856 : Rat)) (Y := (2779171330050333 / 4503599627370496 : Rat)) (i6.bd (by decide +kernel) (by decide +kernel)) (hw.bd (by decide +kernel) (by decide +kernel)) (by decide +kernel)
  obtain ⟨v8, d8⟩ : ∃ v, v = fadd v7 13787419979223748497 := ⟨_, rfl⟩
  have i8 : In v8 13787419979223748497 13787349397094767590 := by rw [d8]; exact In_add i7 (In.const (Fw.of (by decide +kernel))) (Fw.of (by decide +kernel)) (Fw.of (by decide +kernel)) (Fw.of (by decide +kernel)) (Fw.of (by decide +kernel)) (by decide +kernel) (by decide +kernel) (Fw.of (by decide +kernel)) (Fw.of (by decide +kernel))
  have r8 : Er v8 ((((((-7030593573755547 / 618970019642690137449562112 : Rat)) * (vq w) + (5047434750082821 / 2417851639229258349412352 : Rat)) * (vq w) + (-2602714736764387 / 9444732965739290427392 : Rat)) * (vq w) + (7320136533427445 / 295147905179352825856 : Rat)) * (vq w) + (-6405119470030737 / 4611686018427387904 : Rat)) (97561721 / 618970019642690137449562112 : Rat) := by rw [d8]; exact q_addE i7.1 (In.const (Fw.of (by decide +kernel))).1 (by rw [← d8]; exact i8.1) r7 (Er.const (show vq 13787419979223748497 = (-6405119470030737 / 4611686018427387904 : Rat) by decide +kernel)) (T := (6405119470030737 / 4611686018427387904 : Rat)) (sum_T i7 (In.const (Fw.of (by decide +kernel))) (by decide +kernel) (by decide +kernel)) (by decide +kernel)
  obtain ⟨v9, d9⟩ : ∃ v, v = fmul v8 w := ⟨_, rfl⟩
  have i9 : In v9 13784416458576259199 9223372036854775808 := by rw [d9]; exact In_mul i8 hw (Fw.of (by decide +kernel)) (Fw.of (by decide +kernel)) (Fw.of (by decide +kernel)) (Fw.of (by decide +kernel)) (Fw.of (by decide +kernel)) (Fw.of (by decide +kernel)) (by decide +kernel) (by decide +kernel) (by decide +kernel) (by decide +kernel) (by decide +kernel) (by decide +kernel) (by decide +kernel) (by decide +kernel)
  have r9 : Er v9 (((((((-7030593573755547 / 618970019642690137449562112 : Rat)) * (vq w) + (5047434750082821 / 2417851639229258349412352 : Rat)) * (vq w) + (-2602714736764387 / 9444732965739290427392 : Rat)) * (vq w) + (7320136533427445 / 295147905179352825856 : Rat)) * (vq w) + (-6405119470030737 / 4611686018427387904 : Rat)) * (vq w)) (238207313 / 1237940039285380274899124224 : Rat) := by rw [d9]; exact q_mulE i8.1 hw.1 (by rw [← d9]; exact i9.1) r8 (Er.self w) (A := (6405119470030737 / 4611686018427387904 : Rat)) (Y := (2779171330050333 / 4503599627370496 : Rat)) (i8.bd (by decide +kernel) (by decide +kernel)) (hw.bd (by decide +kernel) (by decide +kernel)) (by decide +kernel)
  obtain ⟨v10, d10⟩ : ∃ v, v = fadd v9 4586165620538955083 := ⟨_, rfl⟩
  have i10 : In v10 4586042101813175209 4586165620538955083 := by rw [d10]; exact In_add i9 (In.const (Fw.of (by decide +kernel))) (Fw.of (by decide +kernel)) (Fw.of (by decide +kernel)) (Fw.of (by decide +kernel)) (Fw.of (by decide +kernel)) (by decide +kernel) (by decide +kernel) (Fw.of (by decide +kernel)) (Fw.of (by decide +kernel))
  have r10 : Er v10 (((((((-7030593573755547 / 618970019642690137449562112 : Rat)) * (vq w) + (5047434750082821 / 2417851639229258349412352 : Rat)) * (vq w) + (-2602714736764387 / 9444732965739290427392 : Rat)) * (vq w) + (7320136533427445 / 295147905179352825856 : Rat)) * (vq w) + (-6405119470030737 / 4611686018427387904 : Rat)) * (vq w) + (6004799503160651 / 144115188075855872 : Rat)) (5964830375 / 1237940039285380274899124224 : Rat) := by rw [d10]; exact q_addE i9.1 (In.const (Fw.of (by decide +kernel))).1 (by rw [← d10]; exact i10.1) r9 (Er.const (show vq 4586165620538955083 = (6004799503160651 / 144115188075855872 : Rat) by decide +kernel)) (T := (6004799503160651 / 144115188075855872 : Rat)) (sum_T i9 (In.const (Fw.of (by decide +kernel))) (by decide +kernel) (by decide +kernel)) (by decide +kernel)
  obtain ⟨v11, d11⟩ : ∃ v, v = fmul 4602678819172646912 w := ⟨_, rfl⟩
  have i11 : In v11 0 4599229962578006586 := by rw [d11]; exact In_mul (In.const (Fw.of (by decide +kernel))) hw (Fw.of (by decide +kernel)) (Fw.of (by decide +kernel)) (Fw.of (by decide +kernel)) (Fw.of (by decide +kernel)) (Fw.of (by decide +kernel)) (Fw.of (by decide +kernel)) (by decide +kernel) (by decide +kernel) (by decide +kernel) (by decide +kernel) (by decide +kernel) (by decide +kernel) (by decide +kernel) (by decide +kernel)
  have r11 : Er v11 (((1 / 2 : Rat)) * (vq w)) (21203394547 / 618970019642690137449562112 : Rat) := by rw [d11]; exact q_mulE (In.const (Fw.of (by decide +kernel))).1 hw.1 (by rw [← d11]; exact i11.1) (Er.const (show vq 4602678819172646912 = (1 / 2 : Rat) by decide +kernel)) (Er.self w) (A := (1 / 2 : Rat)) (Y := (2779171330050333 / 4503599627370496 : Rat)) ((In.const (Fw.of (by decide +kernel))).bd (by decide +kernel) (by decide +kernel)) (hw.bd (by decide +kernel) (by decide +kernel)) (by decide +kernel)
  obtain ⟨v12, d12⟩ : ∃ v, v = fsub 4607182418800017408 v11 := ⟨_, rfl⟩
  have i12 : In v12 4604403247469967075 4607182418800017408 := by rw [d12]; exact In_sub (In.const (Fw.of (by decide +kernel))) i11 (Fw.of (by decide +kernel)) (Fw.of (by decide +kernel)) (Fw.of (by decide +kernel)) (Fw.of (by decide +kernel)) (by decide +kernel) (by decide +kernel) (Fw.of (by decide +kernel)) (Fw.of (by decide +kernel))
  have r12 : Er v12 ((1 : Rat) - (((1 / 2 : Rat)) * (vq w))) (179845742567 / 1237940039285380274899124224 : Rat) := by rw [d12]; exact q_subE (In.const (Fw.of (by decide +kernel))).1 i11.1 (by rw [← d12]; exact i12.1) (Er.const (show vq 4607182418800017408 = (1 : Rat) by decide +kernel)) r11 (T := (1 : Rat)) (dif_T (In.const (Fw.of (by decide +kernel))) i11 (by decide +kernel) (by decide +kernel)) (by decide +kernel)
  obtain ⟨v13, d13⟩ : ∃ v, v = fmul w w := ⟨_, rfl⟩
  have i13 : In v13 0 4600531726429002162 := by rw [d13]; exact In_sq hw (Fw.of (by decide +kernel)) (Fw.of (by decide +kernel)) (Fw.of (by decide +kernel)) (by decide +kernel) (by decide +kernel)
  have r13 : Er v13 ((vq w) * (vq w)) (13084614775 / 309485009821345068724781056 : Rat) := by rw [d13]; exact q_mulE hw.1 hw.1 (by rw [← d13]; exact i13.1) (Er.self w) (Er.self w) (A := (2779171330050333 / 4503599627370496 : Rat)) (Y := (2779171330050333 / 4503599627370496 : Rat)) (hw.bd (by decide +kernel) (by decide +kernel)) (hw.bd (by decide +kernel) (by decide +kernel)) (by decide +kernel)
  obtain ⟨v14, d14⟩ : ∃ v, v = fmul v13 v10 := ⟨_, rfl⟩
  have i14 : In v14 0 4580230625749154756 := by rw [d14]; exact In_mul i13 i10 (Fw.of (by decide +kernel)) (Fw.of (by decide +kernel)) (Fw.of (by decide +kernel)) (Fw.of (by decide +kernel)) (Fw.of (by decide +kernel)) (Fw.of (by decide +kernel)) (by decide +kernel) (by decide +kernel) (by decide +kernel) (by decide +kernel) (by decide +kernel) (by decide +kernel) (by decide +kernel) (by decide +kernel)
  have r14 : Er v14 (((vq w) * (vq w)) * (((((((-7030593573755547 / 618970019642690137449562112 : Rat)) * (vq w) + (5047434750082821 / 2417851639229258349412352 : Rat)) * (vq w) + (-2602714736764387 / 9444732965739290427392 : Rat)) * (vq w) + (7320136533427445 / 295147905179352825856 : Rat)) * (vq w) + (-6405119470030737 / 4611686018427387904 : Rat)) * (vq w) + (6004799503160651 / 144115188075855872 : Rat))) (6633019689 / 1237940039285380274899124224 : Rat) := by rw [d14]; exact q_mulE i13.1 i10.1 (by rw [← d14]; exact i14.1) r13 r10 (A := (3430053255548121 / 9007199254740992 : Rat)) (Y := (6004799503160651 / 144115188075855872 : Rat)) (i13.bd (by decide +kernel) (by decide +kernel)) (i10.bd (by decide +kernel) (by decide +kernel)) (by decide +kernel)
  obtain ⟨v15, d15⟩ : ∃ v, v = fadd v12 v14 := ⟨_, rfl⟩
  have i15 : In v15 4604403247469967075 4607253878242841327 := by rw [d15]; exact In_add i12 i14 (Fw.of (by decide +kernel)) (Fw.of (by decide +kernel)) (Fw.of (by decide +kernel)) (Fw.of (by decide +kernel)) (by decide +kernel) (by decide +kernel) (Fw.of (by decide +kernel)) (Fw.of (by decide +kernel))
  have r15 : Er v15 ((1 : Rat) - (((1 / 2 : Rat)) * (vq w)) + ((vq w) * (vq w)) * (((((((-7030593573755547 / 618970019642690137449562112 : Rat)) * (vq w) + (5047434750082821 / 2417851639229258349412352 : Rat)) * (vq w) + (-2602714736764387 / 9444732965739290427392 : Rat)) * (vq w) + (7320136533427445 / 295147905179352825856 : Rat)) * (vq w) + (-6405119470030737 / 4611686018427387904 : Rat)) * (vq w) + (6004799503160651 / 144115188075855872 : Rat))) (163049242429 / 618970019642690137449562112 : Rat) := by rw [d15]; exact q_addE i12.1 i14.1 (by rw [← d15]; exact i15.1) r12 r14 (T := (73200945123110641 / 72057594037927936 : Rat)) (sum_T i12 i14 (by decide +kernel) (by decide +kernel)) (by decide +kernel)
  have e : fsub one (fmul 4602678819172646912 w) = v12 := by subst_vars; rfl
  have e' : fmul (fmul w w) (cosS w) = v14 := by subst_vars; rfl
  rw [e, e']
  exact ⟨r12, i12.1, r14, i14.1⟩

set_option maxRecDepth 10000 in
theorem round_ops {s c : Nat} {a b : Rat} (hs : In s 13829383519751676887 4606011482896901079) (hc : In c 4604390187031047700 4607272490792564818) (rs : Er s a (38266923419 / 309485009821345068724781056 : Rat)) (rc : Er c b (163049242429 / 618970019642690137449562112 : Rat)) :
    Er (fsub (fadd (fmul s s) (fmul c c)) 4607182418800017408) (a * a + b * b - 1) (1535196835863 / 1237940039285380274899124224 : Rat) ∧ Fw (fsub (fadd (fmul s s) (fmul c c)) 4607182418800017408) ∧ Fw (fadd (fmul s s) (fmul c c)) := by
  obtain ⟨v1, d1⟩ : ∃ v, v = fmul s s := ⟨_, rfl⟩
  have i1 : In v1 0 4604992768661189873 := by rw [d1]; exact In_sq hs (Fw.of (by decide +kernel)) (Fw.of (by decide +kernel)) (Fw.of (by decide +kernel)) (by decide +kernel) (by decide +kernel)
  have r1 : Er v1 ((a) * (a)) (5786958295 / 19342813113834066795298816 : Rat) := by rw [d1]; exact q_mulE hs.1 hs.1 (by rw [← d1]; exact i1.1) rs rs (A := (7836263351624663 / 9007199254740992 : Rat)) (Y := (7836263351624663 / 9007199254740992 : Rat)) (hs.bd (by decide +kernel) (by decide +kernel)) (hs.bd (by decide +kernel) (by decide +kernel)) (by decide +kernel)
  obtain ⟨v2, d2⟩ : ∃ v, v = fmul c c := ⟨_, rfl⟩
  have i2 : In v2 4602248275048270291 4607364364224963176 := by rw [d2]; exact In_mul hc hc (Fw.of (by decide +kernel)) (Fw.of (by decide +kernel)) (Fw.of (by decide +kernel)) (Fw.of (by decide +kernel)) (Fw.of (by decide +kernel)) (Fw.of (by decide +kernel)) (by decide +kernel) (by decide +kernel) (by decide +kernel) (by decide +kernel) (by decide +kernel) (by decide +kernel) (by decide +kernel) (by decide +kernel)
  have r2 : Er v2 ((b) * (b)) (808232396303 / 1237940039285380274899124224 : Rat) := by rw [d2]; exact q_mulE hc.1 hc.1 (by rw [← d2]; exact i2.1) rc rc (A := (2296835809958953 / 2251799813685248 : Rat)) (Y := (2296835809958953 / 2251799813685248 : Rat)) (hc.bd (by decide +kernel) (by decide +kernel)) (hc.bd (by decide +kernel) (by decide +kernel)) (by decide +kernel)
  obtain ⟨v3, d3⟩ : ∃ v, v = fadd v1 v2 := ⟨_, rfl⟩
  have i3 : In v3 4602248275048270291 4610773138782919904 := by rw [d3]; exact In_add i1 i2 (Fw.of (by decide +kernel)) (Fw.of (by decide +kernel)) (Fw.of (by decide +kernel)) (Fw.of (by decide +kernel)) (by decide +kernel) (by decide +kernel) (Fw.of (by decide +kernel)) (Fw.of (by decide +kernel))
  have r3 : Er v3 ((a) * (a) + (b) * (b)) (1425616758259 / 1237940039285380274899124224 : Rat) := by rw [d3]; exact q_addE i1.1 i2.1 (by rw [← d3]; exact i3.1) r1 r2 (T := (16188639220545985 / 9007199254740992 : Rat)) (sum_T i1 i2 (by decide +kernel) (by decide +kernel)) (by decide +kernel)
  obtain ⟨v4, d4⟩ : ∃ v, v = fsub v3 4607182418800017408 := ⟨_, rfl⟩
  have i4 : In v4 13826266128089611030 4605356659511081408 := by rw [d4]; exact In_sub i3 (In.const (Fw.of (by decide +kernel))) (Fw.of (by decide +kernel)) (Fw.of (by decide +kernel)) (Fw.of (by decide +kernel)) (Fw.of (by decide +kernel)) (by decide +kernel) (by decide +kernel) (Fw.of (by decide +kernel)) (Fw.of (by decide +kernel))
  have r4 : Er v4 ((a) * (a) + (b) * (b) - ((1 : Rat))) (1535196835863 / 1237940039285380274899124224 : Rat) := by rw [d4]; exact q_subE i3.1 (In.const (Fw.of (by decide +kernel))).1 (by rw [← d4]; exact i4.1) r3 (Er.const (show vq 4607182418800017408 = (1 : Rat) by decide +kernel)) (T := (112209999465703 / 140737488355328 : Rat)) (dif_T i3 (In.const (Fw.of (by decide +kernel))) (by decide +kernel) (by decide +kernel)) (by decide +kernel)
  have e : fadd (fmul s s) (fmul c c) = v3 := by subst_vars; rfl
  have e' : fsub v3 4607182418800017408 = v4 := by subst_vars; rfl
  rw [e, e']
  exact ⟨r4, i4.1, i3.1⟩

end Go.Proofs.YtgbdplmpojkklaaDoor

namespace Go.Proofs.YtgbdplmpojkklaaDoor
open Ieee

def psl : List Rat := [(-750599937895081 / 4503599627370496 : Rat), (300239975157629 / 36028797018963968 : Rat), (-7320136532877059 / 36893488147419103232 : Rat), (6506786710177953 / 2361183241434822606848 : Rat), (-7571123942793053 / 302231454903657293676544 : Rat), (6149556183080141 / 38685626227668133590597632 : Rat)]
def pcl : List Rat := [(6004799503160651 / 144115188075855872 : Rat), (-6405119470030737 / 4611686018427387904 : Rat), (7320136533427445 / 295147905179352825856 : Rat), (-2602714736764387 / 9444732965739290427392 : Rat), (5047434750082821 / 2417851639229258349412352 : Rat), (-7030593573755547 / 618970019642690137449562112 : Rat)]
theorem psl_eq (X : Rat) : pev psl X = pS X := by
  unfold psl pS; simp only [pev]; grind
theorem pcl_eq (X : Rat) : pev pcl X = pC X := by
  unfold pcl pC; simp only [pev]; grind
def s1l : List Rat := 1 :: psl
def c1l : List Rat := 1 :: (-1 / 2) :: pcl
theorem s1l_eq (X : Rat) : pev s1l X = 1 + X * pS X := by unfold s1l; simp only [pev]; rw [psl_eq]
theorem c1l_eq (X : Rat) : pev c1l X = 1 + X * (-1 / 2 + X * pC X) := by unfold c1l; simp only [pev]; rw [pcl_eq]
def rnd : List Rat := padd (pmul [0, 1] (pmul s1l s1l)) (padd (pmul c1l c1l) [-1])
theorem rnd_eq (X : Rat) : pev rnd X = X * ((1 + X * pS X) * (1 + X * pS X)) + (1 + X * (-1 / 2 + X * pC X)) * (1 + X * (-1 / 2 + X * pC X)) - 1 := by
  unfold rnd
  rw [pev_add, pev_mul, pev_mul, pev_add, pev_mul, s1l_eq, c1l_eq]
  simp only [pev]
  grind
theorem rnd_bound {X : Rat} (h0 : 0 ≤ X) (h1 : X ≤ 6172 / 10000) : -(1 / 2 ^ 55) ≤ pev rnd X ∧ pev rnd X ≤ 1 / 2 ^ 55 :=
  pieces_bound (h := 6172 / 160000) 8 (by decide +kernel) h0 (by rw [show (2 : Rat) * ((8 : Nat) : Rat) * (6172 / 160000) = 6172 / 10000 by decide +kernel]; exact h1) (by decide)
theorem s1_bound {X : Rat} (h0 : 0 ≤ X) (h1 : X ≤ 6172 / 10000) : -(101 / 100) ≤ 1 + X * pS X ∧ 1 + X * pS X ≤ 101 / 100 := by
  rw [← s1l_eq]
  exact pieces_bound (h := 6172 / 320000) 16 (by decide +kernel) h0 (by rw [show (2 : Rat) * ((16 : Nat) : Rat) * (6172 / 320000) = 6172 / 10000 by decide +kernel]; exact h1) (by decide)
theorem pC_bound {X : Rat} (h0 : 0 ≤ X) (h1 : X ≤ 6172 / 10000) : -(1 / 20) ≤ pC X ∧ pC X ≤ 1 / 20 := by
  rw [← pcl_eq]
  exact pieces_bound (h := 6172 / 80000) 4 (by decide +kernel) h0 (by rw [show (2 : Rat) * ((4 : Nat) : Rat) * (6172 / 80000) = 6172 / 10000 by decide +kernel]; exact h1) (by decide)

end Go.Proofs.YtgbdplmpojkklaaDoor

namespace Go.Proofs.YtgbdplmpojkklaaDoor
open Ieee

theorem RnS.exact2 {x : Nat} (h : Fw x) : RnS (Go.Proofs.YtgbdplmpojkklaaDoor.sv x) 1 x := by
  obtain ⟨s, r, hr, rfl⟩ := h
  have hI := INF_lt_SGN
  rw [sv_word s r (by omega)]
  refine ⟨s, r, rfl, ?_, ?_, ?_⟩
  · have e : (SV s r).natAbs = V r := by cases s <;> simp [SV]
    rw [e]; exact Rn.exact r (by omega)
  · cases s
    · intro hz; simp [SV] at hz; omega
    · intro _; rfl
  · cases s
    · intro _; rfl
    · intro hz; simp [SV] at hz; omega
theorem sv_fin {x : Nat} (h : x < INF) : sv x = (V x : Int) := sv_word false x (Nat.lt_trans h INF_lt_SGN)
theorem sq_in {z : Nat} (hz : In z 13828622411414651273 4605250374559875465) : In (fmul z z) 0 4603733562205377082 := In_sq hz (Fw.of (by decide +kernel)) (Fw.of (by decide +kernel)) (Fw.of (by decide +kernel)) (by decide +kernel) (by decide +kernel)
theorem sq_er {z : Nat} (hz : In z 13828622411414651273 4605250374559875465) : Er (fmul z z) (vq z * vq z) ((491 / 625 : Rat) * (491 / 625 : Rat) * uq + hq) := by
  have hb : Bd z (491 / 625 : Rat) := hz.bd (by decide +kernel) (by decide +kernel)
  have h := prod_abs hb hb
  exact q_mul hz.1 hz.1 (sq_in hz).1 h.1 h.2

theorem rnd_lin {Z X p c a b : Rat} (ha : a = Z + Z * X * p) (hb : b = (1 - 1 / 2 * X) + X * X * c) : a * a + b * b - 1 = (X * ((1 + X * p) * (1 + X * p)) + (1 + X * (-1 / 2 + X * c)) * (1 + X * (-1 / 2 + X * c)) - 1) + (Z * Z - X) * ((1 + X * p) * (1 + X * p)) := by
  subst ha hb; grind
theorem rnd_fin {v e F d E : Rat} (hv : e - E ≤ v ∧ v ≤ e + E) (he : e = F + d) (hF : -(1 / 2 ^ 55) ≤ F ∧ F ≤ 1 / 2 ^ 55) (hd : -(1 / 2 ^ 52) ≤ d ∧ d ≤ 1 / 2 ^ 52) (hE : E + 1 / 2 ^ 55 + 1 / 2 ^ 52 ≤ 1 / 2 ^ 48) : -(1 / 2 ^ 48) ≤ v ∧ v ≤ 1 / 2 ^ 48 := by
  constructor <;> grind

theorem round_core {z : Nat} (hz : In z 13828622411414651273 4605250374559875465) : Bd (fsub (fadd (fmul (sinP z) (sinP z)) (fmul (cosP z) (cosP z))) 4607182418800017408) (1 / 2 ^ 48) ∧ Fw (fsub (fadd (fmul (sinP z) (sinP z)) (fmul (cosP z) (cosP z))) 4607182418800017408) := by
  have hw := sq_in hz
  have hX := hw.qb (l := 0) (u := 6172 / 10000) (by decide +kernel) (by decide +kernel)
  have rw_ := (sq_er hz).weak (e' := 1 / 2 ^ 53) (by decide +kernel)
  obtain ⟨rs, _⟩ := sin_er hz hw
  obtain ⟨rc, _⟩ := cos_er hw
  obtain ⟨h, f1, _⟩ := round_ops (sinP_in hz) (cosP_in hz) rs rc
  refine ⟨?_, f1⟩
  have b1 := s1_bound hX.1 hX.2
  have b2 := prod_abs b1 b1
  have b3 := prod_abs (show -(1 / 2 ^ 53) ≤ vq z * vq z - vq (fmul z z) ∧ vq z * vq z - vq (fmul z z) ≤ 1 / 2 ^ 53 by
    unfold Er at rw_
    generalize vq (fmul z z) = X at *
    generalize vq z * vq z = Y at *
    clear h rs rc b1 b2
    constructor <;> grind) b2
  have hF := rnd_bound hX.1 hX.2
  rw [rnd_eq] at hF
  exact rnd_fin h (rnd_lin rfl rfl) hF ⟨Rat.le_trans (by decide +kernel) b3.1, Rat.le_trans b3.2 (by decide +kernel)⟩ (by decide +kernel)

theorem one_lin {X A M p ea em : Rat} (hA : A ≤ (1 - 1 / 2 * X) + ea) (hM : M ≤ X * X * p + em) (h0 : 0 ≤ X) (h1 : X ≤ 6172 / 10000) (hp : p ≤ 1 / 20) (hX : 1 / 2 ^ 51 ≤ X) (he : ea + em ≤ 3 / 2 ^ 54) : A + M ≤ 1 := by
  have m0 := Rat.mul_nonneg h0 h0
  have m1 := Rat.mul_le_mul_of_nonneg_right hp m0
  have m2 := Rat.mul_le_mul_of_nonneg_right h1 h0
  have e1 : X * X * p = p * (X * X) := by grind
  rw [e1] at hM
  grind
def W51 : Nat := 4377498837804122112
theorem cosP_one {z : Nat} (hz : In z 13828622411414651273 4605250374559875465) : cosP z ≤ ONE := by
  have hO := ONE_lt
  have hw := sq_in hz
  have hX := hw.qb (l := 0) (u := 6172 / 10000) (by decide +kernel) (by decide +kernel)
  obtain ⟨c1, c2⟩ := (cosP_in hz).pos (by decide) (by decide) (by decide)
  have hcI : cosP z < INF := Nat.lt_of_le_of_lt c2 (by decide)
  obtain ⟨ra, fa, rm, fm⟩ := cos_parts hw
  -- the square is a positive word
  obtain ⟨s, r, hr, rfl⟩ := hz.1
  have ew : fmul (double.word s r) (double.word s r) = fmul r r := by
    rw [fmul_word s s hr hr]; cases s <;> rfl
  have hwI : fmul r r < INF := by
    obtain ⟨t, q, hq, e⟩ := hw.1
    rw [ew] at e
    have := fmul_le_INF hr hr
    have hI := INF_lt_SGN
    by_cases hh : fmul r r < INF
    · exact hh
    · have h2 : fmul r r = INF := by omega
      rw [h2] at e
      exfalso
      cases t
      · rw [word_false] at e; omega
      · rw [word_true] at e; omega
  by_cases hc : 1 / 2 ^ 51 ≤ vq (fmul (double.word s r) (double.word s r))
  · have pb := pC_bound hX.1 hX.2
    have hs : vq (fsub one (fmul 4602678819172646912 (fmul (double.word s r) (double.word s r)))) + vq (fmul (fmul (fmul (double.word s r) (double.word s r)) (fmul (double.word s r) (double.word s r))) (cosS (fmul (double.word s r) (double.word s r)))) ≤ 1 :=
      one_lin ra.2 rm.2 hX.1 hX.2 pb.2 hc (by decide +kernel)
    have e1 : vq ONE = 1 := by decide +kernel
    have hU := Uq_pos
    have hs2 := Rat.mul_le_mul_of_nonneg_right hs (show 0 ≤ Uq by grind)
    have hs3 : ((sv (fsub one (fmul 4602678819172646912 (fmul (double.word s r) (double.word s r)))) + sv (fmul (fmul (fmul (double.word s r) (double.word s r)) (fmul (double.word s r) (double.word s r))) (cosS (fmul (double.word s r) (double.word s r)))) : Int) : Rat) ≤ ((sv ONE : Int) : Rat) := by
      rw [Rat.intCast_add, svq, svq, svq, e1]
      generalize vq (fsub one (fmul 4602678819172646912 (fmul (double.word s r) (double.word s r)))) = A at *
      generalize vq (fmul (fmul (fmul (double.word s r) (double.word s r)) (fmul (double.word s r) (double.word s r))) (cosS (fmul (double.word s r) (double.word s r)))) = M at *
      clear hs ra rm pb
      grind
    have hs4 := Rat.intCast_le_intCast.1 hs3
    have hm := (fadd_RnS fa fm).mono (RnS.exact2 (x := ONE) ⟨false, ONE, hO, rfl⟩) (by omega)
    have hm' : sv (cosP (double.word s r)) ≤ sv ONE := hm
    rw [sv_fin hcI, sv_fin hO] at hm'
    exact V_le_iff.1 (Int.ofNat_le.1 hm')
  · have hlt : fmul r r ≤ W51 := by
      have h1 : vq (fmul r r) ≤ vq W51 := by
        rw [ew] at hc
        have e1 : vq W51 = 1 / 2 ^ 51 := by decide +kernel
        rw [e1]; grind
      have h2 := vq_le_inv h1
      have hWI : W51 < INF := by decide
      rw [sv_fin hwI, sv_fin hWI] at h2
      exact V_le_iff.1 (Int.ofNat_le.1 h2)
    unfold cosP
    rw [ew, one_eq]
    rw [ew] at hw
    have hWI : W51 < INF := by decide
    obtain ⟨k1, k2⟩ := (cosS_in (hw.mono (by decide +kernel) (by decide +kernel))).pos (by decide) (by decide) (by decide)
    have h1 : fmul HALF (fmul r r) ≤ ONE := Nat.le_trans (fmul_mono (by decide) hWI (Nat.le_refl _) hlt) (by decide +kernel)
    have h2 : fsub ONE (fmul HALF (fmul r r)) ≤ ONE := fsub_le hO h1
    have h3 : fmul (fmul r r) (fmul r r) ≤ fmul W51 W51 := fmul_mono hWI hWI hlt hlt
    have h4 : fmul (fmul (fmul r r) (fmul r r)) (cosS (fmul r r)) ≤ fmul (fmul W51 W51) 4586213658934980379 := fmul_mono (by decide +kernel) (by decide) h3 k2
    exact Nat.le_trans (fadd_mono hO (by decide +kernel) h2 h4) (by decide +kernel)

end Go.Proofs.YtgbdplmpojkklaaDoor

namespace Go.Proofs.YtgbdplmpojkklaaDoor
open Ieee

theorem rng {v : Nat} (h : In v 13830554455654793216 4607182418800017408) : fge v 13830554455654793216 = true ∧ fle v one = true := by
  obtain ⟨⟨s, r, hr, rfl⟩, h1, h2⟩ := h
  have hI := INF_lt_SGN
  have hO := ONE_lt
  have e1 : sv 13830554455654793216 = SV true ONE := by rw [oneN_eq]; exact sv_word true ONE (by omega)
  have e2 : sv 4607182418800017408 = SV false ONE := sv_word false ONE (by omega)
  rw [sv_word s r (by omega), e1] at h1
  rw [sv_word s r (by omega), e2] at h2
  have a := fge_word s true r ONE (by omega) (by omega)
  have b := fle_word s false r ONE (by omega) (by omega)
  rw [← oneN_eq] at a
  rw [word_false] at b
  rw [a, one_eq, b]
  exact ⟨decide_eq_true h1, decide_eq_true h2⟩
theorem In.fneg1 {v : Nat} (h : In v 13830554455654793216 4607182418800017408) : In (fneg v) 13830554455654793216 4607182418800017408 := by
  have e : sv 13830554455654793216 = -(sv 4607182418800017408) := by decide +kernel
  obtain ⟨f, h1, h2⟩ := h
  refine ⟨f.neg, ?_, ?_⟩
  · rw [sv_fneg f]; omega
  · rw [sv_fneg f]; omega
theorem In.negIf1 {v : Nat} (b : Bool) (h : In v 13830554455654793216 4607182418800017408) : In (negIf b v) 13830554455654793216 4607182418800017408 := by
  cases b
  · exact h
  · exact h.fneg1
theorem sq_neg {v : Nat} (b : Bool) (h : Fw v) : fmul (negIf b v) (negIf b v) = fmul v v := by
  cases b
  · rfl
  · obtain ⟨s, r, hr, rfl⟩ := h
    show fmul (fneg (double.word s r)) (fneg (double.word s r)) = _
    rw [fneg_word s r (by have := INF_lt_SGN; omega), fmul_word _ _ hr hr, fmul_word _ _ hr hr]
    cases s <;> rfl
theorem sq_word {v : Nat} (h : Fw v) (hf : Fw (fmul v v)) : ∃ q, q < INF ∧ fmul v v = q := by
  obtain ⟨s, r, hr, rfl⟩ := h
  have e : fmul (double.word s r) (double.word s r) = fmul r r := by
    rw [fmul_word s s hr hr]; cases s <;> rfl
  rw [e] at hf ⊢
  refine ⟨_, ?_, rfl⟩
  obtain ⟨t, q, hq, e2⟩ := hf
  have := fmul_le_INF hr hr
  have hI := INF_lt_SGN
  by_cases hh : fmul r r < INF
  · exact hh
  · have h2 : fmul r r = INF := by omega
    rw [h2] at e2
    exfalso
    cases t
    · rw [word_false] at e2; omega
    · rw [word_true] at e2; omega
theorem near_one {y : Nat} (f : Fw y) (h : Bd y (1 / 2 ^ 48)) : fle (sizeF y) (fmul (sizeF one) 4391009636686233600) = true := by
  obtain ⟨s, r, hr, rfl⟩ := f
  have hI := INF_lt_SGN
  have e1 : fmul (sizeF one) 4391009636686233600 = 4391009636686233600 := by decide +kernel
  rw [sizeF_word s r (by omega), e1]
  have hv : vq r ≤ vq 4391009636686233600 := by
    have e2 : vq 4391009636686233600 = 1 / 2 ^ 48 := by decide +kernel
    rw [e2]
    cases s
    · exact h.2
    · have e3 : vq (double.word true r) = -vq r := by
        have h1 : sv (double.word true r) = -(sv r) := by
          rw [sv_word true r (by omega), sv_fin hr]; rfl
        unfold vq; rw [h1, Rat.intCast_neg]; grind
      have := h.1
      rw [e3] at this; grind
  have h2 := vq_le_inv hv
  rw [sv_fin hr, sv_fin (show 4391009636686233600 < INF by decide)] at h2
  have h3 := V_le_iff.1 (Int.ofNat_le.1 h2)
  have e := fle_pos false r 4391009636686233600 (by omega) (by decide)
  rw [word_false] at e
  rw [e]; simp; exact h3

theorem round_plain (x : Nat) (h : x < 18446744073709551616) : roundF x = true := by
  unfold roundF
  rcases word_cases x h with hn | ⟨s, r, hr, rfl, hn⟩
  · rw [isFiniteF_nan hn]; rfl
  · rw [isFiniteF_word s r hr]
    by_cases hf : r < INF
    · simp only [hf, decide_true, Bool.not_true, Bool.false_eq_true, if_false]
      by_cases h0 : r = 0
      · subst h0
        have e : cosR 0 = ONE := by
          obtain ⟨j, z, _⟩ := near_red (r := 0) (by decide)
          unfold cosR; rw [j, z]
          simp [negIf, near_cosP (r := 0) (by decide)]
        rw [cosF_word _ hf, e]
        cases s <;> decide +kernel
      · rw [sinF_word s hf h0, cosF_word s hf]
        have hz := redZ_in hf
        have hS : In (sinP (redZ r)) 13830554455654793216 4607182418800017408 := (sinP_in hz).mono (by decide +kernel) (by decide +kernel)
        have hC : In (cosP (redZ r)) 13830554455654793216 4607182418800017408 := by
          obtain ⟨c1, c2⟩ := (cosP_in hz).pos (by decide) (by decide) (by decide)
          have i := In.ofPos2 c1 (cosP_one hz) (show ONE < INF by decide)
          exact i.mono (by decide +kernel) (Int.le_refl _)
        obtain ⟨k1, k2⟩ := round_core hz
        have fSS : Fw (fmul (sinP (redZ r)) (sinP (redZ r))) := (In_sq hS (Fw.of (by decide +kernel)) (Fw.of (by decide +kernel)) (Fw.of (show fwB 4607182418800017408 = true by decide +kernel)) (by decide +kernel) (by decide +kernel)).1
        have fCC : Fw (fmul (cosP (redZ r)) (cosP (redZ r))) := (In_sq hC (Fw.of (by decide +kernel)) (Fw.of (by decide +kernel)) (Fw.of (show fwB 4607182418800017408 = true by decide +kernel)) (by decide +kernel) (by decide +kernel)).1
        obtain ⟨qs, hqs, es⟩ := sq_word hS.1 fSS
        obtain ⟨qc, hqc, ec⟩ := sq_word hC.1 fCC
        have hcomm : fadd (fmul (cosP (redZ r)) (cosP (redZ r))) (fmul (sinP (redZ r)) (sinP (redZ r))) = fadd (fmul (sinP (redZ r)) (sinP (redZ r))) (fmul (cosP (redZ r)) (cosP (redZ r))) := by
          rw [es, ec]
          have := fadd_comm false false hqc hqs
          rw [word_false, word_false] at this; exact this
        have hnear : nearF (fadd (fmul (sinP (redZ r)) (sinP (redZ r))) (fmul (cosP (redZ r)) (cosP (redZ r)))) one 4391009636686233600 = true := near_one k2 k1
        unfold sinR cosR
        by_cases hj : redJ r % 4 = 2
        · rw [if_pos hj, if_pos hj, sq_neg _ hC.1, sq_neg _ hS.1, hcomm, hnear, (rng (hC.negIf1 _)).1, (rng (hC.negIf1 _)).2, (rng (hS.negIf1 _)).1, (rng (hS.negIf1 _)).2]; rfl
        · rw [if_neg hj, if_neg hj, sq_neg _ hC.1, sq_neg _ hS.1, hnear, (rng (hC.negIf1 _)).1, (rng (hC.negIf1 _)).2, (rng (hS.negIf1 _)).1, (rng (hS.negIf1 _)).2]; rfl
    · simp [hf]

end Go.Proofs.YtgbdplmpojkklaaDoor

namespace Go.Proofs.YtgbdplmpojkklaaDoor
open Ieee

theorem exact_Rn {m p r : Nat} (hm : m < 2 * B) (hp : p ≤ 1051) (h : Rn (m * 2 ^ p) 1 r) : V r = m * 2 ^ p ∧ r < INF := by
  obtain ⟨q, hq, hb⟩ := repr_of m p hm
  have hI : q < INF := by
    have hB : B = 4503599627370496 := rfl
    have hIe : INF = 9218868437227405312 := rfl
    have := Nat.mul_le_mul_right B hp
    omega
  have : r = q := h.unique (Rn.exact q (by omega)) (by rw [hq])
  rw [this]; exact ⟨hq, hI⟩
theorem exact_RnS {a : Int} {p y : Nat} (h : RnS (a * (2 : Int) ^ p) 1 y) (hm : a.natAbs < 2 * B) (hp : p ≤ 1051) : sv y = a * (2 : Int) ^ p ∧ Fw y := by
  obtain ⟨s, r, rfl, hr, h1, h2⟩ := h
  have hI := INF_lt_SGN
  rw [natAbs_mul_pow] at hr
  obtain ⟨e, f⟩ := exact_Rn hm hp hr
  refine ⟨?_, s, r, f, rfl⟩
  rw [sv_word s r (by omega)]
  have hpw : (0 : Int) < 2 ^ p := Int.pow_pos (by decide)
  have ev : ((V r : Nat) : Int) = (a.natAbs : Int) * 2 ^ p := by rw [e]; simp
  rcases Int.lt_trichotomy a 0 with ha | ha | ha
  · have hz : a * (2 : Int) ^ p < 0 := Int.mul_neg_of_neg_of_pos ha hpw
    rw [h1 hz, SV_true, ev, show (a.natAbs : Int) = -a by omega, Int.neg_mul]; omega
  · subst ha
    have hz : V r = 0 := by rw [e]; simp
    have h0 : SV s r = 0 := by cases s <;> simp [SV, hz]
    rw [h0]; simp
  · have hz : 0 < a * (2 : Int) ^ p := Int.mul_pos ha hpw
    rw [h2 hz, SV_false, ev, show (a.natAbs : Int) = a by omega]

def e21 : Nat := 1021
def eA : Nat := 1051
def eB : Nat := 1029
def eC : Nat := 977
/-- The parts of Pi/4, in units. -/
def Vc : Nat := 427063790847255 * 2 ^ eC
def Tq : Nat := 6588397 * 2 ^ eA + 1328173 * 2 ^ eB + Vc
theorem V_A : V 4605249456957292544 = 6588397 * 2 ^ eA := by decide +kernel
theorem V_B : V 4495793288086814720 = 1328173 * 2 ^ eB := by decide +kernel
theorem V_C : V 4388835458085048688 = Vc := by decide +kernel
theorem Tq_q : (Tq : Rat) = (124451306656115542615260972311 / 158456325028528675187087900672 : Rat) * Uq := by decide +kernel

theorem small_int {r : Nat} (h : r < TH29) : 100000 * (smN r * Tq) ≤ 100000 * V r + 78541 * U ∧ 100000 * V r ≤ 100000 * (smN r * Tq) + 78541 * U := by
  obtain ⟨_, k1, k2⟩ := small_bound h
  have hr : r < INF := Nat.lt_trans h (by decide)
  have hU := Uq_pos
  have ev : (V r : Rat) = vq r * Uq := by rw [vq_nat hr]; grind
  have m1 := Rat.mul_le_mul_of_nonneg_right k1 (show 0 ≤ Uq by grind)
  have m2 := Rat.mul_le_mul_of_nonneg_right k2 (show 0 ≤ Uq by grind)
  have e1 : (vq r - (smN r : Rat) * (124451306656115542615260972311 / 158456325028528675187087900672 : Rat)) * Uq = (V r : Rat) - (smN r : Rat) * (Tq : Rat) := by rw [Tq_q, ev]; grind
  rw [e1] at m1 m2
  have eU : (U : Rat) = Uq := rfl
  have c1 : ((100000 : Nat) : Rat) = 100000 := rfl
  have c2 : ((78541 : Nat) : Rat) = 78541 := rfl
  constructor
  · refine Rat.natCast_le_natCast.1 ?_
    simp only [Rat.natCast_mul, Rat.natCast_add]
    rw [eU, c1, c2]
    generalize (V r : Rat) = v at *
    generalize (smN r : Rat) * (Tq : Rat) = t at *
    generalize Uq = u at *
    clear ev k1 k2 e1
    grind
  · refine Rat.natCast_le_natCast.1 ?_
    simp only [Rat.natCast_mul, Rat.natCast_add]
    rw [eU, c1, c2]
    generalize (V r : Rat) = v at *
    generalize (smN r : Rat) * (Tq : Rat) = t at *
    generalize Uq = u at *
    clear ev k1 k2 e1
    grind

-- THE CERTIFICATES
def certs : List (Nat × Nat) := [(127336279536511925, 9), (28296951008113761, 4), (24759832132099541, 7), (24759832132099541, 14), (25644111851103096, 29), (2526829297052658511, 5715), (2533240325015434285, 11459), (2536445838996822172, 22947), (1268222919498411086, 22947), (634111459749205543, 22947), (315452972883908828, 22831), (157726486441954414, 22831), (78863243220977207, 22831), (37828864619794660, 21903), (18914432309897330, 21903), (69406027066028542, 160745), (34703013533014271, 160745), (22080114843981468, 204551), (34703013533014271, 642980), (34703013533014271, 1285960), (14591492411009452, 1081409), (27407267327509545, 4062431), (31055140430261908, 9206271), (15527570215130954, 9206271), (919774515795478649, 1090665614), (456005365343956586, 1081459343), (228002682671978293, 1081459343), (110119448782206408, 1044634259), (55059724391103204, 1044634259), (27529862195551602, 1044634259)]
def certOk (i : Nat) (c : Nat × Nat) : Bool :=
  Nat.gcd c.1 c.2 == 1 && decide (2 ^ i + 1 < c.2) &&
  decide (2 ^ 53 * ((2 ^ i + 1) * (((c.1 : Int) * 2 ^ (e21 + i) - 2 * (Tq : Int) * c.2).natAbs)) + c.2 * (2 * (2 ^ i + 1) * Vc + 2 ^ 52) < 2 ^ 53 * 2 ^ (e21 + i))
theorem certs_ok : ∀ i, i < 30 → certOk i (certs.getD i (0, 0)) = true := by decide +kernel

theorem apart_aux {k n p q P T : Nat} (h : (k : Int) * q - n * p ≠ 0) : P ≤ q * ((k : Int) * (P : Int) - 2 * (n : Int) * T).natAbs + n * ((p : Int) * (P : Int) - 2 * (T : Int) * q).natAbs := by
  have id1 : (P : Int) * ((k : Int) * q - n * p) = (q : Int) * ((k : Int) * (P : Int) - 2 * (n : Int) * T) + -((n : Int) * ((p : Int) * (P : Int) - 2 * (T : Int) * q)) := by grind
  have h1 := congrArg Int.natAbs id1
  rw [Int.natAbs_mul, Int.natAbs_natCast] at h1
  have h2 := Int.natAbs_add_le ((q : Int) * ((k : Int) * (P : Int) - 2 * (n : Int) * T)) (-((n : Int) * ((p : Int) * (P : Int) - 2 * (T : Int) * q)))
  rw [← h1, Int.natAbs_neg, Int.natAbs_mul, Int.natAbs_mul, Int.natAbs_natCast, Int.natAbs_natCast] at h2
  have h3 : 1 ≤ ((k : Int) * q - n * p).natAbs := by omega
  have h4 := Nat.mul_le_mul_left P h3
  omega
/-- No multiple of Pi/2 (as the program has it) is so near a number of the format. -/
theorem apart {i n k : Nat} (hi : i < 30) (hn : 0 < n) (hN : n ≤ 2 ^ i + 1) : (2 * n * Vc + 2 ^ 52 : Nat) < 2 ^ 53 * (((k : Int) * 2 ^ (e21 + i) - 2 * (n : Int) * Tq).natAbs) := by
  have hc := certs_ok i hi
  generalize certs.getD i (0, 0) = c at hc
  obtain ⟨p, q⟩ := c
  simp only [certOk, Bool.and_eq_true, beq_iff_eq, decide_eq_true_eq] at hc
  obtain ⟨⟨hg, hq⟩, hx⟩ := hc
  by_cases hh : (2 * n * Vc + 2 ^ 52 : Nat) < 2 ^ 53 * (((k : Int) * 2 ^ (e21 + i) - 2 * (n : Int) * Tq).natAbs)
  · exact hh
  · exfalso
    have hle : 2 ^ 53 * (((k : Int) * 2 ^ (e21 + i) - 2 * (n : Int) * Tq).natAbs) ≤ 2 * n * Vc + 2 ^ 52 := by omega
    have hne : (k : Int) * q - n * p ≠ 0 := by
      intro he
      have he2 : k * q = n * p := by
        have : (k : Int) * q = n * p := by omega
        exact_mod_cast this
      have hd : q ∣ n := by
        have h1 : q ∣ n * p := ⟨k, by rw [← he2, Nat.mul_comm]⟩
        exact (Nat.Coprime.dvd_of_dvd_mul_right (by rw [Nat.Coprime, Nat.gcd_comm]; exact hg) h1)
      have := Nat.le_of_dvd hn hd
      omega
    have hPn : ((2 ^ (e21 + i) : Nat) : Int) = (2 : Int) ^ (e21 + i) := by simp
    have key := apart_aux hne (P := 2 ^ (e21 + i)) (T := Tq) (k := k) (n := n) (p := p) (q := q)
    rw [hPn] at key
    generalize ((k : Int) * 2 ^ (e21 + i) - 2 * (n : Int) * Tq).natAbs = x at *
    generalize ((p : Int) * 2 ^ (e21 + i) - 2 * (Tq : Int) * q).natAbs = w at *
    generalize (2 : Nat) ^ (e21 + i) = P at *
    generalize Vc = vc at *
    generalize hm : (2 : Nat) ^ i + 1 = M at *
    have a1 : 2 ^ 53 * P ≤ 2 ^ 53 * (q * x + n * w) := Nat.mul_le_mul_left _ key
    have a2 : q * (2 ^ 53 * x) ≤ q * (2 * n * vc + 2 ^ 52) := Nat.mul_le_mul_left q hle
    have a3 : q * (2 * n * vc + 2 ^ 52) ≤ q * (2 * M * vc + 2 ^ 52) := Nat.mul_le_mul_left q (Nat.add_le_add_right (Nat.mul_le_mul_right _ (Nat.mul_le_mul_left 2 hN)) _)
    have a4 : n * w ≤ M * w := Nat.mul_le_mul_right w hN
    have a5 : 2 ^ 53 * (q * x + n * w) = q * (2 ^ 53 * x) + 2 ^ 53 * (n * w) := by rw [Nat.mul_add, Nat.mul_left_comm]
    have a6 : 2 ^ 53 * (n * w) ≤ 2 ^ 53 * (M * w) := Nat.mul_le_mul_left _ a4
    omega

-- THE EXACT STEPS
theorem nab {a : Int} {g : Nat} (h : (a * (2 : Int) ^ g).natAbs < 2 * B * 2 ^ g) : a.natAbs < 2 * B := by
  rw [natAbs_mul_pow] at h
  exact Nat.lt_of_mul_lt_mul_right h
theorem split_pow (m a b : Nat) (h : b ≤ a) : ((m * 2 ^ a : Nat) : Int) = (m * 2 ^ (a - b) : Nat) * (2 : Int) ^ b := by
  have : m * 2 ^ a = m * 2 ^ (a - b) * 2 ^ b := by rw [Nat.mul_assoc, ← Nat.pow_add]; congr 2; omega
  rw [this]; simp
theorem U_pl {p : Nat} (h : 1021 ≤ p) : U ≤ 2 * B * 2 ^ p := by
  have h1 : (2 : Nat) ^ e21 ≤ 2 ^ p := Nat.pow_le_pow_right (by decide) h
  have h2 : 2 * B * 2 ^ e21 = U := by decide +kernel
  rw [← h2]; exact Nat.mul_le_mul_left _ h1
theorem mul_exact {n m e c : Nat} (hc : c < INF) (hn : n ≤ 1073741824) (hV : V c = m * 2 ^ e) (hm : n * m < 2 * B) (he : e ≤ 1051) : V (fmul (fi n) c) = n * (m * 2 ^ e) ∧ fmul (fi n) c < INF := by
  obtain ⟨vy, fy⟩ := fi_V (m := n) (by omega)
  have h := (fmul_Rn fy hc).congr (d' := 1) (n' := n * m * 2 ^ e) Nat.one_pos (by rw [vy, hV]; generalize (2 : Nat) ^ e = x; generalize U = u; rw [Nat.mul_one, Nat.mul_assoc n m x, Nat.mul_assoc, Nat.mul_comm u, ← Nat.mul_assoc])
  obtain ⟨a, b⟩ := exact_Rn hm he h
  exact ⟨by rw [a, Nat.mul_assoc], b⟩
theorem smN_even (r : Nat) : smN r % 2 = 0 := by
  unfold smN; rw [uand1]; split <;> omega

theorem int_bounds {v w t d u : Nat} (h1 : 100000 * t ≤ 100000 * v + 78541 * u) (h2 : 100000 * v ≤ 100000 * t + 78541 * u) (hw : w + d = t) (hu : 0 < u) (hd : 100 * d ≤ u) : -(u : Int) < (v : Int) - w ∧ (v : Int) - w < u := by omega
theorem int_bounds1 {v w t u : Nat} (h1 : 100000 * t ≤ 100000 * v + 78541 * u) (hw : w ≤ t) (hu : 0 < u) : -(u : Int) < (v : Int) - w := by omega

set_option maxRecDepth 10000 in
theorem w3_exact {r : Nat} (h : r < TH29) (hp : 1021 ≤ pl r) :
    sv (fsub (fsub r (fmul (fi (smN r)) 4605249456957292544)) (fmul (fi (smN r)) 4495793288086814720)) = (V r : Int) - ((smN r * (6588397 * 2 ^ eA) + smN r * (1328173 * 2 ^ eB) : Nat) : Int) ∧ Fw (fsub (fsub r (fmul (fi (smN r)) 4605249456957292544)) (fmul (fi (smN r)) 4495793288086814720)) := by
  have hr : r < INF := Nat.lt_trans h (by decide)
  obtain ⟨hn, _⟩ := small_bound h
  obtain ⟨i1, i2⟩ := small_int h
  have hB : B = 4503599627370496 := rfl
  obtain ⟨a1, a2⟩ := mul_exact (n := smN r) (c := 4605249456957292544) (by decide) hn V_A (by omega) (by decide)
  obtain ⟨b1, b2⟩ := mul_exact (n := smN r) (c := 4495793288086814720) (by decide) hn V_B (by omega) (by decide)
  have hpu : pl r ≤ 1050 := by
    have : TH29 = 4737786807993761792 := rfl
    unfold pl; rw [hB]; omega
  have hfr : Fw r := ⟨false, r, hr, (word_false _).symm⟩
  have hf0 : Fw (fmul (fi (smN r)) 4605249456957292544) := ⟨false, _, a2, (word_false _).symm⟩
  have hf2 : Fw (fmul (fi (smN r)) 4495793288086814720) := ⟨false, _, b2, (word_false _).symm⟩
  have sr : sv r = (V r : Int) := sv_word false r (Nat.lt_trans hr INF_lt_SGN)
  have s0 : sv (fmul (fi (smN r)) 4605249456957292544) = ((smN r * (6588397 * 2 ^ eA) : Nat) : Int) := by
    rw [show sv (fmul (fi (smN r)) 4605249456957292544) = (V (fmul (fi (smN r)) 4605249456957292544) : Int) from sv_word false _ (Nat.lt_trans a2 INF_lt_SGN), a1]
  have s2 : sv (fmul (fi (smN r)) 4495793288086814720) = ((smN r * (1328173 * 2 ^ eB) : Nat) : Int) := by
    rw [show sv (fmul (fi (smN r)) 4495793288086814720) = (V (fmul (fi (smN r)) 4495793288086814720) : Int) from sv_word false _ (Nat.lt_trans b2 INF_lt_SGN), b1]
  have hmg := mg_lt r
  have hVr := V_eq r
  have hU := U_pl hp
  have hT : smN r * Tq = smN r * (6588397 * 2 ^ eA) + smN r * (1328173 * 2 ^ eB) + smN r * Vc := by unfold Tq; rw [Nat.mul_add, Nat.mul_add]
  -- the first difference
  have z1 : (V r : Int) - ((smN r * (6588397 * 2 ^ eA) : Nat) : Int) = ((mg r : Int) - (smN r * 6588397 * 2 ^ (eA - pl r) : Nat)) * (2 : Int) ^ pl r := by
    rw [Int.sub_mul, hVr, ← Nat.mul_assoc, split_pow (smN r * 6588397) eA (pl r) (by unfold eA; omega)]
    congr 1
  have h1 := fsub_RnS hfr hf0
  rw [sr, s0, z1] at h1
  have q1 : (((mg r : Int) - (smN r * 6588397 * 2 ^ (eA - pl r) : Nat)) * (2 : Int) ^ pl r).natAbs < 2 * B * 2 ^ pl r := by
    rw [← z1]
    have lo := int_bounds1 i1 (w := smN r * (6588397 * 2 ^ eA)) (by rw [hT]; omega) U_pos
    have hv : V r < 2 * B * 2 ^ pl r := by rw [hVr]; exact Nat.mul_lt_mul_of_pos_right hmg (Nat.two_pow_pos _)
    generalize smN r * (6588397 * 2 ^ eA) = w at *
    generalize 2 * B * 2 ^ pl r = x at *
    generalize V r = v at *
    generalize U = u at *
    clear h1 z1 i1 i2
    omega
  obtain ⟨e1, f1⟩ := exact_RnS h1 (nab q1) (by omega)
  rw [← z1] at e1
  -- the second
  obtain ⟨g, hg⟩ : ∃ g, g = min (pl r) eB := ⟨_, rfl⟩
  have hg1 : g ≤ pl r := by omega
  have hg2 : g ≤ eB := by omega
  have hg3 : 1021 ≤ g := by have : eB = 1029 := rfl; omega
  have z3 : (V r : Int) - ((smN r * (6588397 * 2 ^ eA) : Nat) : Int) - ((smN r * (1328173 * 2 ^ eB) : Nat) : Int) = ((mg r * 2 ^ (pl r - g) : Nat) - (smN r * 6588397 * 2 ^ (eA - g) : Nat) - (smN r * 1328173 * 2 ^ (eB - g) : Nat) : Int) * (2 : Int) ^ g := by
    rw [Int.sub_mul, Int.sub_mul, hVr, ← Nat.mul_assoc, ← Nat.mul_assoc, split_pow (mg r) (pl r) g hg1, split_pow (smN r * 6588397) eA g (by have : eA = 1051 := rfl; have : eB = 1029 := rfl; omega), split_pow (smN r * 1328173) eB g hg2]
  have h3 := fsub_RnS f1 hf2
  rw [e1, s2, z3] at h3
  have hU2 := U_pl hg3
  have q3 : (((mg r * 2 ^ (pl r - g) : Nat) - (smN r * 6588397 * 2 ^ (eA - g) : Nat) - (smN r * 1328173 * 2 ^ (eB - g) : Nat) : Int) * (2 : Int) ^ g).natAbs < 2 * B * 2 ^ g := by
    rw [← z3]
    have hd : 100 * (smN r * Vc) ≤ U := by
      have h5 : 100 * (1073741824 * Vc) ≤ U := by decide +kernel
      have h6 := Nat.mul_le_mul_right Vc hn
      generalize smN r * Vc = a at *
      generalize 1073741824 * Vc = b at *
      generalize U = u at *
      clear h3 z3 h1 z1 i1 i2 hU hU2
      omega
    have bb := int_bounds i1 i2 (w := smN r * (6588397 * 2 ^ eA) + smN r * (1328173 * 2 ^ eB)) (d := smN r * Vc) hT.symm U_pos hd
    generalize smN r * (6588397 * 2 ^ eA) = w at *
    generalize smN r * (1328173 * 2 ^ eB) = w' at *
    generalize 2 * B * 2 ^ g = x at *
    generalize V r = v at *
    generalize U = u at *
    clear h1 h3 z1 z3 i1 i2 hU hT q1
    omega
  obtain ⟨e3, f3⟩ := exact_RnS h3 (nab q3) (by have : eB = 1029 := rfl; omega)
  refine ⟨?_, f3⟩
  rw [e3, ← z3]
  generalize smN r * (6588397 * 2 ^ eA) = w
  generalize smN r * (1328173 * 2 ^ eB) = w'
  omega

def e974 : Nat := 974
theorem smN_zero {r : Nat} (hr : r < INF) (h : smN r = 0) : fsub (fsub (fsub r (fmul (fi (smN r)) 4605249456957292544)) (fmul (fi (smN r)) 4495793288086814720)) (fmul (fi (smN r)) 4388835458085048688) = r := by
  rw [h]
  have e : fi 0 = 0 := rfl
  have z : ∀ c, c < INF → fmul 0 c = 0 := by
    intro c hc
    have h := fmul_Rn (show 0 < INF by decide) hc
    rw [V_zero, Nat.zero_mul] at h
    exact h.unique (Rn.exact 0 (by decide)) (by rw [V_zero]; omega)
  rw [e, z _ (by decide), z _ (by decide), z _ (by decide), fsub_zero hr, fsub_zero hr, fsub_zero hr]
theorem pl_of_half {r : Nat} (h : 4602678819172646912 ≤ r) : 1021 ≤ pl r := by
  have hB : B = 4503599627370496 := rfl
  unfold pl; rw [hB]; omega

/-- A rounded number at least 2^974 units away from 0 stays so. -/
theorem RnS_ge {Z : Int} {y : Nat} (h : RnS Z 1 y) (hZ : 2 ^ e974 ≤ Z.natAbs) : (2 ^ e974 : Nat) ≤ (sv y).natAbs := by
  obtain ⟨r, hr, _, e⟩ := h.sv
  obtain ⟨q, hq, hb⟩ := repr_of 1 e974 (by decide)
  rw [Nat.one_mul] at hq
  have hqI : q ≤ INF := Nat.le_trans hb (by decide)
  have hm := (Rn.exact q hqI).mono hr (by rw [hq]; omega)
  have hv := V_le hm
  rw [hq] at hv
  rw [e]
  split
  · rw [Int.natAbs_neg, Int.natAbs_natCast]; exact hv
  · rw [Int.natAbs_natCast]; exact hv

theorem half_aux {v h u t n : Nat} (h1 : v ≤ h) (h2 : 2 * h = u) (h3 : 2 * t ≤ n) (i1 : 100000 * n ≤ 100000 * v + 78541 * u) (hT : 785398 * u ≤ 1000000 * t) (hu : 0 < u) : False := by omega
theorem N_aux {v u t n m : Nat} (i1 : 100000 * (2 * n * t) ≤ 100000 * v + 78541 * u) (hv : v < m * u) (hT : u ≤ 2 * t) (hu : 0 < u) : n ≤ m + 1 := by
  have h1 : n * u ≤ 2 * n * t := by
    have := Nat.mul_le_mul_left n hT
    rw [Nat.mul_assoc, Nat.mul_left_comm]; exact this
  have h2 : n * u < (m + 1) * u := by rw [Nat.add_mul, Nat.one_mul]; omega
  exact Nat.le_of_lt (Nat.lt_of_mul_lt_mul_right h2)
theorem zero_aux {v a b c w t : Nat} (hz : (v : Int) - ((a + b : Nat) : Int) - (w : Int) = 0) (hT : t = a + b + c) (rA : 9007199254740992 * (w * 1) ≤ 9007199254740992 * c + c + 4503599627370496 * 1) (rB : 9007199254740992 * c ≤ 9007199254740992 * (w * 1) + c + 4503599627370496 * 1)
    (hap : c + 2 ^ 52 < 2 ^ 53 * ((v : Int) - (t : Int)).natAbs) : False := by omega

set_option maxRecDepth 10000 in
theorem smZ_away {r : Nat} (h : r < TH29) (hlo : 4481081629233643520 ≤ r) : (2 ^ e974 : Nat) ≤ (sv (smZ r)).natAbs := by
  have hr : r < INF := Nat.lt_trans h (by decide)
  obtain ⟨hn, _⟩ := small_bound h
  obtain ⟨i1, i2⟩ := small_int h
  have eZ : smZ r = fsub (fsub (fsub r (fmul (fi (smN r)) 4605249456957292544)) (fmul (fi (smN r)) 4495793288086814720)) (fmul (fi (smN r)) 4388835458085048688) := by unfold smZ; rw [smY_eq h]
  rw [eZ]
  by_cases h0 : smN r = 0
  · rw [smN_zero hr h0, show sv r = (V r : Int) from sv_word false r (Nat.lt_trans hr INF_lt_SGN), Int.natAbs_natCast]
    exact Nat.le_trans (by decide +kernel) (V_le hlo)
  · have hev := smN_even r
    have hn2 : 2 ≤ smN r := by omega
    have hTl : 785398 * U ≤ 1000000 * Tq := by decide +kernel
    have hT2 : U ≤ 2 * Tq := by decide +kernel
    -- the number is at least a half
    have hhalf : 4602678819172646912 ≤ r := by
      by_cases hh : 4602678819172646912 ≤ r
      · exact hh
      · exfalso
        have h1 := V_le (show r ≤ 4602678819172646912 by omega)
        have h2 : 2 * V 4602678819172646912 = U := by decide +kernel
        have h3 := Nat.mul_le_mul_right Tq hn2
        exact half_aux h1 h2 h3 i1 hTl U_pos
    have hp := pl_of_half hhalf
    obtain ⟨e3, f3⟩ := w3_exact h hp
    -- the last product
    obtain ⟨vy, fy⟩ := fi_V (m := smN r) (by omega)
    obtain ⟨v2, f2⟩ := fi_V (m := 2) (by decide)
    have hC : 4388835458085048688 < INF := by decide
    have hle2 : fi 2 ≤ fi (smN r) := V_le_iff.1 (by rw [v2, vy]; exact Nat.mul_le_mul_right _ hn2)
    have hw4 : fmul (fi (smN r)) 4388835458085048688 < INF := by
      have h1 : fi (smN r) ≤ 4742290407621132288 := V_le_iff.1 (by rw [vy, show V 4742290407621132288 = 1073741824 * U by decide +kernel]; exact Nat.mul_le_mul_right _ hn)
      exact Nat.lt_of_le_of_lt (fmul_mono (by decide) hC h1 (Nat.le_refl _)) (by decide +kernel)
    have hpl4 : e974 ≤ pl (fmul (fi (smN r)) 4388835458085048688) := by
      have h1 : fmul (fi 2) 4388835458085048688 ≤ fmul (fi (smN r)) 4388835458085048688 := fmul_mono fy hC hle2 (Nat.le_refl _)
      have h2 : e974 ≤ pl (fmul (fi 2) 4388835458085048688) := by decide +kernel
      refine Nat.le_trans h2 ?_
      unfold pl
      have := Nat.div_le_div_right (c := B) h1
      omega
    have hR : Rn (smN r * Vc) 1 (fmul (fi (smN r)) 4388835458085048688) := (fmul_Rn fy hC).congr Nat.one_pos (by
      rw [vy, V_C]; generalize Vc = v; generalize U = u
      rw [Nat.mul_one, Nat.mul_assoc, Nat.mul_assoc, Nat.mul_comm u])
    have rA := hR.relA hw4
    have rB := hR.relB hw4
    have s4 : sv (fmul (fi (smN r)) 4388835458085048688) = (V (fmul (fi (smN r)) 4388835458085048688) : Int) := sv_word false _ (Nat.lt_trans hw4 INF_lt_SGN)
    have h4 := fsub_RnS f3 ⟨false, _, hw4, (word_false _).symm⟩
    rw [e3, s4] at h4
    refine RnS_ge h4 ?_
    have hVr := V_eq r
    have hmg := mg_lt r
    have hV4 := V_eq (fmul (fi (smN r)) 4388835458085048688)
    -- it is a multiple of 2^974
    have hd : ((2 ^ e974 : Nat) : Int) ∣ (V r : Int) - ((smN r * (6588397 * 2 ^ eA) + smN r * (1328173 * 2 ^ eB) : Nat) : Int) - (V (fmul (fi (smN r)) 4388835458085048688) : Int) := by
      refine Int.dvd_sub (Int.dvd_sub ?_ ?_) ?_
      · rw [hVr]; exact Int.ofNat_dvd.2 (Nat.dvd_mul_left_of_dvd (Nat.pow_dvd_pow 2 (by have : e974 = 974 := rfl; omega)) _)
      · refine Int.ofNat_dvd.2 (Nat.dvd_add ?_ ?_)
        · rw [← Nat.mul_assoc]; exact Nat.dvd_mul_left_of_dvd (Nat.pow_dvd_pow 2 (by decide)) _
        · rw [← Nat.mul_assoc]; exact Nat.dvd_mul_left_of_dvd (Nat.pow_dvd_pow 2 (by decide)) _
      · rw [hV4]; exact Int.ofNat_dvd.2 (Nat.dvd_mul_left_of_dvd (Nat.pow_dvd_pow 2 hpl4) _)
    have hnz : (V r : Int) - ((smN r * (6588397 * 2 ^ eA) + smN r * (1328173 * 2 ^ eB) : Nat) : Int) - (V (fmul (fi (smN r)) 4388835458085048688) : Int) ≠ 0 := by
      intro hz
      obtain ⟨i, hi⟩ : ∃ i, pl r = e21 + i := ⟨pl r - e21, by have : e21 = 1021 := rfl; omega⟩
      have hi30 : i < 30 := by
        have hB : B = 4503599627370496 := rfl
        have hT : TH29 = 4737786807993761792 := rfl
        unfold pl at hi; rw [hB] at hi; have : e21 = 1021 := rfl; omega
      obtain ⟨n, hn'⟩ : ∃ n, smN r = 2 * n := ⟨smN r / 2, by omega⟩
      have hN : n ≤ 2 ^ i + 1 := by
        have hv : V r < 2 ^ i * U := by
          have h1 : V r < 2 * B * 2 ^ pl r := by rw [hVr]; exact Nat.mul_lt_mul_of_pos_right hmg (Nat.two_pow_pos _)
          have h2 : 2 * B * 2 ^ pl r = 2 ^ i * U := by
            have h3 : 2 * B * 2 ^ e21 = U := by decide +kernel
            rw [← h3, hi, Nat.pow_add]
            generalize (2 : Nat) ^ e21 = x
            generalize (2 : Nat) ^ i = y
            rw [← Nat.mul_assoc, Nat.mul_comm]
          omega
        rw [hn'] at i1
        exact N_aux i1 hv hT2 U_pos
      have hap := apart (k := mg r) hi30 (show 0 < n by omega) hN
      have hT : smN r * Tq = smN r * (6588397 * 2 ^ eA) + smN r * (1328173 * 2 ^ eB) + smN r * Vc := by unfold Tq; rw [Nat.mul_add, Nat.mul_add]
      have ek : ((mg r : Int) * 2 ^ (e21 + i) - 2 * (n : Int) * Tq) = (V r : Int) - ((smN r * Tq : Nat) : Int) := by
        rw [hVr, hi, hn']; simp
      rw [ek, show 2 * n * Vc = smN r * Vc by rw [hn']] at hap
      exact zero_aux hz hT rA rB hap
    have := Int.natAbs_dvd_natAbs.2 hd
    rw [Int.natAbs_natCast] at this
    exact Nat.le_of_dvd (Int.natAbs_pos.2 hnz) this

theorem trZ_away (x : Nat) : (2 ^ e974 : Nat) ≤ (sv (trZ x)).natAbs := by
  obtain ⟨h1, h2⟩ := trW_bounds x
  have i0 : In (trW x) 4314448443020935168 4607182418800017407 := In.ofPos2 h1 (by omega) (by decide)
  unfold trZ
  split
  · have i1 : In (fsub (trW x) 4607182418800017408) 13830554455654793216 13591863675404156928 := In_sub i0 (In.const (Fw.of (by decide +kernel))) (Fw.of (by decide +kernel)) (Fw.of (by decide +kernel)) (Fw.of (by decide +kernel)) (Fw.of (by decide +kernel)) (by decide +kernel) (by decide +kernel) (Fw.of (by decide +kernel)) (Fw.of (by decide +kernel))
    have i2 : In (fmul (fsub (trW x) 4607182418800017408) 4605249457297304856) 13828622411414651273 13587360075776786432 := In_mul i1 (In.const (Fw.of (by decide +kernel))) (Fw.of (by decide +kernel)) (Fw.of (by decide +kernel)) (Fw.of (by decide +kernel)) (Fw.of (by decide +kernel)) (Fw.of (by decide +kernel)) (Fw.of (by decide +kernel)) (by decide +kernel) (by decide +kernel) (by decide +kernel) (by decide +kernel) (by decide +kernel) (by decide +kernel) (by decide +kernel) (by decide +kernel)
    have e : sv 13587360075776786432 ≤ -((2 ^ e974 : Nat) : Int) := by decide +kernel
    have i3 : sv (fmul (fsub (trW x) one) PI4) ≤ sv 13587360075776786432 := i2.2.2
    have := Int.le_trans i3 e
    generalize sv (fmul (fsub (trW x) one) PI4) = z at *
    generalize (2 : Nat) ^ e974 = p at *
    clear i0 i1 i2 i3 e
    omega
  · have i2 : In (fmul (trW x) 4605249457297304856) 4309944843393564672 4605250374559875465 := In_mul i0 (In.const (Fw.of (by decide +kernel))) (Fw.of (by decide +kernel)) (Fw.of (by decide +kernel)) (Fw.of (by decide +kernel)) (Fw.of (by decide +kernel)) (Fw.of (by decide +kernel)) (Fw.of (by decide +kernel)) (by decide +kernel) (by decide +kernel) (by decide +kernel) (by decide +kernel) (by decide +kernel) (by decide +kernel) (by decide +kernel) (by decide +kernel)
    have e : ((2 ^ e974 : Nat) : Int) ≤ sv 4309944843393564672 := by decide +kernel
    have i3 : sv 4309944843393564672 ≤ sv (fmul (trW x) PI4) := i2.2.1
    have := Int.le_trans e i3
    generalize sv (fmul (trW x) PI4) = z at *
    generalize (2 : Nat) ^ e974 = p at *
    clear i0 i2 i3 e
    omega
theorem redZ_away {r : Nat} (h : r < INF) (hlo : 4481081629233643520 ≤ r) : (2 ^ e974 : Nat) ≤ (sv (redZ r)).natAbs := by
  unfold redZ
  rw [fge_TH (Nat.le_of_lt h)]
  split
  · exact trZ_away r
  · next hh =>
    simp only [decide_eq_true_eq] at hh
    exact smZ_away (by omega) hlo

end Go.Proofs.YtgbdplmpojkklaaDoor

namespace Go.Proofs.YtgbdplmpojkklaaDoor
open Ieee

/-- A bound far below every rounding error. -/
def etq : Rat := 1 / 2 ^ 200
theorem rat_weak {a e e' : Rat} (ha : 0 < a) (h : e ≤ e') : a * e ≤ a * e' := by
  have := Rat.mul_le_mul_of_nonneg_right h (show 0 ≤ a by grind)
  grind

section
variable {a Z : Rat} (ha : 0 < a) (hz : hq ≤ a * etq)
include ha hz

theorem s_mul {x y : Nat} {p q e f A Y e' : Rat} (fx : Fw x) (fy : Fw y) (fr : Fw (fmul x y)) (hx : Er x (Z * p) (a * e)) (hy : Er y q f) (hA : Bd x (a * A)) (hY : Bd y Y) (he : A * f + e * (Y + f) + (A * Y * uq + etq) ≤ e') : Er (fmul x y) (Z * (p * q)) (a * e') := by
  have h := q_mulE fx fy fr hx hy hA hY (Rat.le_refl)
  have e1 : Z * p * q = Z * (p * q) := by grind
  rw [e1] at h
  refine h.weak ?_
  have h2 := rat_weak ha he
  generalize etq = t at *
  generalize hq = k at *
  generalize uq = u at *
  grind
theorem s_mulB {x y : Nat} {A Y A' : Rat} (fx : Fw x) (fy : Fw y) (fr : Fw (fmul x y)) (hA : Bd x (a * A)) (hY : Bd y Y) (he : A * Y + (A * Y * uq + etq) ≤ A') : Bd (fmul x y) (a * A') := by
  have hT := prod_abs hA hY
  have h := q_mul fx fy fr hT.1 hT.2
  have h2 := rat_weak ha he
  unfold Er at h
  unfold Bd
  generalize vq (fmul x y) = v at *
  generalize vq x * vq y = w at *
  generalize etq = t at *
  generalize hq = k at *
  generalize uq = u at *
  constructor <;> grind
theorem s_add {x y : Nat} {p q e f A Y e' : Rat} (fx : Fw x) (fy : Fw y) (fr : Fw (fadd x y)) (hx : Er x (Z * p) (a * e)) (hy : Er y (Z * q) (a * f)) (hA : Bd x (a * A)) (hY : Bd y (a * Y)) (he : e + f + ((A + Y) * uq + etq) ≤ e') : Er (fadd x y) (Z * (p + q)) (a * e') := by
  have hT : -(a * (A + Y)) ≤ vq x + vq y ∧ vq x + vq y ≤ a * (A + Y) := by
    unfold Bd at hA hY
    constructor <;> grind
  have h := q_addE fx fy fr hx hy hT (Rat.le_refl)
  have e1 : Z * p + Z * q = Z * (p + q) := by grind
  rw [e1] at h
  refine h.weak ?_
  have h2 := rat_weak ha he
  generalize etq = t at *
  generalize hq = k at *
  generalize uq = u at *
  grind
theorem s_addB {x y : Nat} {A Y A' : Rat} (fx : Fw x) (fy : Fw y) (fr : Fw (fadd x y)) (hA : Bd x (a * A)) (hY : Bd y (a * Y)) (he : (A + Y) + ((A + Y) * uq + etq) ≤ A') : Bd (fadd x y) (a * A') := by
  have hT : -(a * (A + Y)) ≤ vq x + vq y ∧ vq x + vq y ≤ a * (A + Y) := by
    unfold Bd at hA hY
    constructor <;> grind
  have h := q_add fx fy fr hT.1 hT.2
  have h2 := rat_weak ha he
  unfold Er at h
  unfold Bd
  generalize vq (fadd x y) = v at *
  generalize vq x + vq y = w at *
  generalize etq = t at *
  generalize hq = k at *
  generalize uq = u at *
  constructor <;> grind
theorem s_sub {x y : Nat} {p q e f A Y e' : Rat} (fx : Fw x) (fy : Fw y) (fr : Fw (fsub x y)) (hx : Er x (Z * p) (a * e)) (hy : Er y (Z * q) (a * f)) (hA : Bd x (a * A)) (hY : Bd y (a * Y)) (he : e + f + ((A + Y) * uq + etq) ≤ e') : Er (fsub x y) (Z * (p - q)) (a * e') := by
  have hT : -(a * (A + Y)) ≤ vq x - vq y ∧ vq x - vq y ≤ a * (A + Y) := by
    unfold Bd at hA hY
    constructor <;> grind
  have h := q_subE fx fy fr hx hy hT (Rat.le_refl)
  have e1 : Z * p - Z * q = Z * (p - q) := by grind
  rw [e1] at h
  refine h.weak ?_
  have h2 := rat_weak ha he
  generalize etq = t at *
  generalize hq = k at *
  generalize uq = u at *
  grind
end

theorem vq_fneg {x : Nat} (h : Fw x) : vq (fneg x) = -vq x := by
  unfold vq; rw [sv_fneg h, Rat.intCast_neg]; grind
/-- A quotient by a negative number. -/
theorem fdiv_neg {x b : Nat} (hx : Fw x) (hb : b < INF) (h0 : 0 < b) : fdiv x (N b) = fneg (fdiv x b) := by
  obtain ⟨s, r, hr, rfl⟩ := hx
  have h1 : fdiv (double.word s r) (N b) = double.word (s ^^ true) (fdiv r b) := fdiv_word s true hr hb h0
  have h2 := fdiv_word s false hr hb h0
  rw [word_false] at h2
  rw [h1, h2, fneg_word _ _ (Nat.lt_of_le_of_lt (fdiv_le_INF hr hb h0) INF_lt_SGN)]
  cases s <;> rfl
theorem div_lin {x y p q e f R d : Rat} (hx : p - e ≤ x ∧ x ≤ p + e) (hy : q - f ≤ y ∧ y ≤ q + f) (hd : 0 < d) (hyd : d ≤ y) (hq : 0 < q) (hR : -R ≤ p / q ∧ p / q ≤ R) (he : 0 ≤ e) (hf : 0 ≤ f) (hR0 : 0 ≤ R) :
    p / q - (e + R * f) / d ≤ x / y ∧ x / y ≤ p / q + (e + R * f) / d := by
  have hy0 : 0 < y := by grind
  have e1 : x = x / y * y := by grind
  have e2 : p = p / q * q := by grind
  have e3 : (e + R * f) = (e + R * f) / d * d := by grind
  have h1 := prod_abs hR (show -f ≤ y - q ∧ y - q ≤ f by constructor <;> grind)
  have h4 := Rat.mul_nonneg hR0 hf
  have h2 : 0 ≤ (e + R * f) / d := Rat.le_of_mul_le_mul_right (c := d) (by rw [← e3]; grind) hd
  have h3 := Rat.mul_le_mul_of_nonneg_right hyd h2
  generalize x / y = X at *
  generalize p / q = P at *
  generalize (e + R * f) / d = E at *
  constructor
  · refine Rat.le_of_mul_le_mul_right (c := y) ?_ hy0
    grind
  · refine Rat.le_of_mul_le_mul_right (c := y) ?_ hy0
    grind

end Go.Proofs.YtgbdplmpojkklaaDoor

namespace Go.Proofs.YtgbdplmpojkklaaDoor
open Ieee

def pT (X : Rat) : Rat := ((-899791794595815 / 68719476736 : Rat) * X + (4954316280208861 / 4294967296 : Rat)) * X + (-2410084014803131 / 134217728 : Rat)
def qD (X : Rat) : Rat := (((X + (3760686104163001 / 274877906944 : Rat)) * X + (-2836594710371915 / 2147483648 : Rat)) * X + (6713135938066671 / 268435456 : Rat)) * X + (-7230252044409393 / 134217728 : Rat)

set_option maxRecDepth 10000 in
theorem tan_parts {w : Nat} (hw : In w 0 4603733562205377082) : Er (fmul w (tanN w)) (vq w * pT (vq w)) (791770944113152191 / 309485009821345068724781056 : Rat) ∧ In (fmul w (tanN w)) 13935582698839084176 9223372036854775808 ∧ Er (tanD w) (qD (vq w)) (5892514623923034131 / 618970019642690137449562112 : Rat) ∧ In (tanD w) 13945871098756094513 13943799760662404042 := by
  obtain ⟨v1, d1⟩ : ∃ v, v = fmul 13891795985540005688 w := ⟨_, rfl⟩
  have i1 : In v1 13888978235818989911 9223372036854775808 := by rw [d1]; exact In_mul (In.const (Fw.of (by decide +kernel))) hw (Fw.of (by decide +kernel)) (Fw.of (by decide +kernel)) (Fw.of (by decide +kernel)) (Fw.of (by decide +kernel)) (Fw.of (by decide +kernel)) (Fw.of (by decide +kernel)) (by decide +kernel) (by decide +kernel) (by decide +kernel) (by decide +kernel) (by decide +kernel) (by decide +kernel) (by decide +kernel) (by decide +kernel)
  have r1 : Er v1 (((-899791794595815 / 68719476736 : Rat)) * (vq w)) (1110523032890155 / 1237940039285380274899124224 : Rat) := by rw [d1]; exact q_mulE (In.const (Fw.of (by decide +kernel))).1 hw.1 (by rw [← d1]; exact i1.1) (Er.const (show vq 13891795985540005688 = (-899791794595815 / 68719476736 : Rat) by decide +kernel)) (Er.self w) (A := (899791794595815 / 68719476736 : Rat)) (Y := (2779171330050333 / 4503599627370496 : Rat)) ((In.const (Fw.of (by decide +kernel))).bd (by decide +kernel) (by decide +kernel)) (hw.bd (by decide +kernel) (by decide +kernel)) (by decide +kernel)
  obtain ⟨v2, d2⟩ : ∃ v, v = fadd v1 4697705128000265693 := ⟨_, rfl⟩
  have i2 : In v2 4697670424155487876 4697705128000265693 := by rw [d2]; exact In_add i1 (In.const (Fw.of (by decide +kernel))) (Fw.of (by decide +kernel)) (Fw.of (by decide +kernel)) (Fw.of (by decide +kernel)) (Fw.of (by decide +kernel)) (by decide +kernel) (by decide +kernel) (Fw.of (by decide +kernel)) (Fw.of (by decide +kernel))
  have r2 : Er v2 (((-899791794595815 / 68719476736 : Rat)) * (vq w) + (4954316280208861 / 4294967296 : Rat)) (39912160999893427 / 309485009821345068724781056 : Rat) := by rw [d2]; exact q_addE i1.1 (In.const (Fw.of (by decide +kernel))).1 (by rw [← d2]; exact i2.1) r1 (Er.const (show vq 4697705128000265693 = (4954316280208861 / 4294967296 : Rat) by decide +kernel)) (T := (4954316280208861 / 4294967296 : Rat)) (sum_T i1 (In.const (Fw.of (by decide +kernel))) (by decide +kernel) (by decide +kernel)) (by decide +kernel)
  obtain ⟨v3, d3⟩ : ∃ v, v = fmul v2 w := ⟨_, rfl⟩
  have i3 : In v3 0 4694361829245720112 := by rw [d3]; exact In_mul i2 hw (Fw.of (by decide +kernel)) (Fw.of (by decide +kernel)) (Fw.of (by decide +kernel)) (Fw.of (by decide +kernel)) (Fw.of (by decide +kernel)) (Fw.of (by decide +kernel)) (by decide +kernel) (by decide +kernel) (by decide +kernel) (by decide +kernel) (by decide +kernel) (by decide +kernel) (by decide +kernel) (by decide +kernel)
  have r3 : Er v3 ((((-899791794595815 / 68719476736 : Rat)) * (vq w) + (4954316280208861 / 4294967296 : Rat)) * (vq w)) (98176526330338675 / 618970019642690137449562112 : Rat) := by rw [d3]; exact q_mulE i2.1 hw.1 (by rw [← d3]; exact i3.1) r2 (Er.self w) (A := (4954316280208861 / 4294967296 : Rat)) (Y := (2779171330050333 / 4503599627370496 : Rat)) (i2.bd (by decide +kernel) (by decide +kernel)) (hw.bd (by decide +kernel) (by decide +kernel)) (by decide +kernel)
  obtain ⟨v4, d4⟩ : ∃ v, v = fadd v3 13938957415113920886 := ⟨_, rfl⟩
  have i4 : In v4 13938957415113920886 13938766333327888580 := by rw [d4]; exact In_add i3 (In.const (Fw.of (by decide +kernel))) (Fw.of (by decide +kernel)) (Fw.of (by decide +kernel)) (Fw.of (by decide +kernel)) (Fw.of (by decide +kernel)) (by decide +kernel) (by decide +kernel) (Fw.of (by decide +kernel)) (Fw.of (by decide +kernel))
  have r4 : Er v4 ((((-899791794595815 / 68719476736 : Rat)) * (vq w) + (4954316280208861 / 4294967296 : Rat)) * (vq w) + (-2410084014803131 / 134217728 : Rat)) (2664279083819083495 / 1237940039285380274899124224 : Rat) := by rw [d4]; exact q_addE i3.1 (In.const (Fw.of (by decide +kernel))).1 (by rw [← d4]; exact i4.1) r3 (Er.const (show vq 13938957415113920886 = (-2410084014803131 / 134217728 : Rat) by decide +kernel)) (T := (2410084014803131 / 134217728 : Rat)) (sum_T i3 (In.const (Fw.of (by decide +kernel))) (by decide +kernel) (by decide +kernel)) (by decide +kernel)
  obtain ⟨v5, d5⟩ : ∃ v, v = fmul w v4 := ⟨_, rfl⟩
  have i5 : In v5 13935582698839084176 9223372036854775808 := by rw [d5]; exact In_mul hw i4 (Fw.of (by decide +kernel)) (Fw.of (by decide +kernel)) (Fw.of (by decide +kernel)) (Fw.of (by decide +kernel)) (Fw.of (by decide +kernel)) (Fw.of (by decide +kernel)) (by decide +kernel) (by decide +kernel) (by decide +kernel) (by decide +kernel) (by decide +kernel) (by decide +kernel) (by decide +kernel) (by decide +kernel)
  have r5 : Er v5 ((vq w) * ((((-899791794595815 / 68719476736 : Rat)) * (vq w) + (4954316280208861 / 4294967296 : Rat)) * (vq w) + (-2410084014803131 / 134217728 : Rat))) (791770944113152191 / 309485009821345068724781056 : Rat) := by rw [d5]; exact q_mulE hw.1 i4.1 (by rw [← d5]; exact i5.1) (Er.self w) r4 (A := (2779171330050333 / 4503599627370496 : Rat)) (Y := (2410084014803131 / 134217728 : Rat)) (hw.bd (by decide +kernel) (by decide +kernel)) (i4.bd (by decide +kernel) (by decide +kernel)) (by decide +kernel)
  obtain ⟨v6, d6⟩ : ∃ v, v = fadd w 4668746986536789362 := ⟨_, rfl⟩
  have i6 : In v6 4668746986536789362 4668747325791102112 := by rw [d6]; exact In_add hw (In.const (Fw.of (by decide +kernel))) (Fw.of (by decide +kernel)) (Fw.of (by decide +kernel)) (Fw.of (by decide +kernel)) (Fw.of (by decide +kernel)) (by decide +kernel) (by decide +kernel) (Fw.of (by decide +kernel)) (Fw.of (by decide +kernel))
  have r6 : Er v6 (vq w + (3760686104163001 / 274877906944 : Rat)) (1880427865659689 / 1237940039285380274899124224 : Rat) := by rw [d6]; exact q_addE hw.1 (In.const (Fw.of (by decide +kernel))).1 (by rw [← d6]; exact i6.1) (Er.self w) (Er.const (show vq 4668746986536789362 = (3760686104163001 / 274877906944 : Rat) by decide +kernel)) (T := (61617860301936658717 / 4503599627370496 : Rat)) (sum_T hw (In.const (Fw.of (by decide +kernel))) (by decide +kernel) (by decide +kernel)) (by decide +kernel)
  obtain ⟨v7, d7⟩ : ∃ v, v = fmul v6 w := ⟨_, rfl⟩
  have i7 : In v7 0 4665867262472057734 := by rw [d7]; exact In_mul i6 hw (Fw.of (by decide +kernel)) (Fw.of (by decide +kernel)) (Fw.of (by decide +kernel)) (Fw.of (by decide +kernel)) (Fw.of (by decide +kernel)) (Fw.of (by decide +kernel)) (by decide +kernel) (by decide +kernel) (by decide +kernel) (by decide +kernel) (by decide +kernel) (by decide +kernel) (by decide +kernel) (by decide +kernel)
  have r7 : Er v7 ((vq w + (3760686104163001 / 274877906944 : Rat)) * (vq w)) (580206017949297 / 309485009821345068724781056 : Rat) := by rw [d7]; exact q_mulE i6.1 hw.1 (by rw [← d7]; exact i7.1) r6 (Er.self w) (A := (235053483207461 / 17179869184 : Rat)) (Y := (2779171330050333 / 4503599627370496 : Rat)) (i6.bd (by decide +kernel) (by decide +kernel)) (hw.bd (by decide +kernel) (by decide +kernel)) (by decide +kernel)
  obtain ⟨v8, d8⟩ : ∃ v, v = fadd v7 13921796037995576470 := ⟨_, rfl⟩
  have i8 : In v8 13921796037995576470 13921759775119454639 := by rw [d8]; exact In_add i7 (In.const (Fw.of (by decide +kernel))) (Fw.of (by decide +kernel)) (Fw.of (by decide +kernel)) (Fw.of (by decide +kernel)) (Fw.of (by decide +kernel)) (by decide +kernel) (by decide +kernel) (Fw.of (by decide +kernel)) (Fw.of (by decide +kernel))
  have r8 : Er v8 ((vq w + (3760686104163001 / 274877906944 : Rat)) * (vq w) + (-2836594710371915 / 2147483648 : Rat)) (183862885535599749 / 1237940039285380274899124224 : Rat) := by rw [d8]; exact q_addE i7.1 (In.const (Fw.of (by decide +kernel))).1 (by rw [← d8]; exact i8.1) r7 (Er.const (show vq 13921796037995576470 = (-2836594710371915 / 2147483648 : Rat) by decide +kernel)) (T := (2836594710371915 / 2147483648 : Rat)) (sum_T i7 (In.const (Fw.of (by decide +kernel))) (by decide +kernel) (by decide +kernel)) (by decide +kernel)
  obtain ⟨v9, d9⟩ : ∃ v, v = fmul v8 w := ⟨_, rfl⟩
  have i9 : In v9 13918621099330544179 9223372036854775808 := by rw [d9]; exact In_mul i8 hw (Fw.of (by decide +kernel)) (Fw.of (by decide +kernel)) (Fw.of (by decide +kernel)) (Fw.of (by decide +kernel)) (Fw.of (by decide +kernel)) (Fw.of (by decide +kernel)) (by decide +kernel) (by decide +kernel) (by decide +kernel) (by decide +kernel) (by decide +kernel) (by decide +kernel) (by decide +kernel) (by decide +kernel)
  have r9 : Er v9 (((vq w + (3760686104163001 / 274877906944 : Rat)) * (vq w) + (-2836594710371915 / 2147483648 : Rat)) * (vq w)) (225491392793331159 / 1237940039285380274899124224 : Rat) := by rw [d9]; exact q_mulE i8.1 hw.1 (by rw [← d9]; exact i9.1) r8 (Er.self w) (A := (2836594710371915 / 2147483648 : Rat)) (Y := (2779171330050333 / 4503599627370496 : Rat)) (i8.bd (by decide +kernel) (by decide +kernel)) (hw.bd (by decide +kernel) (by decide +kernel)) (by decide +kernel)
  obtain ⟨v10, d10⟩ : ∃ v, v = fadd v9 4717478346167605487 := ⟨_, rfl⟩
  have i10 : In v10 4717259538343134173 4717478346167605487 := by rw [d10]; exact In_add i9 (In.const (Fw.of (by decide +kernel))) (Fw.of (by decide +kernel)) (Fw.of (by decide +kernel)) (Fw.of (by decide +kernel)) (Fw.of (by decide +kernel)) (by decide +kernel) (by decide +kernel) (Fw.of (by decide +kernel)) (Fw.of (by decide +kernel))
  have r10 : Er v10 (((vq w + (3760686104163001 / 274877906944 : Rat)) * (vq w) + (-2836594710371915 / 2147483648 : Rat)) * (vq w) + (6713135938066671 / 268435456 : Rat)) (457827124135433339 / 154742504910672534362390528 : Rat) := by rw [d10]; exact q_addE i9.1 (In.const (Fw.of (by decide +kernel))).1 (by rw [← d10]; exact i10.1) r9 (Er.const (show vq 4717478346167605487 = (6713135938066671 / 268435456 : Rat) by decide +kernel)) (T := (6713135938066671 / 268435456 : Rat)) (sum_T i9 (In.const (Fw.of (by decide +kernel))) (by decide +kernel) (by decide +kernel)) (by decide +kernel)
  obtain ⟨v11, d11⟩ : ∃ v, v = fmul v10 w := ⟨_, rfl⟩
  have i11 : In v11 0 4714546962976930205 := by rw [d11]; exact In_mul i10 hw (Fw.of (by decide +kernel)) (Fw.of (by decide +kernel)) (Fw.of (by decide +kernel)) (Fw.of (by decide +kernel)) (Fw.of (by decide +kernel)) (Fw.of (by decide +kernel)) (by decide +kernel) (by decide +kernel) (by decide +kernel) (by decide +kernel) (by decide +kernel) (by decide +kernel) (by decide +kernel) (by decide +kernel)
  have r11 : Er v11 ((((vq w + (3760686104163001 / 274877906944 : Rat)) * (vq w) + (-2836594710371915 / 2147483648 : Rat)) * (vq w) + (6713135938066671 / 268435456 : Rat)) * (vq w)) (4381251154370849829 / 1237940039285380274899124224 : Rat) := by rw [d11]; exact q_mulE i10.1 hw.1 (by rw [← d11]; exact i11.1) r10 (Er.self w) (A := (6713135938066671 / 268435456 : Rat)) (Y := (2779171330050333 / 4503599627370496 : Rat)) (i10.bd (by decide +kernel) (by decide +kernel)) (hw.bd (by decide +kernel) (by decide +kernel)) (by decide +kernel)
  obtain ⟨v12, d12⟩ : ∃ v, v = fadd v11 13945871098756094513 := ⟨_, rfl⟩
  have i12 : In v12 13945871098756094513 13943799760662404042 := by rw [d12]; exact In_add i11 (In.const (Fw.of (by decide +kernel))) (Fw.of (by decide +kernel)) (Fw.of (by decide +kernel)) (Fw.of (by decide +kernel)) (Fw.of (by decide +kernel)) (by decide +kernel) (by decide +kernel) (Fw.of (by decide +kernel)) (Fw.of (by decide +kernel))
  have r12 : Er v12 ((((vq w + (3760686104163001 / 274877906944 : Rat)) * (vq w) + (-2836594710371915 / 2147483648 : Rat)) * (vq w) + (6713135938066671 / 268435456 : Rat)) * (vq w) + (-7230252044409393 / 134217728 : Rat)) (5892514623923034131 / 618970019642690137449562112 : Rat) := by rw [d12]; exact q_addE i11.1 (In.const (Fw.of (by decide +kernel))).1 (by rw [← d12]; exact i12.1) r11 (Er.const (show vq 13945871098756094513 = (-7230252044409393 / 134217728 : Rat) by decide +kernel)) (T := (7230252044409393 / 134217728 : Rat)) (sum_T i11 (In.const (Fw.of (by decide +kernel))) (by decide +kernel) (by decide +kernel)) (by decide +kernel)
  have e : fmul w (tanN w) = v5 := by subst_vars; rfl
  have e' : tanD w = v12 := by subst_vars; rfl
  rw [e, e']
  exact ⟨r5, i5, r12, i12⟩

def ptl : List Rat := [(-2410084014803131 / 134217728 : Rat), (4954316280208861 / 4294967296 : Rat), (-899791794595815 / 68719476736 : Rat)]
def qdl : List Rat := [(-7230252044409393 / 134217728 : Rat), (6713135938066671 / 268435456 : Rat), (-2836594710371915 / 2147483648 : Rat), (3760686104163001 / 274877906944 : Rat), 1]
theorem ptl_eq (X : Rat) : pev ptl X = pT X := by unfold ptl pT; simp only [pev]; grind
theorem qdl_eq (X : Rat) : pev qdl X = qD X := by unfold qdl qD; simp only [pev]; grind
theorem pT_bound {X : Rat} (h0 : 0 ≤ X) (h1 : X ≤ 6172 / 10000) : -18000000 ≤ pT X ∧ pT X ≤ 18000000 := by
  rw [← ptl_eq]
  exact pieces_bound (h := 6172 / 320000) 16 (by decide +kernel) h0 (by rw [show (2 : Rat) * ((16 : Nat) : Rat) * (6172 / 320000) = 6172 / 10000 by decide +kernel]; exact h1) (by decide)
theorem qD_bound {X : Rat} (h0 : 0 ≤ X) (h1 : X ≤ 6172 / 10000) : 38900000 ≤ -qD X := by
  have h := pieces_bound (p := padd qdl [46500000]) (e := 7600000) (h := 6172 / 1280000) 64 (by decide +kernel) h0 (by rw [show (2 : Rat) * ((64 : Nat) : Rat) * (6172 / 1280000) = 6172 / 10000 by decide +kernel]; exact h1) (by decide)
  rw [pev_add, qdl_eq] at h
  simp only [pev] at h
  grind
theorem div_bd {x y A d R : Rat} (hx : -A ≤ x ∧ x ≤ A) (hd : 0 < d) (hy : d ≤ y) (hR : A ≤ R * d) (hR0 : 0 ≤ R) : -R ≤ x / y ∧ x / y ≤ R := by
  have hy0 : 0 < y := by grind
  have e1 : x / y * y = x := by grind
  have h1 := Rat.mul_le_mul_of_nonneg_right hy hR0
  generalize x / y = X at *
  constructor
  · refine Rat.le_of_mul_le_mul_right (c := y) ?_ hy0; grind
  · refine Rat.le_of_mul_le_mul_right (c := y) ?_ hy0; grind
theorem vqN {b : Nat} (h : b < INF) : vq (N b) = -vq b := by
  have e : N b = fneg b := (fneg_word false b (Nat.lt_trans h INF_lt_SGN)).symm
  rw [e]; exact vq_fneg ⟨false, b, h, (word_false _).symm⟩

set_option maxRecDepth 10000 in
theorem tan_q {w : Nat} (hw : In w 0 4603733562205377082) : Er (fdiv (fmul w (tanN w)) (tanD w)) (vq w * pT (vq w) / qD (vq w)) (215610780649 / 1237940039285380274899124224 : Rat) ∧ Bd (fdiv (fmul w (tanN w)) (tanD w)) (3 / 10) ∧ Fw (fdiv (fmul w (tanN w)) (tanD w)) := by
  have hX := hw.qb (l := 0) (u := 6172 / 10000) (by decide +kernel) (by decide +kernel)
  obtain ⟨r1, i1, r2, i2⟩ := tan_parts hw
  obtain ⟨b, eb, b1, b2⟩ := (show In (tanD w) (N 4722499061901318705) (N 4720427723807628234) from i2).neg (by decide) (by decide) (by decide)
  have hb : b < INF := Nat.lt_of_le_of_lt b2 (by decide)
  have h0 : 0 < b := Nat.lt_of_lt_of_le (by decide) b1
  rw [eb] at r2 ⊢
  have k1 := (In.ofPos2 b1 b2 (by decide)).qb (l := (2579456975359461 / 67108864 : Rat)) (u := 60000000) (by decide +kernel) (by decide +kernel)
  have kn := i1.qb (l := -11090000) (u := 11090000) (by decide +kernel) (by decide +kernel)
  have iq : In (fdiv (fmul w (tanN w)) b) 13822447976325526323 0 := In_div i1 (c := 4720427723807628234) (d := 4722499061901318705) (by decide) b1 b2 (by decide) (Fw.of (by decide +kernel)) (Fw.of (by decide +kernel)) (Fw.of (by decide +kernel)) (Fw.of (by decide +kernel)) (by decide +kernel) (by decide +kernel) (by decide +kernel) (by decide +kernel)
  rw [fdiv_neg i1.1 hb h0]
  have q1 := div_bd kn (show (0 : Rat) < (2579456975359461 / 67108864 : Rat) by decide +kernel) k1.1 (R := 3 / 10) (by decide +kernel) (by decide +kernel)
  have hE := q_div i1.1 hb h0 iq.1 q1.1 q1.2
  have hr2 : -qD (vq w) - (5892514623923034131 / 618970019642690137449562112 : Rat) ≤ vq b ∧ vq b ≤ -qD (vq w) + (5892514623923034131 / 618970019642690137449562112 : Rat) := by
    unfold Er at r2
    rw [vqN hb] at r2
    generalize qD (vq w) = Q at *
    generalize vq b = B' at *
    clear hE q1 kn k1 r1
    constructor <;> grind
  have bT := pT_bound hX.1 hX.2
  have bD := qD_bound hX.1 hX.2
  have bn := prod_abs (show -(6172 / 10000) ≤ vq w ∧ vq w ≤ 6172 / 10000 from ⟨Rat.le_trans (by decide +kernel) hX.1, hX.2⟩) bT
  have hR := div_bd bn (show (0 : Rat) < 38900000 by decide +kernel) bD (R := 3 / 10) (by decide +kernel) (by decide +kernel)
  have hl := div_lin r1 hr2 (show (0 : Rat) < (2579456975359461 / 67108864 : Rat) by decide +kernel) k1.1 (by grind) hR (by decide +kernel) (by decide +kernel) (by decide +kernel)
  have e1 : vq w * pT (vq w) / qD (vq w) = -(vq w * pT (vq w) / -qD (vq w)) := by
    have : qD (vq w) ≠ 0 := by grind
    generalize vq w * pT (vq w) = n at *
    generalize qD (vq w) = Q at *
    clear hE hl hR bn r1 r2 hr2
    grind
  refine ⟨?_, ?_, iq.1.neg⟩
  · unfold Er at hE ⊢
    rw [vq_fneg iq.1, e1]
    have hc : ((791770944113152191 / 309485009821345068724781056 : Rat) + 3 / 10 * (5892514623923034131 / 618970019642690137449562112 : Rat)) / (2579456975359461 / 67108864 : Rat) + (3 / 10 * uq + hq) ≤ (215610780649 / 1237940039285380274899124224 : Rat) := by decide +kernel
    generalize vq w * pT (vq w) / -qD (vq w) = t at *
    generalize vq (fmul w (tanN w)) / vq b = t2 at *
    generalize vq (fdiv (fmul w (tanN w)) b) = v at *
    generalize ((791770944113152191 / 309485009821345068724781056 : Rat) + 3 / 10 * (5892514623923034131 / 618970019642690137449562112 : Rat)) / (2579456975359461 / 67108864 : Rat) = c1 at *
    generalize 3 / 10 * uq + hq = c2 at *
    clear hr2 r1 r2 bn bT bD hR q1 kn k1 e1
    constructor <;> grind
  · unfold Bd
    rw [vq_fneg iq.1]
    have := iq.qb (l := -(3 / 10)) (u := 0) (by decide +kernel) (by decide +kernel)
    generalize vq (fdiv (fmul w (tanN w)) b) = v at *
    clear hE hl hr2 r1 r2 bn bT bD hR q1 kn k1 e1
    constructor <;> grind

end Go.Proofs.YtgbdplmpojkklaaDoor

namespace Go.Proofs.YtgbdplmpojkklaaDoor
open Ieee

set_option maxRecDepth 10000 in
theorem sinS_er {w : Nat} (hw : In w 0 4603733562205377082) : Er (sinS w) (pS (vq w)) (6085250031 / 309485009821345068724781056 : Rat) ∧ In (sinS w) 13818544856648471880 13818359578559802107 := by
  obtain ⟨v1, d1⟩ : ∃ v, v = fmul 4460209587652500685 w := ⟨_, rfl⟩
  have i1 : In v1 0 4457146214083207558 := by rw [d1]; exact In_mul (In.const (Fw.of (by decide +kernel))) hw (Fw.of (by decide +kernel)) (Fw.of (by decide +kernel)) (Fw.of (by decide +kernel)) (Fw.of (by decide +kernel)) (Fw.of (by decide +kernel)) (Fw.of (by decide +kernel)) (by decide +kernel) (by decide +kernel) (by decide +kernel) (by decide +kernel) (by decide +kernel) (by decide +kernel) (by decide +kernel) (by decide +kernel)
  have r1 : Er v1 (((6149556183080141 / 38685626227668133590597632 : Rat)) * (vq w)) (7 / 618970019642690137449562112 : Rat) := by rw [d1]; exact q_mulE (In.const (Fw.of (by decide +kernel))).1 hw.1 (by rw [← d1]; exact i1.1) (Er.const (show vq 4460209587652500685 = (6149556183080141 / 38685626227668133590597632 : Rat) by decide +kernel)) (Er.self w) (A := (6149556183080141 / 38685626227668133590597632 : Rat)) (Y := (2779171330050333 / 4503599627370496 : Rat)) ((In.const (Fw.of (by decide +kernel))).bd (by decide +kernel) (by decide +kernel)) (hw.bd (by decide +kernel) (by decide +kernel)) (by decide +kernel)
  obtain ⟨v2, d2⟩ : ∃ v, v = fadd v1 13716528389658582877 := ⟨_, rfl⟩
  have i2 : In v2 13716528389658582877 13716498742071703355 := by rw [d2]; exact In_add i1 (In.const (Fw.of (by decide +kernel))) (Fw.of (by decide +kernel)) (Fw.of (by decide +kernel)) (Fw.of (by decide +kernel)) (Fw.of (by decide +kernel)) (by decide +kernel) (by decide +kernel) (Fw.of (by decide +kernel)) (Fw.of (by decide +kernel))
  have r2 : Er v2 (((6149556183080141 / 38685626227668133590597632 : Rat)) * (vq w) + (-7571123942793053 / 302231454903657293676544 : Rat)) (3457 / 1237940039285380274899124224 : Rat) := by rw [d2]; exact q_addE i1.1 (In.const (Fw.of (by decide +kernel))).1 (by rw [← d2]; exact i2.1) r1 (Er.const (show vq 13716528389658582877 = (-7571123942793053 / 302231454903657293676544 : Rat) by decide +kernel)) (T := (7571123942793053 / 302231454903657293676544 : Rat)) (sum_T i1 (In.const (Fw.of (by decide +kernel))) (by decide +kernel) (by decide +kernel)) (by decide +kernel)
  obtain ⟨v3, d3⟩ : ∃ v, v = fmul v2 w := ⟨_, rfl⟩
  have i3 : In v3 13713629406300887417 9223372036854775808 := by rw [d3]; exact In_mul i2 hw (Fw.of (by decide +kernel)) (Fw.of (by decide +kernel)) (Fw.of (by decide +kernel)) (Fw.of (by decide +kernel)) (Fw.of (by decide +kernel)) (Fw.of (by decide +kernel)) (by decide +kernel) (by decide +kernel) (by decide +kernel) (by decide +kernel) (by decide +kernel) (by decide +kernel) (by decide +kernel) (by decide +kernel)
  have r3 : Er v3 ((((6149556183080141 / 38685626227668133590597632 : Rat)) * (vq w) + (-7571123942793053 / 302231454903657293676544 : Rat)) * (vq w)) (2129 / 618970019642690137449562112 : Rat) := by rw [d3]; exact q_mulE i2.1 hw.1 (by rw [← d3]; exact i3.1) r2 (Er.self w) (A := (7571123942793053 / 302231454903657293676544 : Rat)) (Y := (2779171330050333 / 4503599627370496 : Rat)) (i2.bd (by decide +kernel) (by decide +kernel)) (hw.bd (by decide +kernel) (by decide +kernel)) (by decide +kernel)
  obtain ⟨v4, d4⟩ : ∃ v, v = fadd v3 4523617212962785441 := ⟨_, rfl⟩
  have i4 : In v4 4523580711864464366 4523617212962785441 := by rw [d4]; exact In_add i3 (In.const (Fw.of (by decide +kernel))) (Fw.of (by decide +kernel)) (Fw.of (by decide +kernel)) (Fw.of (by decide +kernel)) (Fw.of (by decide +kernel)) (by decide +kernel) (by decide +kernel) (Fw.of (by decide +kernel)) (Fw.of (by decide +kernel))
  have r4 : Er v4 ((((6149556183080141 / 38685626227668133590597632 : Rat)) * (vq w) + (-7571123942793053 / 302231454903657293676544 : Rat)) * (vq w) + (6506786710177953 / 2361183241434822606848 : Rat)) (383003 / 1237940039285380274899124224 : Rat) := by rw [d4]; exact q_addE i3.1 (In.const (Fw.of (by decide +kernel))).1 (by rw [← d4]; exact i4.1) r3 (Er.const (show vq 4523617212962785441 = (6506786710177953 / 2361183241434822606848 : Rat) by decide +kernel)) (T := (6506786710177953 / 2361183241434822606848 : Rat)) (sum_T i3 (In.const (Fw.of (by decide +kernel))) (by decide +kernel) (by decide +kernel)) (by decide +kernel)
  obtain ⟨v5, d5⟩ : ∃ v, v = fmul v4 w := ⟨_, rfl⟩
  have i5 : In v5 0 4520637502782938621 := by rw [d5]; exact In_mul i4 hw (Fw.of (by decide +kernel)) (Fw.of (by decide +kernel)) (Fw.of (by decide +kernel)) (Fw.of (by decide +kernel)) (Fw.of (by decide +kernel)) (Fw.of (by decide +kernel)) (by decide +kernel) (by decide +kernel) (by decide +kernel) (by decide +kernel) (by decide +kernel) (by decide +kernel) (by decide +kernel) (by decide +kernel)
  have r5 : Er v5 (((((6149556183080141 / 38685626227668133590597632 : Rat)) * (vq w) + (-7571123942793053 / 302231454903657293676544 : Rat)) * (vq w) + (6506786710177953 / 2361183241434822606848 : Rat)) * (vq w)) (470075 / 1237940039285380274899124224 : Rat) := by rw [d5]; exact q_mulE i4.1 hw.1 (by rw [← d5]; exact i5.1) r4 (Er.self w) (A := (6506786710177953 / 2361183241434822606848 : Rat)) (Y := (2779171330050333 / 4503599627370496 : Rat)) (i4.bd (by decide +kernel) (by decide +kernel)) (hw.bd (by decide +kernel) (by decide +kernel)) (by decide +kernel)
  obtain ⟨v6, d6⟩ : ∃ v, v = fadd v5 13774824197404483331 := ⟨_, rfl⟩
  have i6 : In v6 13774824197404483331 13774761457747001287 := by rw [d6]; exact In_add i5 (In.const (Fw.of (by decide +kernel))) (Fw.of (by decide +kernel)) (Fw.of (by decide +kernel)) (Fw.of (by decide +kernel)) (Fw.of (by decide +kernel)) (by decide +kernel) (by decide +kernel) (Fw.of (by decide +kernel)) (Fw.of (by decide +kernel))
  have r6 : Er v6 (((((6149556183080141 / 38685626227668133590597632 : Rat)) * (vq w) + (-7571123942793053 / 302231454903657293676544 : Rat)) * (vq w) + (6506786710177953 / 2361183241434822606848 : Rat)) * (vq w) + (-7320136532877059 / 36893488147419103232 : Rat)) (27739709 / 1237940039285380274899124224 : Rat) := by rw [d6]; exact q_addE i5.1 (In.const (Fw.of (by decide +kernel))).1 (by rw [← d6]; exact i6.1) r5 (Er.const (show vq 13774824197404483331 = (-7320136532877059 / 36893488147419103232 : Rat) by decide +kernel)) (T := (7320136532877059 / 36893488147419103232 : Rat)) (sum_T i5 (In.const (Fw.of (by decide +kernel))) (by decide +kernel) (by decide +kernel)) (by decide +kernel)
  obtain ⟨v7, d7⟩ : ∃ v, v = fmul v6 w := ⟨_, rfl⟩
  have i7 : In v7 13772021317126044705 9223372036854775808 := by rw [d7]; exact In_mul i6 hw (Fw.of (by decide +kernel)) (Fw.of (by decide +kernel)) (Fw.of (by decide +kernel)) (Fw.of (by decide +kernel)) (Fw.of (by decide +kernel)) (Fw.of (by decide +kernel)) (by decide +kernel) (by decide +kernel) (by decide +kernel) (by decide +kernel) (by decide +kernel) (by decide +kernel) (by decide +kernel) (by decide +kernel)
  have r7 : Er v7 ((((((6149556183080141 / 38685626227668133590597632 : Rat)) * (vq w) + (-7571123942793053 / 302231454903657293676544 : Rat)) * (vq w) + (6506786710177953 / 2361183241434822606848 : Rat)) * (vq w) + (-7320136532877059 / 36893488147419103232 : Rat)) * (vq w)) (16973133 / 618970019642690137449562112 : Rat) := by rw [d7]; exact q_mulE i6.1 hw.1 (by rw [← d7]; exact i7.1) r6 (Er.self w) (A := (7320136532877059 / 36893488147419103232 : Rat)) (Y := (2779171330050333 / 4503599627370496 : Rat)) (i6.bd (by decide +kernel) (by decide +kernel)) (hw.bd (by decide +kernel) (by decide +kernel)) (by decide +kernel)
  obtain ⟨v8, d8⟩ : ∃ v, v = fadd v7 4575957461383575504 := ⟨_, rfl⟩
  have i8 : In v8 4575886879254599903 4575957461383575504 := by rw [d8]; exact In_add i7 (In.const (Fw.of (by decide +kernel))) (Fw.of (by decide +kernel)) (Fw.of (by decide +kernel)) (Fw.of (by decide +kernel)) (Fw.of (by decide +kernel)) (by decide +kernel) (by decide +kernel) (Fw.of (by decide +kernel)) (Fw.of (by decide +kernel))
  have r8 : Er v8 ((((((6149556183080141 / 38685626227668133590597632 : Rat)) * (vq w) + (-7571123942793053 / 302231454903657293676544 : Rat)) * (vq w) + (6506786710177953 / 2361183241434822606848 : Rat)) * (vq w) + (-7320136532877059 / 36893488147419103232 : Rat)) * (vq w) + (300239975157629 / 36028797018963968 : Rat)) (1179270879 / 1237940039285380274899124224 : Rat) := by rw [d8]; exact q_addE i7.1 (In.const (Fw.of (by decide +kernel))).1 (by rw [← d8]; exact i8.1) r7 (Er.const (show vq 4575957461383575504 = (300239975157629 / 36028797018963968 : Rat) by decide +kernel)) (T := (300239975157629 / 36028797018963968 : Rat)) (sum_T i7 (In.const (Fw.of (by decide +kernel))) (by decide +kernel) (by decide +kernel)) (by decide +kernel)
  obtain ⟨v9, d9⟩ : ∃ v, v = fmul v8 w := ⟨_, rfl⟩
  have i9 : In v9 0 4572578920991115675 := by rw [d9]; exact In_mul i8 hw (Fw.of (by decide +kernel)) (Fw.of (by decide +kernel)) (Fw.of (by decide +kernel)) (Fw.of (by decide +kernel)) (Fw.of (by decide +kernel)) (Fw.of (by decide +kernel)) (by decide +kernel) (by decide +kernel) (by decide +kernel) (by decide +kernel) (by decide +kernel) (by decide +kernel) (by decide +kernel) (by decide +kernel)
  have r9 : Er v9 (((((((6149556183080141 / 38685626227668133590597632 : Rat)) * (vq w) + (-7571123942793053 / 302231454903657293676544 : Rat)) * (vq w) + (6506786710177953 / 2361183241434822606848 : Rat)) * (vq w) + (-7320136532877059 / 36893488147419103232 : Rat)) * (vq w) + (300239975157629 / 36028797018963968 : Rat)) * (vq w)) (717253939 / 618970019642690137449562112 : Rat) := by rw [d9]; exact q_mulE i8.1 hw.1 (by rw [← d9]; exact i9.1) r8 (Er.self w) (A := (300239975157629 / 36028797018963968 : Rat)) (Y := (2779171330050333 / 4503599627370496 : Rat)) (i8.bd (by decide +kernel) (by decide +kernel)) (hw.bd (by decide +kernel) (by decide +kernel)) (by decide +kernel)
  obtain ⟨v10, d10⟩ : ∃ v, v = fadd v9 13818544856648471880 := ⟨_, rfl⟩
  have i10 : In v10 13818544856648471880 13818359578559802107 := by rw [d10]; exact In_add i9 (In.const (Fw.of (by decide +kernel))) (Fw.of (by decide +kernel)) (Fw.of (by decide +kernel)) (Fw.of (by decide +kernel)) (Fw.of (by decide +kernel)) (by decide +kernel) (by decide +kernel) (Fw.of (by decide +kernel)) (Fw.of (by decide +kernel))
  have r10 : Er v10 (((((((6149556183080141 / 38685626227668133590597632 : Rat)) * (vq w) + (-7571123942793053 / 302231454903657293676544 : Rat)) * (vq w) + (6506786710177953 / 2361183241434822606848 : Rat)) * (vq w) + (-7320136532877059 / 36893488147419103232 : Rat)) * (vq w) + (300239975157629 / 36028797018963968 : Rat)) * (vq w) + (-750599937895081 / 4503599627370496 : Rat)) (6085250031 / 309485009821345068724781056 : Rat) := by rw [d10]; exact q_addE i9.1 (In.const (Fw.of (by decide +kernel))).1 (by rw [← d10]; exact i10.1) r9 (Er.const (show vq 13818544856648471880 = (-750599937895081 / 4503599627370496 : Rat) by decide +kernel)) (T := (750599937895081 / 4503599627370496 : Rat)) (sum_T i9 (In.const (Fw.of (by decide +kernel))) (by decide +kernel) (by decide +kernel)) (by decide +kernel)
  have e : sinS w = v10 := by subst_vars; rfl
  rw [e]
  exact ⟨r10, i10⟩

set_option maxRecDepth 10000 in
/-- z, its square w, S = sinS, Q = the quotient, c = the cosine: the scaled values. -/
theorem tan_scaled {z w S Q c : Nat} {a Z PS RHO CC : Rat} (ha : 0 < a) (hq0 : hq ≤ a * etq) (hZ : Z = vq z) (bz0 : -a ≤ vq z ∧ vq z ≤ a) (hz : In z 13828622411414651273 4605250374559875465) (hw : In w 0 4603733562205377082)
    (iS : In S 13818544856648471880 13818359578559802107) (rS : Er S PS (6085250031 / 309485009821345068724781056 : Rat)) (iQ : In Q 13822628120310621143 4599256083455845335) (bQ : Bd Q (3 / 10)) (rQ : Er Q RHO (215610780649 / 1237940039285380274899124224 : Rat)) (iC : In c 4604390187031047700 4607272490792564818) (rC : Er c CC (163049242429 / 618970019642690137449562112 : Rat)) :
    (Er (fadd z (fmul (fmul z w) S)) (Z * (1 + 1 * vq w * PS)) (a * (194866573743 / 1237940039285380274899124224 : Rat)) ∧ Fw (fadd z (fmul (fmul z w) S))) ∧
    (Er (fadd z (fmul z Q)) (Z * (1 + 1 * RHO)) (a * (435513106205 / 1237940039285380274899124224 : Rat)) ∧ Bd (fadd z (fmul z Q)) (a * (1609322051070994577271187047 / 1237940039285380274899124224 : Rat)) ∧ Fw (fadd z (fmul z Q))) ∧
    (Er (fsub (fmul (fadd z (fmul z Q)) c) (fadd z (fmul (fmul z w) S))) (Z * ((1 + 1 * RHO) * CC - (1 + 1 * vq w * PS))) (a * (1579080626833 / 1237940039285380274899124224 : Rat)) ∧ Fw (fsub (fmul (fadd z (fmul z Q)) c) (fadd z (fmul (fmul z w) S)))) := by
  obtain ⟨v1, e1⟩ : ∃ v, v = fmul z w := ⟨_, rfl⟩
  have i1 : In v1 13825775813091699874 4602403776236924066 := by rw [e1]; exact In_mul hz hw (Fw.of (by decide +kernel)) (Fw.of (by decide +kernel)) (Fw.of (by decide +kernel)) (Fw.of (by decide +kernel)) (Fw.of (by decide +kernel)) (Fw.of (by decide +kernel)) (by decide +kernel) (by decide +kernel) (by decide +kernel) (by decide +kernel) (by decide +kernel) (by decide +kernel) (by decide +kernel) (by decide +kernel)
  obtain ⟨v2, e2⟩ : ∃ v, v = fmul v1 S := ⟨_, rfl⟩
  have i2 : In v2 13813857895063952820 4590485858209177012 := by rw [e2]; exact In_mul i1 iS (Fw.of (by decide +kernel)) (Fw.of (by decide +kernel)) (Fw.of (by decide +kernel)) (Fw.of (by decide +kernel)) (Fw.of (by decide +kernel)) (Fw.of (by decide +kernel)) (by decide +kernel) (by decide +kernel) (by decide +kernel) (by decide +kernel) (by decide +kernel) (by decide +kernel) (by decide +kernel) (by decide +kernel)
  obtain ⟨v3, e3⟩ : ∃ v, v = fadd z v2 := ⟨_, rfl⟩
  have i3 : In v3 13829350091107902784 4605978054253126976 := by rw [e3]; exact In_add hz i2 (Fw.of (by decide +kernel)) (Fw.of (by decide +kernel)) (Fw.of (by decide +kernel)) (Fw.of (by decide +kernel)) (by decide +kernel) (by decide +kernel) (Fw.of (by decide +kernel)) (Fw.of (by decide +kernel))
  obtain ⟨v4, e4⟩ : ∃ v, v = fmul z Q := ⟨_, rfl⟩
  have i4 : In v4 13821313249363414053 4597941212508638245 := by rw [e4]; exact In_mul hz iQ (Fw.of (by decide +kernel)) (Fw.of (by decide +kernel)) (Fw.of (by decide +kernel)) (Fw.of (by decide +kernel)) (Fw.of (by decide +kernel)) (Fw.of (by decide +kernel)) (by decide +kernel) (by decide +kernel) (by decide +kernel) (by decide +kernel) (by decide +kernel) (by decide +kernel) (by decide +kernel) (by decide +kernel)
  obtain ⟨v5, e5⟩ : ∃ v, v = fadd z v4 := ⟨_, rfl⟩
  have i5 : In v5 13830685082561985097 4607313045707209289 := by rw [e5]; exact In_add hz i4 (Fw.of (by decide +kernel)) (Fw.of (by decide +kernel)) (Fw.of (by decide +kernel)) (Fw.of (by decide +kernel)) (by decide +kernel) (by decide +kernel) (Fw.of (by decide +kernel)) (Fw.of (by decide +kernel))
  obtain ⟨v6, e6⟩ : ∃ v, v = fmul v5 c := ⟨_, rfl⟩
  have i6 : In v6 13830777767092676345 4607405730237900537 := by rw [e6]; exact In_mul i5 iC (Fw.of (by decide +kernel)) (Fw.of (by decide +kernel)) (Fw.of (by decide +kernel)) (Fw.of (by decide +kernel)) (Fw.of (by decide +kernel)) (Fw.of (by decide +kernel)) (by decide +kernel) (by decide +kernel) (by decide +kernel) (by decide +kernel) (by decide +kernel) (by decide +kernel) (by decide +kernel) (by decide +kernel)
  obtain ⟨v7, e7⟩ : ∃ v, v = fsub v6 v3 := ⟨_, rfl⟩
  have i7 : In v7 13834679184446601625 4611307147591825817 := by rw [e7]; exact In_sub i6 i3 (Fw.of (by decide +kernel)) (Fw.of (by decide +kernel)) (Fw.of (by decide +kernel)) (Fw.of (by decide +kernel)) (by decide +kernel) (by decide +kernel) (Fw.of (by decide +kernel)) (Fw.of (by decide +kernel))
  have rz : Er z (Z * 1) (a * 0) := by
    unfold Er; rw [hZ]; constructor <;> grind
  have bz : Bd z (a * 1) := by
    unfold Bd; constructor <;> grind
  have bw : Bd w (2779171330050333 / 4503599627370496 : Rat) := hw.bd (by decide +kernel) (by decide +kernel)
  have bS : Bd S (750599937895081 / 4503599627370496 : Rat) := iS.bd (by decide +kernel) (by decide +kernel)
  have bC : Bd c (2296835809958953 / 2251799813685248 : Rat) := iC.bd (by decide +kernel) (by decide +kernel)
  have r_t1 : Er v1 (Z * (1 * vq w)) (a * (21203394547 / 309485009821345068724781056 : Rat)) := by rw [e1]; exact s_mul ha hq0 hz.1 hw.1 (by rw [← e1]; exact i1.1) rz (Er.self w) bz bw (by decide +kernel)
  have b_t1 : Bd v1 (a * (190983199560752057505947635 / 309485009821345068724781056 : Rat)) := by rw [e1]; exact s_mulB ha hq0 hz.1 hw.1 (by rw [← e1]; exact i1.1) bz bw (by decide +kernel)
  have r_m1 : Er v2 (Z * (1 * vq w * PS)) (a * (21646011953 / 618970019642690137449562112 : Rat)) := by rw [e2]; exact s_mul ha hq0 i1.1 iS.1 (by rw [← e2]; exact i2.1) r_t1 rS b_t1 bS (by decide +kernel)
  have b_m1 : Bd v2 (a * (63661066520250551547150415 / 618970019642690137449562112 : Rat)) := by rw [e2]; exact s_mulB ha hq0 i1.1 iS.1 (by rw [← e2]; exact i2.1) b_t1 bS (by decide +kernel)
  have r_s : Er v3 (Z * (1 + 1 * vq w * PS)) (a * (194866573743 / 1237940039285380274899124224 : Rat)) := by rw [e3]; exact s_add ha hq0 hz.1 i2.1 (by rw [← e3]; exact i3.1) rz r_m1 bz b_m1 (by decide +kernel)
  have b_s : Bd v3 (a * (1365262172325881529567974891 / 1237940039285380274899124224 : Rat)) := by rw [e3]; exact s_addB ha hq0 hz.1 i2.1 (by rw [← e3]; exact i3.1) bz b_m1 (by decide +kernel)
  have r_m2 : Er v4 (Z * (1 * RHO)) (a * (256842466691 / 1237940039285380274899124224 : Rat)) := by rw [e4]; exact s_mul ha hq0 hz.1 iQ.1 (by rw [← e4]; exact i4.1) rz rQ bz bQ (by decide +kernel)
  have b_m2 : Bd v4 (a * (371382011785614123701423309 / 1237940039285380274899124224 : Rat)) := by rw [e4]; exact s_mulB ha hq0 hz.1 iQ.1 (by rw [← e4]; exact i4.1) bz bQ (by decide +kernel)
  have r_t : Er v5 (Z * (1 + 1 * RHO)) (a * (435513106205 / 1237940039285380274899124224 : Rat)) := by rw [e5]; exact s_add ha hq0 hz.1 i4.1 (by rw [← e5]; exact i5.1) rz r_m2 bz b_m2 (by decide +kernel)
  have b_t : Bd v5 (a * (1609322051070994577271187047 / 1237940039285380274899124224 : Rat)) := by rw [e5]; exact s_addB ha hq0 hz.1 i4.1 (by rw [← e5]; exact i5.1) bz b_m2 (by decide +kernel)
  have r_tc : Er v6 (Z * ((1 + 1 * RHO) * CC)) (a * (1050395450949 / 1237940039285380274899124224 : Rat)) := by rw [e6]; exact s_mul ha hq0 i5.1 iC.1 (by rw [← e6]; exact i6.1) r_t rC b_t bC (by decide +kernel)
  have b_tc : Bd v6 (a * (820754246046207339823982707 / 618970019642690137449562112 : Rat)) := by rw [e6]; exact s_mulB ha hq0 i5.1 iC.1 (by rw [← e6]; exact i6.1) b_t bC (by decide +kernel)
  have r_dd : Er v7 (Z * ((1 + 1 * RHO) * CC - (1 + 1 * vq w * PS))) (a * (1579080626833 / 1237940039285380274899124224 : Rat)) := by rw [e7]; exact s_sub ha hq0 i6.1 i3.1 (by rw [← e7]; exact i7.1) r_tc r_s b_tc b_s (by decide +kernel)
  have x1 : fadd z (fmul (fmul z w) S) = v3 := by subst_vars; rfl
  have x2 : fadd z (fmul z Q) = v5 := by subst_vars; rfl
  have x3 : fsub (fmul v5 c) v3 = v7 := by subst_vars; rfl
  rw [x1, x2, x3]
  exact ⟨⟨r_s, i3.1⟩, ⟨r_t, b_t, i5.1⟩, r_dd, i7.1⟩

end Go.Proofs.YtgbdplmpojkklaaDoor

namespace Go.Proofs.YtgbdplmpojkklaaDoor
open Ieee

theorem vq_word_abs (s : Bool) {r : Nat} (h : r < INF) : (vq (double.word s r) = vq r ∨ vq (double.word s r) = -vq r) ∧ 0 ≤ vq r := by
  have h0 : 0 ≤ vq r := by
    have := vq_le (x := 0) (y := r) (by rw [show sv 0 = 0 by decide, sv_fin h]; omega)
    rw [show vq 0 = 0 by decide +kernel] at this; exact this
  refine ⟨?_, h0⟩
  cases s
  · exact .inl rfl
  · right
    have h1 : sv (double.word true r) = -(sv r) := by
      rw [sv_word true r (Nat.lt_trans h INF_lt_SGN), sv_fin h]; rfl
    unfold vq; rw [h1, Rat.intCast_neg]; grind
theorem near_lin {a d v m h : Rat} (ha : 0 < a) (hd : d ≤ a * (85 / 100 / 2 ^ 45)) (hv : a * (88 / 100) ≤ v) (hm : v * (1 / 2 ^ 45) - (2 * (1 / 2 ^ 45) * a * uq + h) ≤ m) (hh : h ≤ a * etq) : d ≤ m := by
  have e1 : 85 / 100 / 2 ^ 45 + 2 * (1 / 2 ^ 45) * uq + etq ≤ (88 / 100) * (1 / 2 ^ 45 : Rat) := by decide +kernel
  have h1 := rat_weak ha e1
  generalize uq = u at *
  generalize etq = t at *
  grind

def P45 : Nat := 4404520435568345088
theorem near_of {d s : Nat} {a : Rat} (ha : 0 < a) (hh : hq ≤ a * etq) (fd : Fw d) (fs : Fw s) (hd : Bd d (a * (85 / 100 / 2 ^ 45))) (hs : a * (88 / 100) ≤ vq s ∨ a * (88 / 100) ≤ -vq s) (hs2 : Bd s (a * 2)) (hsu : Bd s 2) : fle (sizeF d) (fmul (sizeF s) P45) = true := by
  obtain ⟨sd, rd, hrd, rfl⟩ := fd
  obtain ⟨ss, rs, hrs, rfl⟩ := fs
  rw [sizeF_word sd rd (Nat.le_of_lt hrd), sizeF_word ss rs (Nat.le_of_lt hrs)]
  obtain ⟨wd, d0⟩ := vq_word_abs sd hrd
  obtain ⟨ws, s0⟩ := vq_word_abs ss hrs
  have h1 : vq rd ≤ a * (85 / 100 / 2 ^ 45) := by unfold Bd at hd; rcases wd with e | e <;> rw [e] at hd <;> grind
  have h2 : a * (88 / 100) ≤ vq rs := by rcases ws with e | e <;> rw [e] at hs <;> rcases hs with hs | hs <;> grind
  have h3 : vq rs ≤ a * 2 := by unfold Bd at hs2; rcases ws with e | e <;> rw [e] at hs2 <;> grind
  have h4 : vq rs ≤ 2 := by unfold Bd at hsu; rcases ws with e | e <;> rw [e] at hsu <;> grind
  have hT : 4611686018427387904 < INF := by decide
  have hP : P45 < INF := by decide
  have hle : rs ≤ 4611686018427387904 := by
    have := vq_le_inv (x := rs) (y := 4611686018427387904) (by rw [show vq 4611686018427387904 = 2 by decide +kernel]; exact h4)
    rw [sv_fin hrs, sv_fin hT] at this
    exact V_le_iff.1 (Int.ofNat_le.1 this)
  have hf : fmul rs P45 < INF := Nat.lt_of_le_of_lt (fmul_mono hT hP hle (Nat.le_refl _)) (by decide +kernel)
  have ep : vq P45 = 1 / 2 ^ 45 := by decide +kernel
  have c0 : (0 : Rat) ≤ 1 / 2 ^ 45 := by decide +kernel
  have m1 := Rat.mul_le_mul_of_nonneg_right h3 c0
  have m2 := Rat.mul_nonneg s0 c0
  have hm := q_mul (b := 2 * (1 / 2 ^ 45) * a) ⟨false, rs, hrs, (word_false _).symm⟩ ⟨false, P45, hP, (word_false _).symm⟩ ⟨false, _, hf, (word_false _).symm⟩ (by rw [ep]; generalize (1 / 2 ^ 45 : Rat) = c at *; clear h1 h2 h4 hd hs hs2 hsu ws wd; grind) (by rw [ep]; generalize (1 / 2 ^ 45 : Rat) = c at *; clear h1 h2 h4 hd hs hs2 hsu ws wd; grind)
  rw [ep] at hm
  have hk := near_lin ha h1 h2 hm.1 hh
  have h5 := vq_le_inv hk
  rw [sv_fin hrd, sv_fin hf] at h5
  have h6 := V_le_iff.1 (Int.ofNat_le.1 h5)
  have e := fle_pos false rd (fmul rs P45) (Nat.le_of_lt hrd) (Nat.le_of_lt hf)
  rw [word_false] at e
  rw [e]; simp; exact h6

-- THE IDENTITY
def gql : List Rat := padd (pmul (padd qdl (pmul [0, 1] ptl)) c1l) (psc (-1) (pmul qdl s1l))
theorem gql_eq (X : Rat) : pev gql X = (qD X + X * pT X) * (1 + X * (-1 / 2 + X * pC X)) - qD X * (1 + X * pS X) := by
  unfold gql
  rw [pev_add, pev_mul, pev_add, pev_mul, pev_sc, pev_mul, qdl_eq, ptl_eq, c1l_eq, s1l_eq]
  simp only [pev]
  grind
theorem gql_bound {X : Rat} (h0 : 0 ≤ X) (h1 : X ≤ 6172 / 10000) : -(1 / 2 ^ 30) ≤ pev gql X ∧ pev gql X ≤ 1 / 2 ^ 30 :=
  pieces_bound (h := 6172 / 320000) 16 (by decide +kernel) h0 (by rw [show (2 : Rat) * ((16 : Nat) : Rat) * (6172 / 320000) = 6172 / 10000 by decide +kernel]; exact h1) (by decide)
theorem s1_lower {X : Rat} (h0 : 0 ≤ X) (h1 : X ≤ 6172 / 10000) : 89 / 100 ≤ 1 + X * pS X ∧ 1 + X * pS X ≤ 101 / 100 := by
  have h := pieces_bound (p := padd s1l [-(95 / 100)]) (e := 6 / 100) (h := 6172 / 1280000) 64 (by decide +kernel) h0 (by rw [show (2 : Rat) * ((64 : Nat) : Rat) * (6172 / 1280000) = 6172 / 10000 by decide +kernel]; exact h1) (by decide)
  rw [pev_add, s1l_eq] at h
  simp only [pev] at h
  generalize 1 + X * pS X = y at *
  constructor <;> grind
theorem eta_bound {X : Rat} (h0 : 0 ≤ X) (h1 : X ≤ 6172 / 10000) : -(1 / 2 ^ 53) ≤ (1 + 1 * (X * pT X / qD X)) * (1 - 1 / 2 * X + X * X * pC X) - (1 + 1 * X * pS X) ∧ (1 + 1 * (X * pT X / qD X)) * (1 - 1 / 2 * X + X * X * pC X) - (1 + 1 * X * pS X) ≤ 1 / 2 ^ 53 := by
  have hg := gql_bound h0 h1
  have hd := qD_bound h0 h1
  rw [gql_eq] at hg
  have hne : qD X ≠ 0 := by grind
  have e1 : (1 + 1 * (X * pT X / qD X)) * (1 - 1 / 2 * X + X * X * pC X) - (1 + 1 * X * pS X) = ((qD X + X * pT X) * (1 + X * (-1 / 2 + X * pC X)) - qD X * (1 + X * pS X)) / qD X := by
    generalize pT X = t at *
    generalize qD X = Q at *
    generalize pC X = c at *
    generalize pS X = s at *
    clear hg hd
    grind
  rw [e1]
  generalize (qD X + X * pT X) * (1 + X * (-1 / 2 + X * pC X)) - qD X * (1 + X * pS X) = G at *
  have h2 := div_bd (x := G) (y := -qD X) hg (show (0 : Rat) < 38900000 by decide +kernel) hd (R := 1 / 2 ^ 53) (by decide +kernel) (by decide +kernel)
  have e2 : G / qD X = -(G / -qD X) := by
    generalize qD X = Q at *
    clear h2 hg hd e1
    grind
  rw [e2]
  generalize G / -qD X = y at *
  clear e1 e2 hg hd hne
  constructor <;> grind

theorem scale_of {z : Nat} (haw : (2 ^ e974 : Nat) ≤ (sv z).natAbs) : ∃ a : Rat, 0 < a ∧ hq ≤ a * etq ∧ (-a ≤ vq z ∧ vq z ≤ a) ∧ (vq z = a ∨ vq z = -a) := by
  have hU := Uq_pos
  have h1 : ((2 ^ e974 : Nat) : Rat) ≤ ((sv z).natAbs : Rat) := Rat.natCast_le_natCast.2 haw
  have e0 : ((sv z).natAbs : Rat) = ((sv z).natAbs : Rat) / Uq * Uq := by grind
  have hlo : ((2 ^ e974 : Nat) : Rat) / Uq ≤ ((sv z).natAbs : Rat) / Uq := by
    refine Rat.le_of_mul_le_mul_right (c := Uq) ?_ hU
    rw [← e0]
    have : ((2 ^ e974 : Nat) : Rat) / Uq * Uq = ((2 ^ e974 : Nat) : Rat) := by generalize ((2 ^ e974 : Nat) : Rat) = p; clear h1 e0; grind
    rw [this]; exact h1
  have hp : (0 : Rat) < ((2 ^ e974 : Nat) : Rat) / Uq := by decide +kernel
  have hs : hq ≤ ((2 ^ e974 : Nat) : Rat) / Uq * etq := by decide +kernel
  have het : (0 : Rat) ≤ etq := by decide +kernel
  have hs2 := Rat.mul_le_mul_of_nonneg_right hlo het
  have hv : vq z = ((sv z).natAbs : Rat) / Uq ∨ vq z = -(((sv z).natAbs : Rat) / Uq) := by
    rcases Int.natAbs_eq (sv z) with h | h
    · left; unfold vq; rw [← natI]; exact congrArg (fun i : Int => (i : Rat) / Uq) h
    · right
      unfold vq
      have h3 := congrArg (fun i : Int => (i : Rat) / Uq) h
      simp only [Rat.intCast_neg, natI] at h3
      rw [h3]; generalize ((sv z).natAbs : Rat) = p; clear h3 h hs2 hs hp hlo e0 h1; grind
  refine ⟨((sv z).natAbs : Rat) / Uq, ?_, ?_, ?_, hv⟩
  · generalize ((sv z).natAbs : Rat) / Uq = p at *
    generalize ((2 ^ e974 : Nat) : Rat) / Uq = p2 at *
    clear e0 h1 hs hs2 hv
    grind
  · exact Rat.le_trans hs hs2
  · have h0 : (0 : Rat) ≤ ((sv z).natAbs : Rat) / Uq := by
      generalize ((sv z).natAbs : Rat) / Uq = p at *
      generalize ((2 ^ e974 : Nat) : Rat) / Uq = p2 at *
      clear e0 h1 hs hs2 hv
      grind
    generalize ((sv z).natAbs : Rat) / Uq = p at *
    clear e0 h1 hs hs2 hlo
    rcases hv with e | e <;> rw [e] <;> constructor <;> grind
theorem dB_lin {v Z a y e eps : Rat} (h : Z * y - a * e ≤ v ∧ v ≤ Z * y + a * e) (hZ : -a ≤ Z ∧ Z ≤ a) (hy : -eps ≤ y ∧ y ≤ eps) : -(a * (eps + e)) ≤ v ∧ v ≤ a * (eps + e) := by
  have := prod_abs hZ hy
  constructor <;> grind
theorem sL_lin {v Z a y e : Rat} (ha : 0 < a) (h : Z * y - a * e ≤ v ∧ v ≤ Z * y + a * e) (hZ : Z = a ∨ Z = -a) (hy : 89 / 100 ≤ y) (he : e ≤ 1 / 100) : a * (88 / 100) ≤ v ∨ a * (88 / 100) ≤ -v := by
  have h1 := rat_weak ha hy
  have h2 := rat_weak ha he
  rcases hZ with rfl | rfl
  · left; grind
  · right; grind
theorem Bd.weak {x : Nat} {A A' : Rat} (h : Bd x A) (hA : A ≤ A') : Bd x A' := by unfold Bd at *; constructor <;> grind

/-- t, c, s behave as tangent, cosine and sine of a number of size a. -/
def Co (t c s : Nat) (a : Rat) : Prop := 0 < a ∧ hq ≤ a * etq ∧ a ≤ 1 ∧ Fw t ∧ Fw s ∧ Fw (fsub (fmul t c) s) ∧ Bd (fsub (fmul t c) s) (a * (34 / 100 / 2 ^ 45)) ∧ ((a * (88 / 100) ≤ vq s ∧ a * (85 / 100) ≤ vq t) ∨ (a * (88 / 100) ≤ -vq s ∧ a * (85 / 100) ≤ -vq t)) ∧ Bd s (a * 2) ∧ Bd t (a * 2) ∧ Bd s 2
theorem sL2_lin {v u Z a y x e f : Rat} (ha : 0 < a) (h : Z * y - a * e ≤ v ∧ v ≤ Z * y + a * e) (k : Z * x - a * f ≤ u ∧ u ≤ Z * x + a * f) (hZ : Z = a ∨ Z = -a) (hy : 89 / 100 ≤ y) (he : e ≤ 1 / 100) (hx : 86 / 100 ≤ x) (hf : f ≤ 1 / 100) : (a * (88 / 100) ≤ v ∧ a * (85 / 100) ≤ u) ∨ (a * (88 / 100) ≤ -v ∧ a * (85 / 100) ≤ -u) := by
  have h1 := rat_weak ha hy
  have h2 := rat_weak ha he
  have h3 := rat_weak ha hx
  have h4 := rat_weak ha hf
  rcases hZ with rfl | rfl
  · left; constructor <;> grind
  · right; constructor <;> grind
theorem rho_lin {y C s e : Rat} (h : -e ≤ y * C - s ∧ y * C - s ≤ e) (he : e ≤ 1 / 1000) (hs : 89 / 100 ≤ s) (hC0 : 0 ≤ C) (hC : C ≤ 103 / 100) : 86 / 100 ≤ y := by
  rcases Rat.le_total (a := 86 / 100) (b := y) with hh | hh
  · exact hh
  · exfalso
    have h1 := Rat.mul_le_mul_of_nonneg_right hh hC0
    grind
theorem cc_lin {X c : Rat} (h0 : 0 ≤ X) (h1 : X ≤ 6172 / 10000) (hc : -(1 / 20) ≤ c ∧ c ≤ 1 / 20) : 0 ≤ 1 - 1 / 2 * X + X * X * c ∧ 1 - 1 / 2 * X + X * X * c ≤ 103 / 100 := by
  have h2 := prod_abs (show -(6172 / 10000) ≤ X ∧ X ≤ 6172 / 10000 by constructor <;> grind) (show -(6172 / 10000) ≤ X ∧ X ≤ 6172 / 10000 by constructor <;> grind)
  have h3 := prod_abs (show -(1 / 2 : Rat) ≤ X * X ∧ X * X ≤ 1 / 2 by constructor <;> grind) hc
  constructor <;> grind
theorem a_le {z : Nat} {a : Rat} (hz : In z 13828622411414651273 4605250374559875465) (hZ : vq z = a ∨ vq z = -a) : a ≤ 1 := by
  have h := hz.qb (l := -1) (u := 1) (by decide +kernel) (by decide +kernel)
  rcases hZ with e | e <;> rw [e] at h <;> grind

set_option maxRecDepth 10000 in
/-- Where Tan takes its quotient. -/
theorem quotA {z : Nat} (hz : In z 13828622411414651273 4605250374559875465) (haw : (2 ^ e974 : Nat) ≤ (sv z).natAbs) :
    ∃ a, Co (fadd z (fmul z (fdiv (fmul (fmul z z) (tanN (fmul z z))) (tanD (fmul z z))))) (cosP z) (sinP z) a := by
  obtain ⟨a, ha, hq0, bz, hZ⟩ := scale_of haw
  have hw := sq_in hz
  have hX := hw.qb (l := 0) (u := 6172 / 10000) (by decide +kernel) (by decide +kernel)
  obtain ⟨rS, iS⟩ := sinS_er hw
  obtain ⟨rQ, bQ, fQ⟩ := tan_q hw
  have iQ := In.ofQ fQ (l := -(3 / 10)) (u := 3 / 10) bQ (a := 13822628120310621143) (b := 4599256083455845335) (by decide +kernel) (by decide +kernel)
  obtain ⟨rC, _⟩ := cos_er hw
  have iC := cosP_in hz
  obtain ⟨⟨r1, f1⟩, ⟨r2, b2, f2⟩, r3, f3⟩ := tan_scaled ha hq0 rfl bz hz hw iS rS iQ bQ rQ iC rC
  have he := eta_bound hX.1 hX.2
  have hs := s1_lower hX.1 hX.2
  have e1 : 1 + 1 * vq (fmul z z) * pS (vq (fmul z z)) = 1 + vq (fmul z z) * pS (vq (fmul z z)) := by rw [Rat.one_mul]
  rw [e1] at r1
  have hd : Bd (fsub (fmul (fadd z (fmul z (fdiv (fmul (fmul z z) (tanN (fmul z z))) (tanD (fmul z z))))) (cosP z)) (sinP z)) (a * (1 / 2 ^ 53 + (1579080626833 / 1237940039285380274899124224 : Rat))) := dB_lin r3 bz he
  have h2 : Bd (sinP z) (a * (101 / 100 + (194866573743 / 1237940039285380274899124224 : Rat))) := dB_lin r1 bz ⟨Rat.le_trans (by decide +kernel) hs.1, hs.2⟩
  have hcc := cc_lin hX.1 hX.2 (pC_bound hX.1 hX.2)
  have e2 := e1 ▸ he
  have hrho := rho_lin e2 (by decide +kernel) hs.1 hcc.1 hcc.2
  exact ⟨a, ha, hq0, a_le hz hZ, f2, f1, f3, hd.weak (rat_weak ha (by decide +kernel)), sL2_lin ha r1 r2 hZ hs.1 (by decide +kernel) hrho (by decide +kernel), h2.weak (rat_weak ha (by decide +kernel)), b2.weak (rat_weak ha (by decide +kernel)), (sinP_in hz).bd (A := 2) (by decide +kernel) (by decide +kernel)⟩

theorem pS_bound {X : Rat} (h0 : 0 ≤ X) (h1 : X ≤ 6172 / 10000) : -(1 / 5) ≤ pS X ∧ pS X ≤ 1 / 5 := by
  rw [← psl_eq]
  exact pieces_bound (h := 6172 / 80000) 4 (by decide +kernel) h0 (by rw [show (2 : Rat) * ((4 : Nat) : Rat) * (6172 / 80000) = 6172 / 10000 by decide +kernel]; exact h1) (by decide)
theorem etaB {X c s : Rat} (h0 : 0 ≤ X) (h1 : X ≤ 1 / 90000000000000) (hc : -(1 / 20) ≤ c ∧ c ≤ 1 / 20) (hs : -(1 / 5) ≤ s ∧ s ≤ 1 / 5) : -(3 / 10 / 2 ^ 45) ≤ 1 * ((1 - 1 / 2 * X) + X * X * c) - (1 + X * s) ∧ 1 * ((1 - 1 / 2 * X) + X * X * c) - (1 + X * s) ≤ 3 / 10 / 2 ^ 45 := by
  have e1 : 1 * ((1 - 1 / 2 * X) + X * X * c) - (1 + X * s) = X * (-1 / 2 + X * c - s) := by grind
  have h2 := prod_abs (show -1 ≤ X ∧ X ≤ 1 by constructor <;> grind) hc
  have h3 := prod_abs (show -(1 / 90000000000000) ≤ X ∧ X ≤ 1 / 90000000000000 by constructor <;> grind) (show -(3 / 4) ≤ -1 / 2 + X * c - s ∧ -1 / 2 + X * c - s ≤ 3 / 4 by constructor <;> grind)
  have h4 : (1 / 90000000000000 : Rat) * (3 / 4) ≤ 3 / 10 / 2 ^ 45 := by decide +kernel
  rw [e1]
  generalize X * (-1 / 2 + X * c - s) = y at *
  clear e1 h2
  constructor <;> grind

set_option maxRecDepth 10000 in
/-- Where Tan is the reduced number itself. -/
theorem quotB {z : Nat} (hz : In z 13828622411414651273 4605250374559875465) (haw : (2 ^ e974 : Nat) ≤ (sv z).natAbs) (hsm : vq (fmul z z) ≤ 1 / 90000000000000) :
    ∃ a, Co z (cosP z) (sinP z) a := by
  obtain ⟨a, ha, hq0, bz, hZ⟩ := scale_of haw
  have hw := sq_in hz
  have hX := hw.qb (l := 0) (u := 6172 / 10000) (by decide +kernel) (by decide +kernel)
  obtain ⟨rS, iS⟩ := sinS_er hw
  obtain ⟨rQ, bQ, fQ⟩ := tan_q hw
  have iQ := In.ofQ fQ (l := -(3 / 10)) (u := 3 / 10) bQ (a := 13822628120310621143) (b := 4599256083455845335) (by decide +kernel) (by decide +kernel)
  obtain ⟨rC, _⟩ := cos_er hw
  have iC := cosP_in hz
  obtain ⟨⟨r1, f1⟩, _, _⟩ := tan_scaled ha hq0 rfl bz hz hw iS rS iQ bQ rQ iC rC
  have hs := s1_lower hX.1 hX.2
  have e1 : 1 + 1 * vq (fmul z z) * pS (vq (fmul z z)) = 1 + vq (fmul z z) * pS (vq (fmul z z)) := by rw [Rat.one_mul]
  rw [e1] at r1
  have h2 : Bd (sinP z) (a * (101 / 100 + (194866573743 / 1237940039285380274899124224 : Rat))) := dB_lin r1 bz ⟨Rat.le_trans (by decide +kernel) hs.1, hs.2⟩
  have hb2 : Bd (sinP z) (a * 2) := h2.weak (rat_weak ha (by decide +kernel))
  have rz : Er z (vq z * 1) (a * 0) := by unfold Er; constructor <;> grind
  have bz1 : Bd z (a * 1) := by unfold Bd; constructor <;> grind
  have bC : Bd (cosP z) (2296835809958953 / 2251799813685248 : Rat) := iC.bd (by decide +kernel) (by decide +kernel)
  have itc : In (fmul z (cosP z)) 13829653735729319117 4606281698874543309 := In_mul hz iC (Fw.of (by decide +kernel)) (Fw.of (by decide +kernel)) (Fw.of (by decide +kernel)) (Fw.of (by decide +kernel)) (Fw.of (by decide +kernel)) (Fw.of (by decide +kernel)) (by decide +kernel) (by decide +kernel) (by decide +kernel) (by decide +kernel) (by decide +kernel) (by decide +kernel) (by decide +kernel) (by decide +kernel)
  have idd : In (fsub (fmul z (cosP z)) (sinP z)) 13834022227367868498 4610650190513092690 := In_sub itc (sinP_in hz) (Fw.of (by decide +kernel)) (Fw.of (by decide +kernel)) (Fw.of (by decide +kernel)) (Fw.of (by decide +kernel)) (by decide +kernel) (by decide +kernel) (Fw.of (by decide +kernel)) (Fw.of (by decide +kernel))
  have r2 : Er (fmul z (cosP z)) (vq z * (1 * ((1 - 1 / 2 * vq (fmul z z)) + vq (fmul z z) * vq (fmul z z) * pC (vq (fmul z z))))) (a * (58285777175 / 154742504910672534362390528 : Rat)) := s_mul ha hq0 hz.1 iC.1 itc.1 rz rC bz1 bC (by decide +kernel)
  have b2 : Bd (fmul z (cosP z)) (a * (631349420035544021287535903 / 618970019642690137449562112 : Rat)) := s_mulB ha hq0 hz.1 iC.1 itc.1 bz1 bC (by decide +kernel)
  have r3 := s_sub ha hq0 itc.1 f1 idd.1 r2 r1 b2 hb2 (e' := (1076218430629 / 1237940039285380274899124224 : Rat)) (by decide +kernel)
  have he := etaB hX.1 hsm (pC_bound hX.1 hX.2) (pS_bound hX.1 hX.2)
  have hd : Bd (fsub (fmul z (cosP z)) (sinP z)) (a * (3 / 10 / 2 ^ 45 + (1076218430629 / 1237940039285380274899124224 : Rat))) := dB_lin r3 bz he
  exact ⟨a, ha, hq0, a_le hz hZ, hz.1, f1, idd.1, hd.weak (rat_weak ha (by decide +kernel)), sL2_lin ha r1 rz hZ hs.1 (by decide +kernel) (by decide +kernel) (by decide +kernel), hb2, bz1.weak (rat_weak ha (by decide +kernel)), (sinP_in hz).bd (A := 2) (by decide +kernel) (by decide +kernel)⟩

end Go.Proofs.YtgbdplmpojkklaaDoor

namespace Go.Proofs.YtgbdplmpojkklaaDoor
open Ieee

theorem quot0 {z : Nat} (hz : In z 13828622411414651273 4605250374559875465) (haw : (2 ^ e974 : Nat) ≤ (sv z).natAbs) : ∃ a, Co (tanP z) (cosP z) (sinP z) a := by
  unfold tanP
  by_cases h : fgt (fmul z z) 4397347889687374747 = true
  · rw [if_pos h]; exact quotA hz haw
  · rw [if_neg h]
    refine quotB hz haw ?_
    obtain ⟨q, hq, e⟩ := sq_word hz.1 (sq_in hz).1
    rw [e] at h ⊢
    have h2 := fgt_pos false q 4397347889687374747 (Nat.le_of_lt hq) (by decide)
    rw [word_false] at h2
    rw [h2] at h
    have h3 : q ≤ 4397347889687374747 := by
      simp at h; exact h
    refine Rat.le_trans (vq_le (y := 4397347889687374747) ?_) (by decide +kernel)
    rw [sv_fin hq, sv_fin (show 4397347889687374747 < INF by decide)]
    exact Int.ofNat_le.2 (V_le_iff.2 h3)

theorem Co.near {t c s : Nat} {a : Rat} (h : Co t c s a) : fle (sizeF (fsub (fmul t c) s)) (fmul (sizeF s) P45) = true := by
  obtain ⟨ha, hh, h1, ft, fs, fd, hd, hsg, hs, ht, hsu⟩ := h
  refine near_of ha hh fd fs (hd.weak (rat_weak ha (by decide +kernel))) ?_ hs hsu
  rcases hsg with h | h
  · exact .inl h.1
  · exact .inr h.1

theorem Co.words {t c s : Nat} {a : Rat} (h : Co t c s a) : ∃ b rt rs, rt < INF ∧ rs < INF ∧ t = double.word b rt ∧ s = double.word b rs ∧ (a * (85 / 100) ≤ vq rt ∧ vq rt ≤ a * 2) ∧ (a * (88 / 100) ≤ vq rs ∧ vq rs ≤ a * 2) ∧ ((vq t = vq rt ∧ vq s = vq rs) ∨ (vq t = -vq rt ∧ vq s = -vq rs)) := by
  obtain ⟨ha, hh, h1, ⟨bt, rt, hrt, rfl⟩, ⟨bs, rs, hrs, rfl⟩, fd, hd, hsg, hs, ht, hsu⟩ := h
  obtain ⟨wt, t0⟩ := vq_word_abs bt hrt
  obtain ⟨ws, s0⟩ := vq_word_abs bs hrs
  have nt : ∀ {r : Nat}, r < INF → vq (double.word true r) = -vq r := fun h => vqN h
  unfold Bd at hs ht
  cases bt <;> cases bs
  · rw [word_false, word_false] at *
    refine ⟨false, rt, rs, hrt, hrs, rfl, rfl, ?_, ?_, .inl ⟨rfl, rfl⟩⟩ <;> constructor <;> grind
  · exfalso
    rw [nt hrs] at *
    rw [word_false] at *
    clear wt ws
    grind
  · exfalso
    rw [nt hrt] at *
    rw [word_false] at *
    clear wt ws
    grind
  · rw [nt hrt, nt hrs] at *
    refine ⟨true, rt, rs, hrt, hrs, rfl, rfl, ?_, ?_, .inr ⟨rfl, rfl⟩⟩ <;> constructor <;> grind

theorem exact_lin {t c s a v e b : Rat} (hv : 1 * (t * c - s) - a * e ≤ v ∧ v ≤ 1 * (t * c - s) + a * e) (hb : -(a * b) ≤ v ∧ v ≤ a * b) : -(a * (b + e)) ≤ t * c - s ∧ t * c - s ≤ a * (b + e) := by
  constructor <;> grind
theorem Co.exact {t c s : Nat} {a : Rat} (h : Co t c s a) (hc : In c 4604390187031047700 4607272490792564818) : -(a * (39 / 100 / 2 ^ 45)) ≤ vq t * vq c - vq s ∧ vq t * vq c - vq s ≤ a * (39 / 100 / 2 ^ 45) := by
  obtain ⟨ha, hh, h1, ft, fs, fd, hd, hsg, hs, ht, hsu⟩ := h
  have bc : Bd c (103 / 100) := hc.bd (by decide +kernel) (by decide +kernel)
  have it : In t 13835058055282163712 4611686018427387904 := by
    unfold Bd at ht
    refine In.ofQ ft (l := -2) (u := 2) ?_ (by decide +kernel) (by decide +kernel)
    constructor <;> grind
  have ftc : Fw (fmul t c) := (In_mul (L := 13839561654909534208) (H := 4616189618054758400) it hc (Fw.of (by decide +kernel)) (Fw.of (by decide +kernel)) (Fw.of (by decide +kernel)) (Fw.of (by decide +kernel)) (Fw.of (by decide +kernel)) (Fw.of (by decide +kernel)) (by decide +kernel) (by decide +kernel) (by decide +kernel) (by decide +kernel) (by decide +kernel) (by decide +kernel) (by decide +kernel) (by decide +kernel)).1
  have rt : Er t (1 * vq t) (a * 0) := by unfold Er; constructor <;> grind
  have rs : Er s (1 * vq s) (a * 0) := by unfold Er; constructor <;> grind
  have r1 := s_mul (e' := 3 * uq) ha hh ft hc.1 ftc rt (Er.self c) ht bc (by decide +kernel)
  have b1 := s_mulB (A' := 3) ha hh ft hc.1 ftc ht bc (by decide +kernel)
  have r2 := s_sub (e' := 9 * uq) ha hh ftc fs fd r1 rs b1 hs (by decide +kernel)
  have r3 := exact_lin r2 hd
  have hw := rat_weak ha (show 34 / 100 / 2 ^ 45 + 9 * uq ≤ 39 / 100 / 2 ^ 45 by decide +kernel)
  generalize vq t * vq c - vq s = x at *
  clear r2 r1 b1 rs rt hd hs ht
  exact ⟨by grind, by grind⟩

theorem a_low {a : Rat} (h : hq ≤ a * etq) : hq * 2 ^ 200 ≤ a := by
  have h1 := Rat.mul_le_mul_of_nonneg_right h (show (0 : Rat) ≤ 2 ^ 200 by decide +kernel)
  have e : etq * 2 ^ 200 = 1 := by decide +kernel
  rw [Rat.mul_assoc, e, Rat.mul_one] at h1
  exact h1

/-- The inverse of a positive word. -/
theorem inv_fin {rt : Nat} {a : Rat} (hrt : rt < INF) (ha : hq * 2 ^ 200 ≤ a) (h1 : a ≤ 1) (h2 : a * (85 / 100) ≤ vq rt) (h3 : vq rt ≤ a * 2) : 0 < rt ∧ 0 < fdiv ONE rt ∧ fdiv ONE rt < INF := by
  have e1 : (657525545596092416 : Nat) ≤ rt := by
    have h5 : vq 657525545596092416 ≤ vq rt := by
      have c1 : vq 657525545596092416 ≤ hq * 2 ^ 200 * (85 / 100) := by decide +kernel
      generalize hq * 2 ^ 200 = k at *
      grind
    have h6 := vq_le_inv h5
    rw [sv_fin (show 657525545596092416 < INF by decide), sv_fin hrt] at h6
    exact V_le_iff.1 (Int.ofNat_le.1 h6)
  have e2 : rt ≤ 4611686018427387904 := by
    have h5 : vq rt ≤ vq 4611686018427387904 := by
      rw [show vq 4611686018427387904 = 2 by decide +kernel]; grind
    have h6 := vq_le_inv h5
    rw [sv_fin (show 4611686018427387904 < INF by decide), sv_fin hrt] at h6
    exact V_le_iff.1 (Int.ofNat_le.1 h6)
  have h0 : 0 < rt := Nat.lt_of_lt_of_le (by decide) e1
  refine ⟨h0, ?_, ?_⟩
  · exact Nat.lt_of_lt_of_le (show 0 < fdiv ONE 4611686018427387904 by decide +kernel) (fdiv_mono (show ONE < INF by decide) (show 4611686018427387904 < INF by decide) h0 (Nat.le_refl _) e2)
  · exact Nat.lt_of_le_of_lt (fdiv_mono (show ONE < INF by decide) hrt (show 0 < 657525545596092416 by decide) (Nat.le_refl _) e1) (by decide +kernel)

theorem mulq_fin {q r : Nat} (hq : q < INF) (hr : r < INF) (h : vq q * vq r ≤ 4) : fmul q r < INF := by
  have hU := Uq_pos
  have e : vq 4616189618054758400 = 4 := by decide +kernel
  have hF : 4616189618054758400 < INF := by decide
  have h1 := fmul_Rn hq hr
  have h2 := Rn.exact 4616189618054758400 (Nat.le_of_lt hF)
  refine Nat.lt_of_le_of_lt (h1.mono h2 ?_) hF
  rw [← e, vq_nat hq, vq_nat hr, vq_nat hF] at h
  rw [Nat.mul_one]
  refine Rat.natCast_le_natCast.1 ?_
  rw [Rat.natCast_mul, Rat.natCast_mul]
  have m1 := Rat.mul_le_mul_of_nonneg_right h (show 0 ≤ Uq * Uq by have := Rat.mul_nonneg (show 0 ≤ Uq by grind) (show 0 ≤ Uq by grind); exact this)
  have eU : ((U : Nat) : Rat) = Uq := rfl
  rw [eU]
  generalize (V q : Rat) = x at *
  generalize (V r : Rat) = y at *
  generalize (V 4616189618054758400 : Rat) = w at *
  generalize Uq = u at *
  have a1 : x / u * (y / u) * (u * u) = x * y := by clear m1 h h1 h2; grind
  have a2 : w / u * (u * u) = w * u := by clear m1 h h1 h2 a1; grind
  rw [a1, a2] at m1
  exact m1

theorem inv_lin1 {T S I a : Rat} (hI : I * T = 1) (hI0 : 0 ≤ I) (h1 : a * (85 / 100) ≤ T) (h2 : S ≤ a * 2) : a * I ≤ 20 / 17 ∧ S * I ≤ 40 / 17 := by
  have m1 := Rat.mul_le_mul_of_nonneg_right h1 hI0
  have m2 := Rat.mul_le_mul_of_nonneg_right h2 hI0
  have e1 : T * I = 1 := by rw [Rat.mul_comm]; exact hI
  rw [e1] at m1
  clear h1 h2 hI e1
  constructor <;> grind
theorem inv_lin2 {T S C I a e : Rat} (hI : I * T = 1) (hI0 : 0 ≤ I) (h : -(a * e) ≤ T * C - S ∧ T * C - S ≤ a * e) (ha : a * I ≤ 20 / 17) (he : 0 ≤ e) : -(e * (20 / 17)) ≤ S * I - C ∧ S * I - C ≤ e * (20 / 17) := by
  have m1 := Rat.mul_le_mul_of_nonneg_right h.1 hI0
  have m2 := Rat.mul_le_mul_of_nonneg_right h.2 hI0
  have m3 := Rat.mul_le_mul_of_nonneg_right ha he
  have e1 : (T * C - S) * I = C - S * I := by
    have : (T * C - S) * I = I * T * C - S * I := by clear m1 m2 m3 h ha hI; grind
    rw [this, hI, Rat.one_mul]
  rw [e1] at m1 m2
  clear h hI e1 ha
  constructor <;> grind
theorem inv_lin3 {S I Q u h : Rat} (hQ : I - (I * u + h) ≤ Q ∧ Q ≤ I + (I * u + h)) (hS0 : 0 ≤ S) (hS : S ≤ 2) (hSI : S * I ≤ 40 / 17) (hu : 0 ≤ u) (hh : 0 ≤ h) : -(3 * u + 2 * h) ≤ Q * S - S * I ∧ Q * S - S * I ≤ 3 * u + 2 * h := by
  have m1 := Rat.mul_le_mul_of_nonneg_right hQ.1 hS0
  have m2 := Rat.mul_le_mul_of_nonneg_right hQ.2 hS0
  have m3 := Rat.mul_le_mul_of_nonneg_right hSI hu
  have m4 := Rat.mul_le_mul_of_nonneg_right hS hh
  clear hQ hSI hS
  constructor <;> grind
theorem inv_lin4 {x y C p d e u h : Rat} (h1 : -(e * (20 / 17)) ≤ y - C ∧ y - C ≤ e * (20 / 17)) (h2 : -(3 * u + 2 * h) ≤ x - y ∧ x - y ≤ 3 * u + 2 * h) (h3 : x - (3 * u + h) ≤ p ∧ p ≤ x + (3 * u + h)) (h4 : p - C - (1 * u + h) ≤ d ∧ d ≤ p - C + (1 * u + h)) : -(e * (20 / 17) + 7 * u + 4 * h) ≤ d ∧ d ≤ e * (20 / 17) + 7 * u + 4 * h := by
  constructor <;> grind

theorem Co.swap {t c s : Nat} {a : Rat} (h : Co t c s a) (hc : In c 4604390187031047700 4607272490792564818) {rt rs : Nat} (hrt : rt < INF) (hrs : rs < INF) (h1 : a * (85 / 100) ≤ vq rt ∧ vq rt ≤ a * 2) (h2 : a * (88 / 100) ≤ vq rs ∧ vq rs ≤ a * 2) (hsg : (vq t = vq rt ∧ vq s = vq rs) ∨ (vq t = -vq rt ∧ vq s = -vq rs)) :
    fle (sizeF (fsub (fmul (fdiv ONE rt) rs) c)) (fmul (sizeF c) P45) = true ∧ 0 < rt ∧ 0 < fdiv ONE rt ∧ fdiv ONE rt < INF ∧ fmul (fdiv ONE rt) rs < INF := by
  have hx := h.exact hc
  obtain ⟨ha, hh, ha1, _⟩ := h
  obtain ⟨p0, p1, p2⟩ := inv_fin hrt (a_low hh) ha1 h1.1 h1.2
  have hx2 : -(a * (39 / 100 / 2 ^ 45)) ≤ vq rt * vq c - vq rs ∧ vq rt * vq c - vq rs ≤ a * (39 / 100 / 2 ^ 45) := by
    rcases hsg with ⟨e1, e2⟩ | ⟨e1, e2⟩
    · rw [e1, e2] at hx; exact hx
    · rw [e1, e2] at hx
      have e3 : -vq rt * vq c - -vq rs = -(vq rt * vq c - vq rs) := by generalize vq rt = x; generalize vq c = y; generalize vq rs = z; clear hx h1 h2 e1 e2; grind
      rw [e3] at hx
      generalize vq rt * vq c - vq rs = w at *
      clear h1 h2 e1 e2 e3
      constructor <;> grind
  have T0 := vq_pos hrt p0
  have hI : 1 / vq rt * vq rt = 1 := by generalize vq rt = x at *; clear hx hx2 h1 hsg h2; grind
  have hI0 : 0 ≤ 1 / vq rt := by
    refine Rat.le_of_mul_le_mul_right (c := vq rt) ?_ T0
    rw [hI, Rat.zero_mul]; decide +kernel
  have k1 := inv_lin1 hI hI0 h1.1 h2.2
  have k2 := inv_lin2 hI hI0 hx2 k1.1 (by decide +kernel)
  have v1 : vq ONE = 1 := by decide +kernel
  have fq : Fw (fdiv ONE rt) := ⟨false, _, p2, rfl⟩
  have frs : Fw rs := ⟨false, _, hrs, rfl⟩
  have k3 := q_div (b := 1 / vq rt) (Fw.of (show fwB ONE = true by decide +kernel)) hrt p0 fq (by rw [v1]; generalize 1 / vq rt = x at *; clear hx hx2 h1 hsg h2 k1 k2 hI; grind) (by rw [v1]; exact Rat.le_refl)
  rw [v1] at k3
  have S0 : 0 ≤ vq rs := by generalize vq rs = x at *; clear hx hx2 h1 hsg k1 k2 hI k3 hI0 T0; grind
  have S2 : vq rs ≤ 2 := by generalize vq rs = x at *; clear hx hx2 h1 hsg k1 k2 hI k3 hI0 T0; grind
  have k4 := inv_lin3 k3 S0 S2 k1.2 (by decide +kernel) (by decide +kernel)
  have c5 : 40 / 17 + (3 * uq + 2 * hq) ≤ 3 := by decide +kernel
  have q0 := vq_pos p2 p1
  have k5 : -3 ≤ vq (fdiv ONE rt) * vq rs ∧ vq (fdiv ONE rt) * vq rs ≤ 3 := by
    have := Rat.mul_nonneg (Rat.le_of_lt q0) S0
    generalize vq (fdiv ONE rt) * vq rs = x at *
    generalize vq rs * (1 / vq rt) = y at *
    generalize 3 * uq + 2 * hq = w at *
    clear hx hx2 h1 hsg h2 k2 hI k3 hI0 T0 S0 S2 q0
    constructor <;> grind
  have hp : fmul (fdiv ONE rt) rs < INF := mulq_fin p2 hrs (Rat.le_trans k5.2 (by decide +kernel))
  have fp : Fw (fmul (fdiv ONE rt) rs) := ⟨false, _, hp, rfl⟩
  have k6 := q_mul fq frs fp k5.1 k5.2
  have c1 := hc.qb (l := 689 / 1000) (u := 103 / 100) (by decide +kernel) (by decide +kernel)
  have c6 : 39 / 100 / 2 ^ 45 * (20 / 17) + (3 * uq + 2 * hq) + (3 * uq + hq) ≤ 1 := by decide +kernel
  have k7 : -1 ≤ vq (fmul (fdiv ONE rt) rs) - vq c ∧ vq (fmul (fdiv ONE rt) rs) - vq c ≤ 1 := by
    unfold Er at k6
    generalize vq (fmul (fdiv ONE rt) rs) = p at *
    generalize vq (fdiv ONE rt) * vq rs = x at *
    generalize vq rs * (1 / vq rt) = y at *
    generalize vq c = C at *
    clear hx hx2 h1 hsg h2 hI k3 hI0 T0 S0 S2 q0 c1 k5 k1 c5
    generalize 3 * uq + 2 * hq = w1 at *
    generalize 3 * uq + hq = w2 at *
    generalize (39 / 100 / 2 ^ 45 * (20 / 17) : Rat) = w3 at *
    constructor <;> grind
  have ip : In (fmul (fdiv ONE rt) rs) 0 4616189618054758400 := by
    refine In.ofQ fp (l := 0) (u := 4) ?_ (by decide +kernel) (by decide +kernel)
    have hn : 0 ≤ vq (fmul (fdiv ONE rt) rs) := (vq_word_abs false hp).2
    generalize vq (fmul (fdiv ONE rt) rs) = p at *
    generalize vq c = C at *
    clear hx hx2 h1 hsg h2 hI k3 hI0 T0 S0 S2 q0 k5 k1 c5 k6 k2 k4 c6
    constructor <;> grind
  have fd : Fw (fsub (fmul (fdiv ONE rt) rs) c) := (In_sub ip hc (Fw.of (by decide +kernel)) (Fw.of (by decide +kernel)) (Fw.of (by decide +kernel)) (Fw.of (by decide +kernel)) rfl rfl (Fw.of (by decide +kernel)) (Fw.of (by decide +kernel))).1
  have k8 := q_sub fp hc.1 fd k7.1 k7.2
  have k9 := inv_lin4 k2 k4 k6 k8
  refine ⟨?_, p0, p1, p2, hp⟩
  have a1 : (0 : Rat) < 78 / 100 := by decide +kernel
  refine near_of (a := 78 / 100) a1 (by decide +kernel) fd hc.1 ?_ (.inl (Rat.le_trans (by decide +kernel) c1.1)) (hc.bd (by decide +kernel) (by decide +kernel)) (hc.bd (by decide +kernel) (by decide +kernel))
  exact Bd.weak k9 (by decide +kernel)

end Go.Proofs.YtgbdplmpojkklaaDoor

namespace Go.Proofs.YtgbdplmpojkklaaDoor
open Ieee

theorem negIf_word (b c : Bool) {r : Nat} (h : r < INF) : negIf b (double.word c r) = double.word (b ^^ c) r := by
  cases b
  · show double.word c r = _; rw [Bool.false_xor]
  · show fneg (double.word c r) = _
    rw [fneg_word c r (Nat.lt_trans h INF_lt_SGN), Bool.true_xor]
theorem size_sub (b : Bool) {x y : Nat} (hx : x < INF) (hy : y < INF) : sizeF (fsub (double.word b x) (double.word b y)) = sizeF (fsub x y) := by
  cases b
  · rfl
  · have e1 : fsub (N x) (N y) = fadd (N x) y := by
      have h1 : fsub (N x) (N y) = fadd (N x) (fneg (N y)) := fsub_eq ⟨true, x, hx, rfl⟩ ⟨true, y, hy, rfl⟩
      have h2 : fneg (N y) = y := fneg_word true y (Nat.lt_trans hy INF_lt_SGN)
      rw [h1, h2]
    show sizeF (fsub (N x) (N y)) = _
    rw [e1, fadd_NP hx hy]
    rcases Nat.lt_trichotomy x y with h | h | h
    · have hle : fsub y x ≤ INF := (fsub_Rn hy (Nat.le_of_lt h)).2.1
      rw [fsub_lt_neg hy h]
      have a := sizeF_word true (fsub y x) hle
      have c := sizeF_word false (fsub y x) hle
      rw [word_false] at c
      exact c.trans a.symm
    · rw [h]
    · have hle : fsub x y ≤ INF := (fsub_Rn hx (Nat.le_of_lt h)).2.1
      rw [fsub_lt_neg hx h]
      have a := sizeF_word true (fsub x y) hle
      have c := sizeF_word false (fsub x y) hle
      rw [word_false] at c
      exact a.trans c.symm
theorem size_word (b : Bool) {x : Nat} (hx : x < INF) : sizeF (double.word b x) = sizeF x := by
  have a := sizeF_word b x (Nat.le_of_lt hx)
  have c := sizeF_word false x (Nat.le_of_lt hx)
  rw [word_false] at c
  exact a.trans c.symm
theorem fne_word0 (b : Bool) {x : Nat} (hx : x < INF) (h0 : 0 < x) : fne (double.word b x) 0 = true := by
  have a := feq_zero b x (Nat.le_of_lt hx)
  unfold fne feq at *
  rw [bne, a]
  simp; omega

theorem tanQuot_fin (b : Bool) {r : Nat} (hr : r < INF) (hlo : 4481081629233643520 ≤ r) : nearF (fmul (tanR b r) (cosR r)) (sinR b r) 4404520435568345088 = true ∧ fne (tanR b r) 0 = true := by
  have hz := redZ_in hr
  obtain ⟨a, h⟩ := quot0 hz (redZ_away hr hlo)
  have hc := cosP_in hz
  have hcp := hc.pos (by decide) (by decide) (by decide)
  have hcI : cosP (redZ r) < INF := Nat.lt_of_le_of_lt hcp.2 (by decide)
  have hn := h.near
  obtain ⟨g, rt, rs, hrt, hrs, et, es, bt, bs, hsg⟩ := h.words
  obtain ⟨hw, p0, p1, p2, p3⟩ := h.swap hc hrt hrs bt bs hsg
  unfold nearF sinR cosR tanR
  generalize decide (3 < redJ r) = j
  by_cases hj : redJ r % 4 = 2
  · rw [if_pos hj, if_pos hj, if_pos ((redT_iff r).2 hj), et, es]
    rw [oneN_eq, fdiv_word true g (show ONE < INF by decide) hrt p0, negIf_word _ _ p2, negIf_word _ _ hrs, fmul_word _ _ p2 hrs]
    have e1 : negIf (b ^^ j) (cosP (redZ r)) = double.word (b ^^ j) (cosP (redZ r)) := by
      have := negIf_word (b ^^ j) false hcI
      rw [word_false, Bool.xor_false] at this; exact this
    rw [e1]
    have e2 : ((b ^^ (true ^^ g)) ^^ (j ^^ decide (redJ r % 4 = 2) ^^ g)) = (b ^^ j) := by
      rw [decide_eq_true hj]; cases b <;> cases g <;> cases j <;> rfl
    rw [e2, size_sub _ p3 hcI, size_word _ hcI]
    exact ⟨hw, fne_word0 _ p2 p1⟩
  · have hj2 : ¬ uand (redT r) 2 = 2 := fun hh => hj ((redT_iff r).1 hh)
    rw [if_neg hj, if_neg hj, if_neg hj2]
    rw [et, es] at hn ⊢
    have e1 : negIf (j ^^ decide (redJ r % 4 = 2)) (cosP (redZ r)) = double.word j (cosP (redZ r)) := by
      have := negIf_word j false hcI
      rw [word_false, Bool.xor_false] at this
      rw [decide_eq_false hj, Bool.xor_false]; exact this
    rw [e1, negIf_word _ _ hrt, negIf_word _ _ hrs, fmul_word _ _ hrt hcI]
    have e0 := fmul_word g false hrt hcI
    rw [word_false, Bool.xor_false] at e0
    have hp : fmul rt (cosP (redZ r)) < INF := by
      refine mulq_fin hrt hcI ?_
      have c1 := hc.qb (l := 0) (u := 103 / 100) (by decide +kernel) (by decide +kernel)
      have ha1 := h.2.2.1
      have m := Rat.mul_le_mul_of_nonneg_right (show vq rt ≤ 2 by have := bt.2; generalize vq rt = x at *; clear bs hsg hw hn; grind) c1.1
      generalize vq rt * vq (cosP (redZ r)) = x at *
      generalize vq (cosP (redZ r)) = y at *
      clear bs hsg hw hn bt h
      grind
    have e2 : ((b ^^ g) ^^ j) = (b ^^ j ^^ g) := by
      cases b <;> cases g <;> cases j <;> rfl
    rw [e2, size_sub _ hp hrs, size_word _ hrs]
    rw [e0, size_sub _ hp hrs, size_word _ hrs] at hn
    exact ⟨hn, fne_word0 _ hrt p0⟩

theorem tanIsQuotient_plain (x : Nat) (h : x < 18446744073709551616) : tanQuotF x = true := by
  unfold tanQuotF
  rcases word_cases x h with hn | ⟨s, r, hr, rfl, hn⟩
  · rw [isFiniteF_nan hn]; rfl
  · rw [isFiniteF_word s r hr]
    by_cases hf : r < INF
    · simp only [hf, decide_true, Bool.not_true, Bool.false_or]
      by_cases hlo : r < Z28
      · obtain ⟨f1, f2, _, _, f5⟩ := near_facts s hlo
        rw [f1, f2, f5]
        have e1 : fmul (double.word s r) ONE = double.word s r := by
          have := fmul_word s false hf (show ONE < INF by decide)
          rw [word_false, Bool.xor_false] at this
          rw [this]
          congr 1
          have h1 := fmul_Rn hf (show ONE < INF by decide)
          have h2 := Rn.exact r hr
          rw [V_ONE] at h1
          exact Nat.le_antisymm (h1.mono h2 (by rw [Nat.mul_one]; exact Nat.le_refl _)) (h2.mono h1 (by rw [Nat.mul_one]; exact Nat.le_refl _))
        have e2 : nearF (double.word s r) (double.word s r) 4404520435568345088 = true := by
          unfold nearF
          rw [size_sub s hf hf, fsub_self hf, size_word s hf]
          have e3 := sizeF_word false r hr
          have e4 := sizeF_word false 0 (by decide)
          rw [word_false] at e3 e4
          rw [e3, e4]
          have hle := fmul_le_INF hf (show 4404520435568345088 < INF by decide)
          have e5 := fle_pos false 0 (fmul r 4404520435568345088) (by decide) hle
          rw [word_false] at e5
          rw [e5]; simp
        rw [e1, e2]
        by_cases h0 : r = 0
        · rw [feq_zero s r hr, decide_eq_true h0]; rfl
        · rw [fne_word0 s hf (by omega)]; simp
      · obtain ⟨k1, k2⟩ := tanQuot_fin s hf (show 4481081629233643520 ≤ r from Nat.le_of_not_lt hlo)
        have h0 : r ≠ 0 := by intro e; rw [e] at hlo; exact hlo (by decide)
        rw [tanF_word s hf h0, cosF_word s hf, sinF_word s hf h0, k1, k2]; simp
    · simp [hf]

end Go.Proofs.YtgbdplmpojkklaaDoor
