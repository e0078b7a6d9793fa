/-
Words as rational numbers: each operation's error. No program in sight.
-/
import Derived.Test.YtgbdplmpojkklaaDoorFpS
namespace Go.Proofs.YtgbdplmpojkklaaDoor
open Ieee

/-- The rounding's relative error, as whole numbers. -/
theorem Rn.relB {n d r : Nat} (h : Rn n d r) (hr : r < INF) : 9007199254740992 * n ≤ 9007199254740992 * (V r * d) + n + 4503599627370496 * d := by
  by_cases hc : n ≤ V r * d
  · omega
  · have h1 : 2 * n ≤ M r * d := by
      rcases (h.2.2 r hr).1 (Nat.le_refl _) with h1 | ⟨h1, _⟩ <;> omega
    have e1 : M r = 2 * V r + 2 ^ pl r := by unfold M; rw [V_step]; show V r + (V r + 2 ^ pl r) = _; omega
    rw [e1, Nat.add_mul, Nat.mul_assoc] at h1
    by_cases hB : r < B
    · have e2 : pl r = 0 := by unfold pl; rw [Nat.div_eq_of_lt hB]
      rw [e2, Nat.pow_zero, Nat.one_mul] at h1
      generalize V r * d = x at *
      omega
    · have h2 : B * 2 ^ pl r ≤ V r := by
        rw [V_eq]; refine Nat.mul_le_mul_right _ ?_
        unfold mg; rw [if_neg hB]; omega
      have h3 := Nat.mul_le_mul_right d h2
      rw [Nat.mul_assoc, show B = 4503599627370496 from rfl] at h3
      generalize V r * d = x at *
      generalize 2 ^ pl r * d = y at *
      omega
theorem Rn.relA {n d r : Nat} (h : Rn n d r) (hr : r < INF) : 9007199254740992 * (V r * d) ≤ 9007199254740992 * n + n + 4503599627370496 * d := by
  by_cases hc : V r * d ≤ n
  · omega
  · have h0 : r ≠ 0 := by intro h0; apply hc; rw [h0, V_zero, Nat.zero_mul]; exact Nat.zero_le _
    have h1 : M (r - 1) * d ≤ 2 * n := by
      by_cases hh : M (r - 1) * d ≤ 2 * n
      · exact hh
      · have := (h.2.2 (r - 1) (by omega)).2 (.inl (by omega)); omega
    have e1 : M (r - 1) = V (r - 1) + V r := by unfold M; rw [show r - 1 + 1 = r by omega]
    have e2 : V r = V (r - 1) + 2 ^ pl (r - 1) := by
      have := V_step (r - 1); rw [show r - 1 + 1 = r by omega] at this; exact this
    rw [e1, Nat.add_mul] at h1
    have e3 : V r * d = V (r - 1) * d + 2 ^ pl (r - 1) * d := by rw [e2, Nat.add_mul]
    by_cases hB : r - 1 < B
    · have e4 : pl (r - 1) = 0 := by unfold pl; rw [Nat.div_eq_of_lt hB]
      rw [e4, Nat.pow_zero, Nat.one_mul] at e3
      generalize V r * d = x at *
      generalize V (r - 1) * d = y at *
      omega
    · have h2 : B * 2 ^ pl (r - 1) ≤ V (r - 1) := by
        rw [V_eq]; refine Nat.mul_le_mul_right _ ?_
        unfold mg; rw [if_neg hB]; omega
      have h3 := Nat.mul_le_mul_right d h2
      rw [Nat.mul_assoc, show B = 4503599627370496 from rfl] at h3
      generalize V r * d = x at *
      generalize V (r - 1) * d = y at *
      generalize 2 ^ pl (r - 1) * d = z at *
      omega

/-- Rounding's unit, and half the least number. -/
def uq : Rat := 1 / 9007199254740992
def Uq : Rat := (U : Rat)
def hq : Rat := 1 / (2 * Uq)
theorem Uq_pos : 0 < Uq := Rat.natCast_pos.2 U_pos
/-- The number that a word stands for. -/
def vq (x : Nat) : Rat := (sv x : Rat) / Uq

theorem rat_near {n d r : Nat} (h : Rn n d r) (hr : r < INF) :
    (V r : Rat) ≤ (n : Rat) / d + ((n : Rat) / d * uq + 1 / 2) ∧ (n : Rat) / d ≤ (V r : Rat) + ((n : Rat) / d * uq + 1 / 2) := by
  have hd : (0 : Rat) < d := Rat.natCast_pos.2 h.1
  have hA := Rat.natCast_le_natCast.2 (h.relA hr)
  have hB := Rat.natCast_le_natCast.2 (h.relB hr)
  simp only [Rat.natCast_mul, Rat.natCast_add] at hA hB
  have e : (n : Rat) = (n : Rat) / d * d := (Rat.div_mul_cancel (by grind)).symm
  generalize (n : Rat) / d = q at *
  rw [e] at hA hB
  have c1 : ((9007199254740992 : Nat) : Rat) = 9007199254740992 := rfl
  have c2 : ((4503599627370496 : Nat) : Rat) = 4503599627370496 := rfl
  rw [c1, c2] at hA hB
  unfold uq
  constructor
  · refine Rat.le_of_mul_le_mul_right (c := 9007199254740992 * d) ?_ (by grind)
    grind
  · refine Rat.le_of_mul_le_mul_right (c := 9007199254740992 * d) ?_ (by grind)
    grind

theorem natI (n : Nat) : ((n : Int) : Rat) = (n : Rat) := rfl
theorem RnS_near {Z : Int} {d y : Nat} (h : RnS Z d y) (hy : Fw y) {b : Rat} (h1 : -b ≤ (Z : Rat) / d) (h2 : (Z : Rat) / d ≤ b) :
    (Z : Rat) / d - (b * uq + 1 / 2) ≤ (sv y : Rat) ∧ (sv y : Rat) ≤ (Z : Rat) / d + (b * uq + 1 / 2) := by
  obtain ⟨r, hr, hle, e⟩ := h.sv
  have hI : r < INF := by
    obtain ⟨s, r', hr', rfl⟩ := hy
    have hIS := INF_lt_SGN
    have := sv_word s r' (by omega)
    rw [this] at e
    by_cases hh : r < INF
    · exact hh
    · exfalso
      obtain rfl : r = INF := by omega
      have := V_lt hr'
      cases s <;> simp only [SV_false, SV_true] at e <;> split at e <;> omega
  obtain ⟨n1, n2⟩ := rat_near hr hI
  have hd : (0 : Rat) < d := Rat.natCast_pos.2 hr.1
  have hu : (0 : Rat) < uq := by decide +kernel
  rw [e]
  by_cases hz : Z < 0
  · have e2 : ((Z.natAbs : Nat) : Rat) = -(Z : Rat) := by
      have : ((Z.natAbs : Nat) : Int) = -Z := by omega
      rw [← natI, this, Rat.intCast_neg]
    have e3 : ((Z.natAbs : Nat) : Rat) / d = -((Z : Rat) / d) := by rw [e2]; grind
    rw [e3] at n1 n2
    rw [if_pos hz]
    have e4 : ((-(V r : Int) : Int) : Rat) = -(V r : Rat) := by rw [Rat.intCast_neg, natI]
    rw [e4]
    have := Rat.mul_le_mul_of_nonneg_right (show -((Z : Rat) / d) ≤ b by grind) (show (0 : Rat) ≤ uq by grind)
    constructor <;> grind
  · have e2 : ((Z.natAbs : Nat) : Rat) = (Z : Rat) := by
      have : ((Z.natAbs : Nat) : Int) = Z := by omega
      rw [← natI, this]
    have e3 : ((Z.natAbs : Nat) : Rat) / d = (Z : Rat) / d := by rw [e2]
    rw [e3] at n1 n2
    rw [if_neg hz]
    have e4 : (((V r : Int) : Int) : Rat) = (V r : Rat) := natI _
    rw [e4]
    have := Rat.mul_le_mul_of_nonneg_right h2 (show (0 : Rat) ≤ uq by grind)
    constructor <;> grind


/-- A word's number lies within e of p. -/
def Er (x : Nat) (p e : Rat) : Prop := p - e ≤ vq x ∧ vq x ≤ p + e

theorem svq (x : Nat) : (sv x : Rat) = vq x * Uq := by
  have := Uq_pos
  unfold vq; grind
theorem q_add {x y : Nat} {b : Rat} (hx : Fw x) (hy : Fw y) (hr : Fw (fadd x y)) (h1 : -b ≤ vq x + vq y) (h2 : vq x + vq y ≤ b) : Er (fadd x y) (vq x + vq y) (b * uq + hq) := by
  have hU := Uq_pos
  have e : (((sv x + sv y : Int)) : Rat) / ((1 : Nat) : Rat) = (vq x + vq y) * Uq := by
    rw [Rat.intCast_add, svq, svq]
    have : ((1 : Nat) : Rat) = 1 := rfl
    rw [this]; grind
  have m1 := Rat.mul_le_mul_of_nonneg_right h1 (show 0 ≤ Uq by grind)
  have m2 := Rat.mul_le_mul_of_nonneg_right h2 (show 0 ≤ Uq by grind)
  have h := RnS_near (fadd_RnS hx hy) hr (b := b * Uq) (by rw [e]; grind) (by rw [e]; grind)
  rw [e, svq] at h
  unfold Er hq
  constructor
  · refine Rat.le_of_mul_le_mul_right (c := Uq) ?_ hU; grind
  · refine Rat.le_of_mul_le_mul_right (c := Uq) ?_ hU; grind
theorem q_sub {x y : Nat} {b : Rat} (hx : Fw x) (hy : Fw y) (hr : Fw (fsub x y)) (h1 : -b ≤ vq x - vq y) (h2 : vq x - vq y ≤ b) : Er (fsub x y) (vq x - vq y) (b * uq + hq) := by
  have hU := Uq_pos
  have e : (((sv x - sv y : Int)) : Rat) / ((1 : Nat) : Rat) = (vq x - vq y) * Uq := by
    rw [Rat.intCast_sub, svq, svq]
    have : ((1 : Nat) : Rat) = 1 := rfl
    rw [this]; grind
  have m1 := Rat.mul_le_mul_of_nonneg_right h1 (show 0 ≤ Uq by grind)
  have m2 := Rat.mul_le_mul_of_nonneg_right h2 (show 0 ≤ Uq by grind)
  have h := RnS_near (fsub_RnS hx hy) hr (b := b * Uq) (by rw [e]; grind) (by rw [e]; grind)
  rw [e, svq] at h
  unfold Er hq
  constructor
  · refine Rat.le_of_mul_le_mul_right (c := Uq) ?_ hU; grind
  · refine Rat.le_of_mul_le_mul_right (c := Uq) ?_ hU; grind
theorem q_mul {x y : Nat} {b : Rat} (hx : Fw x) (hy : Fw y) (hr : Fw (fmul x y)) (h1 : -b ≤ vq x * vq y) (h2 : vq x * vq y ≤ b) : Er (fmul x y) (vq x * vq y) (b * uq + hq) := by
  have hU := Uq_pos
  have e : (((sv x * sv y : Int)) : Rat) / ((U : Nat) : Rat) = (vq x * vq y) * Uq := by
    rw [Rat.intCast_mul, svq, svq]
    show vq x * Uq * (vq y * Uq) / Uq = _
    grind
  have m1 := Rat.mul_le_mul_of_nonneg_right h1 (show 0 ≤ Uq by grind)
  have m2 := Rat.mul_le_mul_of_nonneg_right h2 (show 0 ≤ Uq by grind)
  have h := RnS_near (fmul_RnS hx hy) hr (b := b * Uq) (by rw [e]; grind) (by rw [e]; grind)
  rw [e, svq] at h
  unfold Er hq
  constructor
  · refine Rat.le_of_mul_le_mul_right (c := Uq) ?_ hU; grind
  · refine Rat.le_of_mul_le_mul_right (c := Uq) ?_ hU; grind
theorem vq_nat {x : Nat} (h : x < INF) : vq x = (V x : Rat) / Uq := by
  have hI := INF_lt_SGN
  have := sv_word false x (by omega)
  unfold vq; rw [show sv x = (V x : Int) from this, natI]
theorem vq_pos {x : Nat} (h : x < INF) (h0 : 0 < x) : 0 < vq x := by
  have hU := Uq_pos
  have hv : (0 : Rat) < (V x : Rat) := Rat.natCast_pos.2 (V_pos h0)
  have e : (V x : Rat) = vq x * Uq := by rw [vq_nat h]; grind
  rcases Rat.le_total (a := vq x) (b := 0) with hh | hh
  · have := Rat.mul_le_mul_of_nonneg_right hh (show 0 ≤ Uq by grind)
    grind
  · by_cases hz : vq x = 0
    · rw [hz] at e; grind
    · grind
theorem q_div {x y : Nat} {b : Rat} (hx : Fw x) (hy : y < INF) (hy0 : 0 < y) (hr : Fw (fdiv x y)) (h1 : -b ≤ vq x / vq y) (h2 : vq x / vq y ≤ b) : Er (fdiv x y) (vq x / vq y) (b * uq + hq) := by
  have hU := Uq_pos
  have hp := vq_pos hy hy0
  have ey : ((V y : Nat) : Rat) = vq y * Uq := by rw [vq_nat hy]; grind
  have e : (((sv x * (U : Int) : Int)) : Rat) / ((V y : Nat) : Rat) = (vq x / vq y) * Uq := by
    rw [Rat.intCast_mul, svq, ey, natI]
    show vq x * Uq * Uq / (vq y * Uq) = _
    grind
  have m1 := Rat.mul_le_mul_of_nonneg_right h1 (show 0 ≤ Uq by grind)
  have m2 := Rat.mul_le_mul_of_nonneg_right h2 (show 0 ≤ Uq by grind)
  have h := RnS_near (fdiv_RnS hx hy hy0) hr (b := b * Uq) (by rw [e]; grind) (by rw [e]; grind)
  rw [e, svq] at h
  unfold Er hq
  constructor
  · refine Rat.le_of_mul_le_mul_right (c := Uq) ?_ hU; grind
  · refine Rat.le_of_mul_le_mul_right (c := Uq) ?_ hU; grind

theorem vq_le {x y : Nat} (h : sv x ≤ sv y) : vq x ≤ vq y := by
  have hU := Uq_pos
  have h2 := Rat.intCast_le_intCast.2 h
  refine Rat.le_of_mul_le_mul_right (c := Uq) ?_ hU
  rw [← svq, ← svq]; exact h2
theorem In.q {x a b : Nat} (h : In x a b) : vq a ≤ vq x ∧ vq x ≤ vq b := ⟨vq_le h.2.1, vq_le h.2.2⟩

end Go.Proofs.YtgbdplmpojkklaaDoor
