/-
The reduced numbers lie between -0.7855 and 0.7855. No program in sight.
-/
import Derived.Test.YtgbdplmpojkklaaDoorQa
import Derived.Test.YtgbdplmpojkklaaDoorFpY
namespace Go.Proofs.YtgbdplmpojkklaaDoor
open Ieee

theorem In.ofPos2 {y c d : Nat} (h1 : c ≤ y) (h2 : y ≤ d) (hd : d < INF) : In y c d := by
  have hI := INF_lt_SGN
  have e : ∀ z, z < INF → sv z = V z := fun z hz => sv_word false z (by omega)
  refine ⟨⟨false, y, by omega, (word_false _).symm⟩, ?_, ?_⟩
  · rw [e c (by omega), e y (by omega)]; have := V_le h1; omega
  · rw [e d hd, e y (by omega)]; have := V_le h2; omega

-- GREAT NUMBERS
theorem or_hi (c m : Nat) (hm : m < 4503599627370496) : c * 4503599627370496 ||| m = c * 4503599627370496 + m := by
  have e : (4503599627370496 : Nat) = 2 ^ 52 := by decide
  rw [e, Nat.mul_comm, ← Nat.two_pow_add_eq_or_of_lt (by omega)]
theorem trW_bounds (x : Nat) : 4314448443020935168 ≤ trW x ∧ trW x < 4607182418800017408 := by
  have hlz := lzF_le (trH x)
  have hL : trL x = lzF (trH x) + 1 := by unfold trL uadd; omega
  have hL1 : 1 ≤ trL x ∧ trL x ≤ 65 := by omega
  have hF : trF x < 4503599627370496 := by
    unfold trF ushr
    rw [show min 12 64 = 12 by decide]
    have : uor (ushl (trH x) (trL x)) (trLo x / 2 ^ min (usub 64 (trL x)) 64) < 18446744073709551616 := by
      refine Nat.or_lt_two_pow (n := 64) (Nat.mod_lt _ (by decide)) (Nat.lt_of_le_of_lt (Nat.div_le_self _ _) (Nat.mod_lt _ (by decide)))
    omega
  have hS : usub 1023 (trL x) = 1023 - trL x := by unfold usub; omega
  have hE : ushl (usub 1023 (trL x)) 52 = (1023 - trL x) * 4503599627370496 := by
    unfold ushl
    rw [hS, show min 52 64 = 52 by decide, show (2 : Nat) ^ 52 = 4503599627370496 by decide]
    omega
  have hW : trW x = (1023 - trL x) * 4503599627370496 + trF x := by
    unfold trW
    rw [hE]
    show trF x ||| _ = _
    rw [Nat.or_comm, or_hi _ _ hF]
  rw [hW]; omega
theorem trZ_in (x : Nat) : In (trZ x) 13828622411414651273 4605250374559875465 := by
  obtain ⟨h1, h2⟩ := trW_bounds x
  have i0 : In (trW x) 4314448443020935168 4607182418800017407 := In.ofPos2 h1 (by omega) (by decide)
  unfold trZ
  split
  · have i1 : In (fsub (trW x) 4607182418800017408) 13830554455654793216 13591863675404156928 := In_sub i0 (In.const (Fw.of (by decide +kernel))) (Fw.of (by decide +kernel)) (Fw.of (by decide +kernel)) (Fw.of (by decide +kernel)) (Fw.of (by decide +kernel)) (by decide +kernel) (by decide +kernel) (Fw.of (by decide +kernel)) (Fw.of (by decide +kernel))
    have i2 : In (fmul (fsub (trW x) 4607182418800017408) 4605249457297304856) 13828622411414651273 4605250374559875465 := In_mul i1 (In.const (Fw.of (by decide +kernel))) (Fw.of (by decide +kernel)) (Fw.of (by decide +kernel)) (Fw.of (by decide +kernel)) (Fw.of (by decide +kernel)) (Fw.of (by decide +kernel)) (Fw.of (by decide +kernel)) (by decide +kernel) (by decide +kernel) (by decide +kernel) (by decide +kernel) (by decide +kernel) (by decide +kernel) (by decide +kernel) (by decide +kernel)
    exact i2
  · have i2 : In (fmul (trW x) 4605249457297304856) 13828622411414651273 4605250374559875465 := In_mul i0 (In.const (Fw.of (by decide +kernel))) (Fw.of (by decide +kernel)) (Fw.of (by decide +kernel)) (Fw.of (by decide +kernel)) (Fw.of (by decide +kernel)) (Fw.of (by decide +kernel)) (Fw.of (by decide +kernel)) (by decide +kernel) (by decide +kernel) (by decide +kernel) (by decide +kernel) (by decide +kernel) (by decide +kernel) (by decide +kernel) (by decide +kernel)
    exact i2

-- SMALL NUMBERS
theorem fi_up {j : Nat} (h : j < 2147483648) : fadd (fi j) one = fi (j + 1) := by
  obtain ⟨v1, f1⟩ := fi_V (m := j) (by omega)
  obtain ⟨v2, f2⟩ := fi_V (m := j + 1) (by omega)
  rw [one_eq]
  refine (fadd_Rn f1 ONE_lt).unique (Rn.exact _ (Nat.le_of_lt f2)) ?_
  rw [v1, v2, V_ONE, Nat.mul_one, Nat.mul_one, Nat.add_mul, Nat.one_mul]
/-- The even whole number that is taken off. -/
def smN (r : Nat) : Nat := if uand (smJ r) 1 = 1 then smJ r + 1 else smJ r
theorem smY_eq {r : Nat} (h : r < TH29) : smY r = fi (smN r) := by
  have hj := (small_mul h).2
  unfold smY smN
  split
  · exact fi_up (by show truncF (fmul r M4PI) < _; omega)
  · rfl
theorem vq_fi {n : Nat} (h : n ≤ 2147483648) : vq (fi n) = (n : Rat) ∧ fi n < INF := by
  obtain ⟨v1, f1⟩ := fi_V h
  have hU := Uq_pos
  refine ⟨?_, f1⟩
  rw [vq_nat f1, v1, Rat.natCast_mul]
  show (n : Rat) * Uq / Uq = n
  grind
theorem hq_small : 0 < hq ∧ hq ≤ 1 / 100000000000000000000 := by
  constructor <;> decide +kernel

theorem In.qb {x a b : Nat} (h : In x a b) {l u : Rat} (ha : l ≤ vq a) (hb : vq b ≤ u) : l ≤ vq x ∧ vq x ≤ u := ⟨Rat.le_trans ha h.q.1, Rat.le_trans h.q.2 hb⟩
theorem ax1 {y c : Rat} (h : 0 ≤ y ∧ y ≤ 1073741824) (h0 : 0 ≤ c) (h1 : 1073741824 * c ≤ 1000000000) : -1000000000 ≤ y * c ∧ y * c ≤ 1000000000 := by
  have m1 := Rat.mul_nonneg h.1 h0
  have m2 := Rat.mul_le_mul_of_nonneg_right h.2 h0
  constructor <;> grind
theorem ax2 {x y a b c d : Rat} (hx : a ≤ x ∧ x ≤ b) (hy : c ≤ y ∧ y ≤ d) (h1 : -2000000000 ≤ a - d) (h2 : b - c ≤ 2000000000) : -2000000000 ≤ x - y ∧ x - y ≤ 2000000000 := by
  constructor <;> grind
theorem ax3 {y c : Rat} (h : 0 ≤ y ∧ y ≤ 536870912) (h0 : 0 ≤ c) (h1 : 536870912 * c ≤ 1000000000) : -1000000000 ≤ y * c ∧ y * c ≤ 1000000000 := by
  have m1 := Rat.mul_nonneg h.1 h0
  have m2 := Rat.mul_le_mul_of_nonneg_right h.2 h0
  constructor <;> grind
theorem err_aux : 2000000000 * uq + hq ≤ 1 / 4000000 := by decide +kernel
theorem chain_lin {R w1 a1 a2 w2 a3 w3 p q s d : Rat} (h1 : p - d ≤ a1 ∧ a1 ≤ p + d) (h2 : R - a1 - d ≤ w1 ∧ w1 ≤ R - a1 + d) (h3 : q - d ≤ a2 ∧ a2 ≤ q + d) (h4 : w1 - a2 - d ≤ w2 ∧ w2 ≤ w1 - a2 + d) (h5 : s - d ≤ a3 ∧ a3 ≤ s + d) (h6 : w2 - a3 - d ≤ w3 ∧ w3 ≤ w2 - a3 + d) :
    R - (p + q + s) - 6 * d ≤ w3 ∧ w3 ≤ R - (p + q + s) + 6 * d := by
  constructor <;> grind
theorem Er.weak {x : Nat} {p e e' : Rat} (h : Er x p e) (he : e ≤ e') : Er x p e' := by
  unfold Er at *; constructor <;> grind
theorem chain_aux {r y v1 v2 v3 v4 v5 v6 : Nat} (n0 : Er v1 (vq y * (6588397 / 8388608 : Rat)) (1000000000 * uq + hq)) (n1 : Er v2 (vq r - vq v1) (2000000000 * uq + hq)) (n2 : Er v3 (vq y * (1328173 / 35184372088832 : Rat)) (1000000000 * uq + hq)) (n3 : Er v4 (vq v2 - vq v3) (2000000000 * uq + hq)) (n4 : Er v5 (vq y * (427063790847255 / 158456325028528675187087900672 : Rat)) (1000000000 * uq + hq)) (n5 : Er v6 (vq v4 - vq v5) (2000000000 * uq + hq)) :
    Er v6 (vq r - vq y * (124451306656115542615260972311 / 158456325028528675187087900672 : Rat)) (3 / 2000000) := by
  have k0 := n0.weak (e' := 1 / 4000000) (by decide +kernel)
  have k1 := n1.weak (e' := 1 / 4000000) (by decide +kernel)
  have k2 := n2.weak (e' := 1 / 4000000) (by decide +kernel)
  have k3 := n3.weak (e' := 1 / 4000000) (by decide +kernel)
  have k4 := n4.weak (e' := 1 / 4000000) (by decide +kernel)
  have k5 := n5.weak (e' := 1 / 4000000) (by decide +kernel)
  have h := chain_lin k0 k1 k2 k3 k4 k5
  clear n0 n1 n2 n3 n4 n5 k0 k1 k2 k3 k4 k5
  generalize vq y = Y at *
  unfold Er
  have e : Y * (6588397 / 8388608 : Rat) + Y * (1328173 / 35184372088832 : Rat) + Y * (427063790847255 / 158456325028528675187087900672 : Rat) = Y * (124451306656115542615260972311 / 158456325028528675187087900672 : Rat) := by grind
  rw [e] at h
  have e2 : (6 : Rat) * (1 / 4000000) = 3 / 2000000 := by decide +kernel
  rw [e2] at h
  exact h

set_option maxRecDepth 10000 in
theorem small_chain {r y : Nat} (hr : In r 0 4737786807993761792) (hy : In y 0 4742290407621132288) :
    Er (fsub (fsub (fsub r (fmul y 4605249456957292544)) (fmul y 4495793288086814720)) (fmul y 4388835458085048688)) (vq r - vq y * (124451306656115542615260972311 / 158456325028528675187087900672 : Rat)) (3 / 2000000) ∧ Fw (fsub (fsub (fsub r (fmul y 4605249456957292544)) (fmul y 4495793288086814720)) (fmul y 4388835458085048688)) := by
  obtain ⟨v1, e1⟩ : ∃ v, v = fmul y 4605249456957292544 := ⟨_, rfl⟩
  have i1 : In v1 0 4740357445778407424 := by rw [e1]; exact In_mul hy (In.const (Fw.of (by decide +kernel))) (Fw.of (by decide +kernel)) (Fw.of (by decide +kernel)) (Fw.of (by decide +kernel)) (Fw.of (by decide +kernel)) (Fw.of (by decide +kernel)) (Fw.of (by decide +kernel)) (by decide +kernel) (by decide +kernel) (by decide +kernel) (by decide +kernel) (by decide +kernel) (by decide +kernel) (by decide +kernel) (by decide +kernel)
  obtain ⟨v2, e2⟩ : ∃ v, v = fsub r v1 := ⟨_, rfl⟩
  have i2 : In v2 13963729482633183232 4737786807993761792 := by rw [e2]; exact In_sub hr i1 (Fw.of (by decide +kernel)) (Fw.of (by decide +kernel)) (Fw.of (by decide +kernel)) (Fw.of (by decide +kernel)) (by decide +kernel) (by decide +kernel) (Fw.of (by decide +kernel)) (Fw.of (by decide +kernel))
  obtain ⟨v3, e3⟩ : ∃ v, v = fmul y 4495793288086814720 := ⟨_, rfl⟩
  have i3 : In v3 0 4630901276907929600 := by rw [e3]; exact In_mul hy (In.const (Fw.of (by decide +kernel))) (Fw.of (by decide +kernel)) (Fw.of (by decide +kernel)) (Fw.of (by decide +kernel)) (Fw.of (by decide +kernel)) (Fw.of (by decide +kernel)) (Fw.of (by decide +kernel)) (by decide +kernel) (by decide +kernel) (by decide +kernel) (by decide +kernel) (by decide +kernel) (by decide +kernel) (by decide +kernel) (by decide +kernel)
  obtain ⟨v4, e4⟩ : ∃ v, v = fsub v2 v3 := ⟨_, rfl⟩
  have i4 : In v4 13963729482973195520 4737786807993761792 := by rw [e4]; exact In_sub i2 i3 (Fw.of (by decide +kernel)) (Fw.of (by decide +kernel)) (Fw.of (by decide +kernel)) (Fw.of (by decide +kernel)) (by decide +kernel) (by decide +kernel) (Fw.of (by decide +kernel)) (Fw.of (by decide +kernel))
  obtain ⟨v5, e5⟩ : ∃ v, v = fmul y 4388835458085048688 := ⟨_, rfl⟩
  have i5 : In v5 0 4523943446906163568 := by rw [e5]; exact In_mul hy (In.const (Fw.of (by decide +kernel))) (Fw.of (by decide +kernel)) (Fw.of (by decide +kernel)) (Fw.of (by decide +kernel)) (Fw.of (by decide +kernel)) (Fw.of (by decide +kernel)) (Fw.of (by decide +kernel)) (by decide +kernel) (by decide +kernel) (by decide +kernel) (by decide +kernel) (by decide +kernel) (by decide +kernel) (by decide +kernel) (by decide +kernel)
  obtain ⟨v6, e6⟩ : ∃ v, v = fsub v4 v5 := ⟨_, rfl⟩
  have i6 : In v6 13963729482973195544 4737786807993761792 := by rw [e6]; exact In_sub i4 i5 (Fw.of (by decide +kernel)) (Fw.of (by decide +kernel)) (Fw.of (by decide +kernel)) (Fw.of (by decide +kernel)) (by decide +kernel) (by decide +kernel) (Fw.of (by decide +kernel)) (Fw.of (by decide +kernel))
  have cA : vq 4605249456957292544 = (6588397 / 8388608 : Rat) := by decide +kernel
  have cB : vq 4495793288086814720 = (1328173 / 35184372088832 : Rat) := by decide +kernel
  have cC : vq 4388835458085048688 = (427063790847255 / 158456325028528675187087900672 : Rat) := by decide +kernel
  have fA : Fw 4605249456957292544 := (Fw.of (by decide +kernel))
  have fB : Fw 4495793288086814720 := (Fw.of (by decide +kernel))
  have fC : Fw 4388835458085048688 := (Fw.of (by decide +kernel))
  have ry := hy.qb (l := 0) (u := 1073741824) (by decide +kernel) (by decide +kernel)
  have rr := hr.qb (l := 0) (u := 536870912) (by decide +kernel) (by decide +kernel)
  have k1 := i1.qb (l := 0) (u := 900000000) (by decide +kernel) (by decide +kernel)
  have k2 := i2.qb (l := -900000000) (u := 900000000) (by decide +kernel) (by decide +kernel)
  have k3 := i3.qb (l := 0) (u := 100) (by decide +kernel) (by decide +kernel)
  have k4 := i4.qb (l := -900000000) (u := 900000000) (by decide +kernel) (by decide +kernel)
  have k5 := i5.qb (l := 0) (u := 1) (by decide +kernel) (by decide +kernel)
  have n0 := q_mul hy.1 fA (by rw [← e1]; exact i1.1) (b := 1000000000) (by rw [cA]; exact (ax1 ry (by decide +kernel) (by decide +kernel)).1) (by rw [cA]; exact (ax1 ry (by decide +kernel) (by decide +kernel)).2)
  have n2 := q_mul hy.1 fB (by rw [← e3]; exact i3.1) (b := 1000000000) (by rw [cB]; exact (ax1 ry (by decide +kernel) (by decide +kernel)).1) (by rw [cB]; exact (ax1 ry (by decide +kernel) (by decide +kernel)).2)
  have n4 := q_mul hy.1 fC (by rw [← e5]; exact i5.1) (b := 1000000000) (by rw [cC]; exact (ax1 ry (by decide +kernel) (by decide +kernel)).1) (by rw [cC]; exact (ax1 ry (by decide +kernel) (by decide +kernel)).2)
  have n1 := q_sub hr.1 i1.1 (by rw [← e2]; exact i2.1) (b := 2000000000) (ax2 rr k1 (by decide +kernel) (by decide +kernel)).1 (ax2 rr k1 (by decide +kernel) (by decide +kernel)).2
  have n3 := q_sub i2.1 i3.1 (by rw [← e4]; exact i4.1) (b := 2000000000) (ax2 k2 k3 (by decide +kernel) (by decide +kernel)).1 (ax2 k2 k3 (by decide +kernel) (by decide +kernel)).2
  have n5 := q_sub i4.1 i5.1 (by rw [← e6]; exact i6.1) (b := 2000000000) (ax2 k4 k5 (by decide +kernel) (by decide +kernel)).1 (ax2 k4 k5 (by decide +kernel) (by decide +kernel)).2
  rw [← e1, cA] at n0
  rw [← e3, cB] at n2
  rw [← e5, cC] at n4
  rw [← e2] at n1
  rw [← e4] at n3
  rw [← e6] at n5
  have e : fsub (fsub (fsub r (fmul y 4605249456957292544)) (fmul y 4495793288086814720)) (fmul y 4388835458085048688) = v6 := by subst_vars; rfl
  rw [e]
  exact ⟨chain_aux n0 n1 n2 n3 n4 n5, i6.1⟩

theorem vq_le_inv {x y : Nat} (h : vq x ≤ vq y) : sv x ≤ sv y := by
  have hU := Uq_pos
  have := Rat.mul_le_mul_of_nonneg_right h (show 0 ≤ Uq by grind)
  rw [← svq, ← svq] at this
  exact Rat.intCast_le_intCast.1 this
theorem In.ofQ {x a b : Nat} (hx : Fw x) {l u : Rat} (h : l ≤ vq x ∧ vq x ≤ u) (ha : vq a ≤ l) (hb : u ≤ vq b) : In x a b := ⟨hx, vq_le_inv (Rat.le_trans ha h.1), vq_le_inv (Rat.le_trans h.2 hb)⟩
theorem trunc_q {m : Nat} (h : m < INF) : (truncF m : Rat) ≤ vq m ∧ vq m < (truncF m : Rat) + 1 := by
  have hU := Uq_pos
  have h1 : truncF m * U ≤ V m := Nat.div_mul_le_self _ _
  have h2 : V m < (truncF m + 1) * U := by
    have := Nat.lt_div_mul_add (a := V m) U_pos
    rw [Nat.add_mul, Nat.one_mul]; exact this
  have q1 := Rat.natCast_le_natCast.2 h1
  have q2 := Rat.natCast_lt_natCast.2 h2
  simp only [Rat.natCast_mul, Rat.natCast_add] at q1 q2
  have e : (V m : Rat) = vq m * Uq := by rw [vq_nat h]; grind
  rw [e] at q1 q2
  have c1 : ((1 : Nat) : Rat) = 1 := rfl
  rw [c1] at q2
  constructor
  · exact Rat.le_of_mul_le_mul_right q1 hU
  · rcases Rat.le_total (a := vq m) (b := (truncF m : Rat) + 1) with hh | hh
    · by_cases he : vq m = (truncF m : Rat) + 1
      · rw [he] at q2
        change _ < ((truncF m : Rat) + 1) * Uq at q2
        grind
      · grind
    · have := Rat.mul_le_mul_of_nonneg_right hh (show 0 ≤ Uq by grind)
      change vq m * Uq < ((truncF m : Rat) + 1) * Uq at q2
      grind

theorem red_lin {R T n v c D e : Rat} (hR : R = T * c) (hT : v - e ≤ T ∧ T ≤ v + e) (hv : -1 ≤ v - n ∧ v - n ≤ 1) (hn : 0 ≤ n ∧ n ≤ 1073741824) (c0 : 0 ≤ c) (hcD : -(1 / 2000000000000000) ≤ c - D ∧ c - D ≤ 1 / 2000000000000000) :
    -((1 + e) * c + 1073741824 * (1 / 2000000000000000)) ≤ R - n * D ∧ R - n * D ≤ (1 + e) * c + 1073741824 * (1 / 2000000000000000) := by
  have a1 : -(1 + e) ≤ T - n := by grind
  have a2 : T - n ≤ 1 + e := by grind
  have m1 := Rat.mul_le_mul_of_nonneg_right a1 c0
  have m2 := Rat.mul_le_mul_of_nonneg_right a2 c0
  have m3 := Rat.mul_le_mul_of_nonneg_right hcD.1 hn.1
  have m4 := Rat.mul_le_mul_of_nonneg_right hcD.2 hn.1
  have e1 : R - n * D = (T - n) * c + (c - D) * n := by rw [hR]; grind
  have e2 : (1 / 2000000000000000 : Rat) * n ≤ 1073741824 * (1 / 2000000000000000) := by grind
  rw [e1]
  constructor <;> grind

set_option maxRecDepth 10000 in
theorem smZ_in {r : Nat} (h : r < TH29) : In (smZ r) 13828622411414651273 4605250374559875465 := by
  have hTI : TH29 < INF := by decide
  have hr : r < INF := by omega
  have hrI : In r 0 4737786807993761792 := In.ofPos2 (Nat.zero_le _) (Nat.le_of_lt h) (by decide)
  obtain ⟨hm, hj⟩ := small_mul h
  have hn : smN r ≤ 1073741824 := by
    have : smJ r < 1073741824 := hj
    unfold smN; split <;> omega
  obtain ⟨vy, fy⟩ := vq_fi (n := smN r) (by omega)
  have hnq : (0 : Rat) ≤ (smN r : Rat) ∧ (smN r : Rat) ≤ 1073741824 := ⟨Rat.natCast_nonneg, Rat.natCast_le_natCast.2 hn⟩
  have hyI : In (fi (smN r)) 0 4742290407621132288 := by
    refine In.ofQ ⟨false, _, fy, (word_false _).symm⟩ (l := 0) (u := 1073741824) ?_ (by decide +kernel) (by decide +kernel)
    rw [vy]; exact hnq
  obtain ⟨hz, fz⟩ := small_chain hrI hyI
  have eZ : smZ r = fsub (fsub (fsub r (fmul (fi (smN r)) 4605249456957292544)) (fmul (fi (smN r)) 4495793288086814720)) (fmul (fi (smN r)) 4388835458085048688) := by unfold smZ; rw [smY_eq h]
  rw [← eZ] at hz fz
  rw [vy] at hz
  -- the multiple
  have rr := hrI.qb (l := 0) (u := 536870912) (by decide +kernel) (by decide +kernel)
  have cM : vq M4PI = (5734161139222659 / 4503599627370496 : Rat) := by decide +kernel
  have nm := (q_mul hrI.1 (show Fw M4PI from (Fw.of (by decide +kernel))) ⟨false, _, hm, (word_false _).symm⟩ (b := 1000000000) (by rw [cM]; exact (ax3 rr (by decide +kernel) (by decide +kernel)).1) (by rw [cM]; exact (ax3 rr (by decide +kernel) (by decide +kernel)).2)).weak (e' := 1 / 4000000) (by decide +kernel)
  rw [cM] at nm
  have tq := trunc_q hm
  have hv : -1 ≤ vq (fmul r M4PI) - (smN r : Rat) ∧ vq (fmul r M4PI) - (smN r : Rat) ≤ 1 := by
    have e0 : ((truncF (fmul r M4PI) : Nat) : Rat) = (smJ r : Rat) := rfl
    rw [e0] at tq
    unfold smN
    split
    · rw [Rat.natCast_add, show ((1 : Nat) : Rat) = 1 from rfl]
      generalize vq (fmul r M4PI) = v at *
      generalize (smJ r : Rat) = k at *
      constructor <;> grind
    · generalize vq (fmul r M4PI) = v at *
      generalize (smJ r : Rat) = k at *
      constructor <;> grind
  have k := red_lin (R := vq r) (T := vq r * (5734161139222659 / 4503599627370496 : Rat)) (n := (smN r : Rat)) (v := vq (fmul r M4PI)) (c := (4503599627370496 / 5734161139222659 : Rat)) (D := (124451306656115542615260972311 / 158456325028528675187087900672 : Rat)) (e := 1 / 4000000)
    (by rw [Rat.mul_assoc, show ((5734161139222659 / 4503599627370496 : Rat) * (4503599627370496 / 5734161139222659 : Rat) : Rat) = 1 by decide +kernel, Rat.mul_one])
    (by unfold Er at nm; generalize vq (fmul r M4PI) = v at *; generalize vq r * (5734161139222659 / 4503599627370496 : Rat) = t at *; constructor <;> grind)
    hv hnq (by decide +kernel) ⟨(by decide +kernel), (by decide +kernel)⟩
  have k1 : -(78541 / 100000) ≤ vq r - (smN r : Rat) * (124451306656115542615260972311 / 158456325028528675187087900672 : Rat) := Rat.le_trans (by decide +kernel) k.1
  have k2 : vq r - (smN r : Rat) * (124451306656115542615260972311 / 158456325028528675187087900672 : Rat) ≤ 78541 / 100000 := Rat.le_trans k.2 (by decide +kernel)
  refine In.ofQ fz (l := -(78542 / 100000)) (u := 78542 / 100000) ?_ (by decide +kernel) (by decide +kernel)
  unfold Er at hz
  generalize vq r - (smN r : Rat) * (124451306656115542615260972311 / 158456325028528675187087900672 : Rat) = t at *
  generalize vq (smZ r) = z at *
  clear k nm tq hv hnq rr
  constructor <;> grind

/-- The reduced number. -/
theorem redZ_in {r : Nat} (h : r < INF) : In (redZ r) 13828622411414651273 4605250374559875465 := by
  unfold redZ
  rw [fge_TH (Nat.le_of_lt h)]
  split
  · exact trZ_in r
  · next hh =>
    simp only [decide_eq_true_eq] at hh
    exact smZ_in (by omega)

end Go.Proofs.YtgbdplmpojkklaaDoor
