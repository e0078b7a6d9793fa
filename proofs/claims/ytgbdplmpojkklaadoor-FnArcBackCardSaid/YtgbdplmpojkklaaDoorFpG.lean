/-
The operations on positive words: each is the true result rounded; signs; what grows with what.
-/
import Derived.Test.YtgbdplmpojkklaaDoorFpF
namespace Go.Proofs.YtgbdplmpojkklaaDoor
open Ieee

/-- The negative word of a rung. -/
def N (r : Nat) : Nat := double.word true r

theorem N_eq (r : Nat) : N r = SGN + r := word_true r
theorem word_N (r : Nat) : double.word true r = N r := rfl

theorem fadd_word (s t : Bool) (a b : Nat) (ha : a < INF) (hb : b < INF) :
    ∃ r, fadd (double.word s a) (double.word t b) = double.word (if SV s a + SV t b = 0 then s && t else decide (SV s a + SV t b < 0)) r ∧ Rn (SV s a + SV t b).natAbs 1 r := by
  obtain ⟨r, h, hr⟩ := add_fin s t a b ha hb
  exact ⟨r, by unfold fadd; rw [h]; rfl, hr⟩

theorem fadd_Rn {a b : Nat} (ha : a < INF) (hb : b < INF) : Rn (V a + V b) 1 (fadd a b) := by
  obtain ⟨r, h, hr⟩ := fadd_word false false a b ha hb
  rw [word_false, word_false, SV_false, SV_false] at h
  rw [SV_false, SV_false] at hr
  have e1 : ((V a : Int) + (V b : Int)).natAbs = V a + V b := by omega
  rw [e1] at hr
  have e2 : (if (V a : Int) + (V b : Int) = 0 then false && false else decide ((V a : Int) + (V b : Int) < 0)) = false := by
    split
    · rfl
    · simp; omega
  rw [e2, word_false] at h
  rw [h]; exact hr

theorem fadd_NN {a b : Nat} (ha : a < INF) (hb : b < INF) : fadd (N a) (N b) = N (fadd a b) := by
  obtain ⟨r, h, hr⟩ := fadd_word true true a b ha hb
  have h1 := fadd_Rn ha hb
  rw [SV_true, SV_true] at h hr
  have e1 : (-(V a : Int) + -(V b : Int)).natAbs = V a + V b := by omega
  rw [e1] at hr
  have e2 : (if -(V a : Int) + -(V b : Int) = 0 then true && true else decide (-(V a : Int) + -(V b : Int) < 0)) = true := by
    split
    · rfl
    · simp; omega
  rw [e2] at h
  have : r = fadd a b := hr.unique h1 rfl
  subst this
  exact h

theorem fsub_Rn {a b : Nat} (ha : a < INF) (hb : b ≤ a) : Rn (V a - V b) 1 (fsub a b) := by
  have hv := V_le hb
  have hb' : b < INF := by omega
  obtain ⟨r, h, hr⟩ := fadd_word false true a b ha hb'
  have hs : fsub a b = fadd (double.word false a) (double.word true b) := by
    unfold fsub fadd
    have := sub_fin false false a b ha hb'
    rw [word_false, word_false] at this
    rw [this]; rfl
  rw [SV_false, SV_true] at h hr
  have e1 : ((V a : Int) + -(V b : Int)).natAbs = V a - V b := by omega
  rw [e1] at hr
  have e2 : (if (V a : Int) + -(V b : Int) = 0 then false && true else decide ((V a : Int) + -(V b : Int) < 0)) = false := by
    split
    · rfl
    · simp; omega
  rw [e2] at h
  rw [hs, h, word_false]; exact hr

/-- A positive and a negative number: the difference. -/
theorem fadd_PN {a b : Nat} (ha : a < INF) (hb : b < INF) : fadd a (N b) = fsub a b := by
  unfold fsub fadd
  have := sub_fin false false a b ha hb
  rw [word_false, word_false] at this
  rw [this]; rfl

theorem fadd_comm {a b : Nat} (s t : Bool) (ha : a < INF) (hb : b < INF) : fadd (double.word s a) (double.word t b) = fadd (double.word t b) (double.word s a) := by
  obtain ⟨r, h, hr⟩ := fadd_word s t a b ha hb
  obtain ⟨q, k, hq⟩ := fadd_word t s b a hb ha
  rw [Int.add_comm (SV t b), Bool.and_comm t s] at k
  rw [Int.add_comm (SV t b)] at hq
  have : r = q := hr.unique hq rfl
  rw [h, k, this]

theorem fadd_NP {a b : Nat} (ha : a < INF) (hb : b < INF) : fadd (N a) b = fsub b a := by
  rw [← fadd_PN hb ha]
  have := fadd_comm true false ha hb
  rw [word_false] at this
  exact this

theorem fsub_lt_neg {a b : Nat} (hb : b < INF) (h : a < b) : fsub a b = N (fsub b a) := by
  have ha : a < INF := by omega
  have hv := V_lt h
  obtain ⟨r, h1, hr⟩ := fadd_word false true a b ha hb
  have h2 := fsub_Rn hb (Nat.le_of_lt h)
  rw [← fadd_PN ha hb]
  rw [SV_false, SV_true] at h1 hr
  have e1 : ((V a : Int) + -(V b : Int)).natAbs = V b - V a := by omega
  rw [e1] at hr
  have e2 : (if (V a : Int) + -(V b : Int) = 0 then false && true else decide ((V a : Int) + -(V b : Int) < 0)) = true := by
    rw [if_neg (by omega)]; simp; omega
  rw [e2, word_false] at h1
  have : r = fsub b a := hr.unique h2 rfl
  subst this
  exact h1

theorem fmul_word (s t : Bool) {a b : Nat} (ha : a < INF) (hb : b < INF) : fmul (double.word s a) (double.word t b) = double.word (s ^^ t) (fmul a b) := by
  obtain ⟨r, h, hr⟩ := mul_fin s t a b ha hb
  obtain ⟨q, k, hq⟩ := mul_fin false false a b ha hb
  rw [word_false, word_false] at k
  have e : r = q := hr.unique hq rfl
  unfold fmul
  rw [h, k, e]; rfl
theorem fmul_Rn {a b : Nat} (ha : a < INF) (hb : b < INF) : Rn (V a * V b) U (fmul a b) := by
  obtain ⟨q, k, hq⟩ := mul_fin false false a b ha hb
  rw [word_false, word_false] at k
  unfold fmul; rw [k]; exact hq
theorem fdiv_word (s t : Bool) {a b : Nat} (ha : a < INF) (hb : b < INF) (h0 : 0 < b) : fdiv (double.word s a) (double.word t b) = double.word (s ^^ t) (fdiv a b) := by
  obtain ⟨r, h, hr⟩ := div_fin s t a b ha hb h0
  obtain ⟨q, k, hq⟩ := div_fin false false a b ha hb h0
  rw [word_false, word_false] at k
  have e : r = q := hr.unique hq rfl
  unfold fdiv
  rw [h, k, e]; rfl
theorem fdiv_Rn {a b : Nat} (ha : a < INF) (hb : b < INF) (h0 : 0 < b) : Rn (V a * U) (V b) (fdiv a b) := by
  obtain ⟨q, k, hq⟩ := div_fin false false a b ha hb h0
  rw [word_false, word_false] at k
  unfold fdiv; rw [k]; exact hq

theorem fmul_PN {a b : Nat} (ha : a < INF) (hb : b < INF) : fmul a (N b) = N (fmul a b) := fmul_word false true ha hb
theorem fmul_NP {a b : Nat} (ha : a < INF) (hb : b < INF) : fmul (N a) b = N (fmul a b) := fmul_word true false ha hb
theorem fmul_NN {a b : Nat} (ha : a < INF) (hb : b < INF) : fmul (N a) (N b) = fmul a b := fmul_word true true ha hb
theorem fdiv_NP {a b : Nat} (ha : a < INF) (hb : b < INF) (h0 : 0 < b) : fdiv (N a) b = N (fdiv a b) := fdiv_word true false ha hb h0

theorem fadd_le_INF {a b : Nat} (ha : a < INF) (hb : b < INF) : fadd a b ≤ INF := (fadd_Rn ha hb).2.1
theorem fmul_le_INF {a b : Nat} (ha : a < INF) (hb : b < INF) : fmul a b ≤ INF := (fmul_Rn ha hb).2.1
theorem fdiv_le_INF {a b : Nat} (ha : a < INF) (hb : b < INF) (h0 : 0 < b) : fdiv a b ≤ INF := (fdiv_Rn ha hb h0).2.1

theorem fadd_mono {a b a' b' : Nat} (ha : a' < INF) (hb : b' < INF) (h1 : a ≤ a') (h2 : b ≤ b') : fadd a b ≤ fadd a' b' := by
  refine (fadd_Rn (by omega) (by omega)).mono (fadd_Rn ha hb) ?_
  have := V_le h1; have := V_le h2; omega
theorem fsub_mono {a b a' b' : Nat} (ha : a' < INF) (h0 : b ≤ a) (h1 : a ≤ a') (h2 : b' ≤ b) : fsub a b ≤ fsub a' b' := by
  refine (fsub_Rn (by omega) h0).mono (fsub_Rn ha (by omega)) ?_
  have := V_le h1; have := V_le h2; omega
theorem fmul_mono {a b a' b' : Nat} (ha : a' < INF) (hb : b' < INF) (h1 : a ≤ a') (h2 : b ≤ b') : fmul a b ≤ fmul a' b' := by
  refine (fmul_Rn (by omega) (by omega)).mono (fmul_Rn ha hb) ?_
  exact Nat.mul_le_mul_right _ (Nat.mul_le_mul (V_le h1) (V_le h2))
theorem fdiv_mono {a b a' b' : Nat} (ha : a' < INF) (hb : b < INF) (h0 : 0 < b') (h1 : a ≤ a') (h2 : b' ≤ b) : fdiv a b ≤ fdiv a' b' := by
  refine (fdiv_Rn (by omega) hb (by omega)).mono (fdiv_Rn ha (by omega) h0) ?_
  exact Nat.mul_le_mul (Nat.mul_le_mul_right _ (V_le h1)) (V_le h2)

/-- A difference is no more than what is taken from; it is 0 only of equals. -/
theorem fsub_zero {a : Nat} (ha : a < INF) : fsub a 0 = a := by
  have h := fsub_Rn ha (Nat.zero_le a)
  rw [V_zero, Nat.sub_zero] at h
  exact h.unique (Rn.exact a (by omega)) rfl
theorem fsub_le {a b : Nat} (ha : a < INF) (hb : b ≤ a) : fsub a b ≤ a := by
  have := fsub_mono ha hb (Nat.le_refl a) (Nat.zero_le b)
  rw [fsub_zero ha] at this; exact this
theorem fsub_pos {a b : Nat} (ha : a < INF) (hb : b < a) : 0 < fsub a b := by
  have h := fsub_Rn ha (Nat.le_of_lt hb)
  have hv := V_lt hb
  have h1 := (Rn.exact 1 (by decide)).mono h (by rw [show V 1 = 1 from by decide]; omega)
  omega
theorem fsub_self {a : Nat} (ha : a < INF) : fsub a a = 0 := by
  have h := fsub_Rn ha (Nat.le_refl a)
  rw [Nat.sub_self] at h
  exact h.unique (Rn.exact 0 (by decide)) (by rw [V_zero])
theorem fadd_zero {a : Nat} (ha : a < INF) : fadd a 0 = a := by
  have h := fadd_Rn ha (show 0 < INF by decide)
  rw [V_zero, Nat.add_zero] at h
  exact h.unique (Rn.exact a (by omega)) rfl
theorem fadd_ge {a b : Nat} (ha : a < INF) (hb : b < INF) : a ≤ fadd a b := by
  have := fadd_mono ha hb (Nat.le_refl a) (Nat.zero_le b)
  rw [fadd_zero ha] at this; exact this

theorem V_ONE : V ONE = U := by decide +kernel
theorem fdiv_ONE {a : Nat} (ha : a < INF) : fdiv a ONE = a := by
  have h := fdiv_Rn ha ONE_lt (by decide)
  rw [V_ONE] at h
  exact h.unique (Rn.exact a (by omega)) (by rw [Nat.mul_one])
theorem fdiv_self {a : Nat} (ha : a < INF) (h0 : 0 < a) : fdiv a a = ONE := by
  have h := fdiv_Rn ha ha h0
  exact h.unique (Rn.exact ONE (Nat.le_of_lt ONE_lt)) (by rw [V_ONE, Nat.mul_one, Nat.mul_comm])
theorem fdiv_zero_l {b : Nat} (hb : b < INF) (h0 : 0 < b) : fdiv 0 b = 0 := by
  have h := fdiv_Rn (show 0 < INF by decide) hb h0
  rw [V_zero, Nat.zero_mul] at h
  exact h.unique (Rn.exact 0 (by decide)) (by rw [V_zero]; omega)

/-- Times at most a half: less than it was. -/
def HALF : Nat := 4602678819172646912
theorem V_HALF : 2 * V HALF = U := by decide +kernel
theorem fmul_half_lt {a c : Nat} (ha : a < INF) (h0 : 0 < a) (hc : c ≤ HALF) : fmul a c < a := by
  have hH : HALF < INF := by decide
  have h := fmul_Rn ha (show c < INF by omega)
  obtain ⟨hU, _, h⟩ := h
  have ht := (h (a - 1) (by omega)).2 ?_
  · omega
  have hv := V_le hc
  have e := V_HALF
  -- 2 V a V c ≤ V a U; M (a-1) = V (a-1) + V a
  have h1 : 2 * (V a * V c) ≤ V a * U := by
    rw [← e, Nat.mul_left_comm]; exact Nat.mul_le_mul_left _ (Nat.mul_le_mul_left 2 hv)
  have e1 : M (a - 1) = V (a - 1) + V a := by unfold M; rw [show a - 1 + 1 = a by omega]
  by_cases h2 : a = 1
  · subst h2
    have h3 : V 1 = 1 := by decide
    have h4 : M (1 - 1) = 1 := by decide
    rw [h4]
    rw [h3] at h1 ⊢
    by_cases h5 : 2 * (1 * V c) = 1 * U
    · exact .inr ⟨h5, rfl⟩
    · left; omega
  · left
    have h3 : 0 < V (a - 1) := V_pos (by omega)
    have h4 : 0 < V (a - 1) * U := Nat.mul_pos h3 hU
    rw [e1, Nat.add_mul]; omega

end Go.Proofs.YtgbdplmpojkklaaDoor
