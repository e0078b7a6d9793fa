/-
The library's tests on bits, and Atan2's special cases, in plain terms.
-/
import Derived.Test.YtgbdplmpojkklaaDoorFpL
namespace Go.Proofs.YtgbdplmpojkklaaDoor
open Ieee

def ONE : Nat := 4607182418800017408
theorem one_eq : one = ONE := rfl
theorem ONE_lt : ONE < INF := by decide
theorem oneN_eq : (13830554455654793216 : Nat) = double.word true ONE := by rw [word_true]; rfl

theorem V_lt_dec (a b : Nat) : decide (V a < V b) = decide (a < b) := decide_eq_decide.2 V_lt_iff
theorem SV_lt_neg (s : Bool) (r c : Nat) (hc : 0 < c) : SV s r < SV true c ↔ s = true ∧ c < r := by
  have h0 := V_pos hc
  have h1 := @V_lt_iff c r
  cases s
  · simp [SV] <;> omega
  · simp [SV] <;> omega
theorem SV_gt_pos (s : Bool) (r c : Nat) : SV false c < SV s r ↔ s = false ∧ c < r := by
  have h1 := @V_lt_iff c r
  cases s
  · simp [SV] <;> omega
  · simp [SV] <;> omega

section
variable (s : Bool) (r c : Nat) (h : r ≤ INF) (hc : c ≤ INF)
include h hc
theorem fgt_pos : fgt (double.word s r) c = (!s && decide (c < r)) := by
  have e := fgt_word s false r c h hc
  rw [word_false] at e
  rw [e]
  have h1 := @V_lt_iff c r
  by_cases hr : c < r
  · have := h1.2 hr
    cases s <;> simp [SV, hr] <;> omega
  · have : ¬ V c < V r := fun h => hr (h1.1 h)
    cases s <;> simp [SV, hr] <;> omega
theorem fle_pos : fle (double.word s r) c = (s || decide (r ≤ c)) := by
  have e := fle_word s false r c h hc
  rw [word_false] at e
  rw [e]
  have h1 := @V_le_iff r c
  by_cases hr : r ≤ c
  · have := h1.2 hr
    cases s <;> simp [SV, hr] <;> omega
  · have : ¬ V r ≤ V c := fun h => hr (h1.1 h)
    cases s <;> simp [SV, hr] <;> omega
theorem flt_pos (h0 : 0 < c) : flt (double.word s r) c = (s || decide (r < c)) := by
  have e := flt_word s false r c h hc
  rw [word_false] at e
  rw [e]
  have h1 := @V_lt_iff r c
  have h2 := V_pos h0
  by_cases hr : r < c
  · have := h1.2 hr
    cases s <;> simp [SV, hr] <;> omega
  · have : ¬ V r < V c := fun h => hr (h1.1 h)
    cases s <;> simp [SV, hr] <;> omega
theorem fge_pos (h0 : 0 < c) : fge (double.word s r) c = (!s && decide (c ≤ r)) := by
  have e := fge_word s false r c h hc
  rw [word_false] at e
  rw [e]
  have h1 := @V_le_iff c r
  have h2 := V_pos h0
  by_cases hr : c ≤ r
  · have := h1.2 hr
    cases s <;> simp [SV, hr] <;> omega
  · have : ¬ V c ≤ V r := fun h => hr (h1.1 h)
    cases s <;> simp [SV, hr] <;> omega
end

theorem beyondF_word (s : Bool) (r : Nat) (h : r ≤ INF) : beyondF (double.word s r) = decide (ONE < r) := by
  have hO := Nat.le_of_lt ONE_lt
  have e1 := flt_word s true r ONE h hO
  have e2 := fgt_word s false r ONE h hO
  rw [word_false] at e2
  unfold beyondF
  rw [oneN_eq, one_eq, e1, e2]
  have h1 := SV_lt_neg s r ONE (by decide)
  have h2 := SV_gt_pos s r ONE
  by_cases hr : ONE < r
  · cases s <;> simp [hr, h1, h2]
  · cases s <;> simp [hr, h1, h2]
theorem beyondF_nan {x : Nat} (h : nan x = true) : beyondF x = false := by
  unfold beyondF; rw [order_nan_flt _ h, order_nan_fgt _ h]; rfl

theorem absF_word (s : Bool) (r : Nat) (h : r < SGN) : absF (double.word s r) = r := word_mod s r h
theorem signF_word (s : Bool) (r : Nat) (h : r < SGN) : signF (double.word s r) = s := by
  have hS : SGN = 9223372036854775808 := rfl
  unfold signF
  cases s
  · rw [word_false]; simp; omega
  · rw [word_true]; simp; omega
theorem copyF_word (c : Nat) (hc : c < SGN) (s : Bool) (r : Nat) (h : r < SGN) : copyF c (double.word s r) = double.word s c := by
  unfold copyF
  rw [signF_word s r h]
  have : absF c = c := absF_word false c hc
  rw [this]
  cases s
  · rfl
  · rw [word_true]; rfl

theorem MAX_INF : (9218868437227405311 : Nat) + 1 = INF := by decide
theorem infA_word (s : Bool) (r : Nat) (h : r ≤ INF) : infA (double.word s r) = decide (r = INF) := by
  unfold infA
  have hM := MAX_INF
  have e := fgt_word false false r 9218868437227405311 h (by omega)
  rw [word_false, word_false] at e
  rw [absF_word s r (INF_lt' h), e]
  refine decide_eq_decide.2 ((SV_gt_pos false r _).trans ?_)
  constructor
  · intro hh; omega
  · intro hh; exact ⟨rfl, by omega⟩
theorem infP_word (s : Bool) (r : Nat) (h : r ≤ INF) : infP (double.word s r) = (!s && decide (r = INF)) := by
  unfold infP
  have hM := MAX_INF
  have e := fgt_word s false r 9218868437227405311 h (by omega)
  rw [word_false] at e
  rw [e]
  have h2 := SV_gt_pos s r 9218868437227405311
  by_cases hr : r = INF
  · cases s
    · simp [hr]; rw [SV_gt_pos]; exact ⟨rfl, by omega⟩
    · simp [hr]; have := (SV_gt_pos true INF 9218868437227405311); simp at this; omega
  · have : ¬ 9218868437227405311 < r := by omega
    cases s <;> simp [hr, h2, this]

theorem isFiniteF_word (s : Bool) (r : Nat) (h : r ≤ INF) : isFiniteF (double.word s r) = decide (r < INF) := by
  unfold isFiniteF
  by_cases hr : r < INF
  · have e : fsub (double.word s r) (double.word s r) = 0 := by
      unfold fsub
      rw [sub_fin s s r r hr hr]
      obtain ⟨q, hq, hRn⟩ := add_fin s (!s) r r hr hr
      rw [hq]
      have hz : SV s r + SV (!s) r = 0 := by cases s <;> simp [SV] <;> omega
      rw [hz] at hRn ⊢
      have : q = 0 := by
        have := hRn.mono (Rn.exact 0 (Nat.zero_le _)) (by rw [V_zero]; decide)
        omega
      subst this
      cases s <;> rfl
    rw [e]; simp [hr]; decide +kernel
  · obtain rfl : r = INF := by omega
    cases s
    · rw [word_false]; decide +kernel
    · rw [word_true]; decide +kernel
theorem isFiniteF_nan {x : Nat} (h : nan x = true) : isFiniteF x = false := by
  unfold isFiniteF
  have : fsub x x = cnan := by
    obtain ⟨s, t, hr⟩ := nan_read h
    unfold fsub Format.sub; rw [hr, sum_nan_l]; rfl
  rw [this]; exact order_nan_feq _ nan_cnan

/-- Atan2 of two words that are no NaN. -/
theorem atan2F_word (s t : Bool) (a b : Nat) (ha : a ≤ INF) (hb : b ≤ INF) :
    atan2F (double.word s a) (double.word t b) =
      if a = 0 then (if t then double.word s cPi else double.word s 0)
      else if b = 0 then double.word s cHalf
      else if b = INF then (if t then (if a = INF then double.word s cThree else double.word s cPi) else (if a = INF then double.word s cQuarter else double.word s 0))
      else if a = INF then double.word s cHalf
      else if t then (if fle (atanF (fdiv (double.word s a) (double.word t b))) 0 then fadd (atanF (fdiv (double.word s a) (double.word t b))) cPi else fsub (atanF (fdiv (double.word s a) (double.word t b))) cPi)
      else atanF (fdiv (double.word s a) (double.word t b)) := by
  have hna : isNanF (double.word s a) = false := by
    rw [isNanF_eq _ (word_lt64 s a ha), nan_word s a (INF_lt' ha)]; simp; omega
  have hnb : isNanF (double.word t b) = false := by
    rw [isNanF_eq _ (word_lt64 t b hb), nan_word t b (INF_lt' hb)]; simp; omega
  have hc : ∀ c, c < SGN → copyF c (double.word s a) = double.word s c := fun c hc => copyF_word c hc s a (INF_lt' ha)
  unfold atan2F
  rw [hna, hnb, feq_zero s a ha, feq_zero t b hb, fge_zero t b hb, flt_zero t b hb, infA_word t b hb, infA_word s a ha, infP_word t b hb, signF_word t b (INF_lt' hb),
    hc 0 (by decide), hc 4614256656552045848 (by decide), hc 4609753056924675352 (by decide), hc 4605249457297304856 (by decide), hc 4612488097114038738 (by decide)]
  simp only [Bool.or_self, Bool.false_eq_true, if_false, decide_eq_true_eq]
  by_cases h0 : a = 0
  · rw [if_pos h0, if_pos h0]; cases t <;> simp [cPi]
  · rw [if_neg h0, if_neg h0]
    by_cases h1 : b = 0
    · rw [if_pos h1, if_pos h1]; rfl
    · rw [if_neg h1, if_neg h1]
      by_cases h2 : b = INF
      · rw [if_pos h2, if_pos h2]; cases t <;> simp [h2, cThree, cPi, cQuarter]
      · rw [if_neg h2, if_neg h2]
        by_cases h3 : a = INF
        · rw [if_pos h3, if_pos h3]; rfl
        · rw [if_neg h3, if_neg h3]
          have : 0 < b := by omega
          cases t <;> simp [this, cPi]

theorem nan_false_word (s : Bool) (r : Nat) (h : r ≤ INF) : nan (double.word s r) = false := by rw [nan_word s r (INF_lt' h)]; simp; omega

theorem isNanF_word (s : Bool) (r : Nat) (h : r ≤ INF) : isNanF (double.word s r) = false := by
  rw [isNanF_eq _ (word_lt64 s r h)]; exact nan_false_word s r h

theorem likeF_const (c : Nat) (hc : c ≤ INF) (s : Bool) (r : Nat) (h : r ≤ INF) : likeF c (double.word s r) = double.word s c := likeF_word false s c r hc h

end Go.Proofs.YtgbdplmpojkklaaDoor
