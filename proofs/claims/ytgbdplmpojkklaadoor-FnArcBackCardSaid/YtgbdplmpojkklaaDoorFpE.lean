/-
Words: orders, signs, and the reference's small functions, in plain terms.
-/
import Derived.Test.YtgbdplmpojkklaaDoorFpD
import Derived.Test.YtgbdplmpojkklaaDoorFpM
namespace Go.Proofs.YtgbdplmpojkklaaDoor
open Ieee

theorem SGN_two : 18446744073709551616 = 2 * SGN := by decide
theorem word_false (r : Nat) : double.word false r = r := rfl
theorem word_true (r : Nat) : double.word true r = SGN + r := by unfold Format.word; rw [sgn_eq]; rfl

theorem dat_inf {s : Bool} : dat s INF = .infinity s := by unfold dat; rw [if_neg (Nat.lt_irrefl _), if_pos rfl]

theorem cmp_lt {x y : Int} (h : x < y) : compare x y = .lt := by simp [compare, compareOfLessAndEq, h]
theorem cmp_gt {x y : Int} (h : y < x) : compare x y = .gt := by
  have h1 : ¬ x < y := by omega
  have h2 : ¬ x = y := by omega
  simp [compare, compareOfLessAndEq, h1, h2]
theorem cmp_eq {x y : Int} (h : x = y) : compare x y = .eq := by subst h; simp [compare, compareOfLessAndEq]

/-- The order of two words that are no NaN is that of their values. -/
theorem order_word (s t : Bool) (a b : Nat) (ha : a ≤ INF) (hb : b ≤ INF) :
    double.order (double.word s a) (double.word t b) = some (compare (SV s a) (SV t b)) := by
  have hIS := INF_lt_SGN
  by_cases ha' : a < INF
  · by_cases hb' : b < INF
    · exact order_fin s t a b ha' hb'
    · obtain rfl : b = INF := by omega
      have hv := V_lt ha'
      unfold Format.order
      rw [read_word s a (by omega), read_word t INF (by omega), dat_fin ha', dat_inf]
      cases t
      · rw [cmp_lt (by cases s <;> simp [SV] <;> omega)]; rfl
      · rw [cmp_gt (by cases s <;> simp [SV] <;> omega)]; rfl
  · obtain rfl : a = INF := by omega
    by_cases hb' : b < INF
    · have hv := V_lt hb'
      unfold Format.order
      rw [read_word s INF (by omega), read_word t b (by omega), dat_fin hb', dat_inf]
      cases s
      · rw [cmp_gt (by cases t <;> simp [SV] <;> omega)]; rfl
      · rw [cmp_lt (by cases t <;> simp [SV] <;> omega)]; rfl
    · obtain rfl : b = INF := by omega
      have hv : 0 < V INF := V_pos (by decide)
      unfold Format.order
      rw [read_word s INF (by omega), read_word t INF (by omega), dat_inf, dat_inf]
      cases s <;> cases t
      · rw [cmp_eq rfl]; rfl
      · rw [cmp_gt (by simp [SV]; omega)]; rfl
      · rw [cmp_lt (by simp [SV]; omega)]; rfl
      · rw [cmp_eq rfl]; rfl

section
variable (s t : Bool) (a b : Nat) (ha : a ≤ INF) (hb : b ≤ INF)
include ha hb
theorem feq_word : feq (double.word s a) (double.word t b) = decide (SV s a = SV t b) := by
  unfold feq; rw [order_word s t a b ha hb]
  rcases Int.lt_trichotomy (SV s a) (SV t b) with h | h | h
  · rw [cmp_lt h]; simp; omega
  · rw [cmp_eq h]; simp [h]
  · rw [cmp_gt h]; simp; omega
theorem fne_word : fne (double.word s a) (double.word t b) = decide (SV s a ≠ SV t b) := by
  have := feq_word s t a b ha hb
  unfold fne feq at *
  rw [bne, this]; simp
theorem flt_word : flt (double.word s a) (double.word t b) = decide (SV s a < SV t b) := by
  unfold flt; rw [order_word s t a b ha hb]
  rcases Int.lt_trichotomy (SV s a) (SV t b) with h | h | h
  · rw [cmp_lt h]; simp [h]
  · rw [cmp_eq h]; simp [h]
  · rw [cmp_gt h]; simp; omega
theorem fle_word : fle (double.word s a) (double.word t b) = decide (SV s a ≤ SV t b) := by
  unfold fle; rw [order_word s t a b ha hb]
  rcases Int.lt_trichotomy (SV s a) (SV t b) with h | h | h
  · rw [cmp_lt h]; simp; omega
  · rw [cmp_eq h]; simp [h]
  · rw [cmp_gt h]; simp; omega
theorem fgt_word : fgt (double.word s a) (double.word t b) = decide (SV t b < SV s a) := by
  unfold fgt; rw [order_word s t a b ha hb]
  rcases Int.lt_trichotomy (SV s a) (SV t b) with h | h | h
  · rw [cmp_lt h]; simp; omega
  · rw [cmp_eq h]; simp [h]
  · rw [cmp_gt h]; simp [h]
theorem fge_word : fge (double.word s a) (double.word t b) = decide (SV t b ≤ SV s a) := by
  unfold fge; rw [order_word s t a b ha hb]
  rcases Int.lt_trichotomy (SV s a) (SV t b) with h | h | h
  · rw [cmp_lt h]; simp; omega
  · rw [cmp_eq h]; simp [h]
  · rw [cmp_gt h]; simp; omega
end

theorem nan_word (s : Bool) (r : Nat) (h : r < SGN) : nan (double.word s r) = decide (INF < r) := by
  rw [nan_of_rung]
  have := word_mod s r h
  rw [show (9223372036854775808 : Nat) = SGN from rfl, this]; rfl

/-- Every word is a NaN, or a sign and a rung up to infinity's. -/
theorem word_cases (x : Nat) (h : x < 18446744073709551616) : nan x = true ∨ ∃ s r, r ≤ INF ∧ x = double.word s r ∧ nan x = false := by
  obtain ⟨s, r, hr, rfl⟩ := word_split x (by rw [← SGN_two]; exact h)
  rw [nan_word s r hr]
  by_cases hi : INF < r
  · left; simp [hi]
  · right; exact ⟨s, r, by omega, rfl, by simp [hi]⟩

theorem isNanF_eq (x : Nat) (h : x < 18446744073709551616) : isNanF x = nan x := by
  rcases word_cases x h with hn | ⟨s, r, hr, rfl, hn⟩
  · rw [hn]; unfold isNanF fne; rw [order_nan_left _ hn]; rfl
  · rw [hn]; unfold isNanF; rw [fne_word s s r r hr hr]; simp

theorem SV_zero_iff {s : Bool} {r : Nat} : SV s r = 0 ↔ r = 0 := by
  unfold SV
  by_cases h : r = 0
  · subst h; simp [V_zero]
  · have := V_pos (show 0 < r by omega)
    cases s <;> simp <;> omega

theorem SV_false (r : Nat) : SV false r = V r := rfl
theorem SV_true (r : Nat) : SV true r = -(V r : Int) := rfl

theorem feq_zero (s : Bool) (r : Nat) (h : r ≤ INF) : feq (double.word s r) 0 = decide (r = 0) := by
  have := feq_word s false r 0 h (by decide)
  rw [word_false] at this
  rw [this]
  rw [SV_false, V_zero]
  exact decide_eq_decide.2 SV_zero_iff

theorem flt_zero (s : Bool) (r : Nat) (h : r ≤ INF) : flt (double.word s r) 0 = (s && decide (0 < r)) := by
  have := flt_word s false r 0 h (by decide)
  rw [word_false] at this
  rw [this, SV_false, V_zero]
  by_cases h0 : r = 0
  · subst h0; cases s <;> simp [SV, V_zero]
  · have := V_pos (show 0 < r by omega)
    cases s <;> simp [SV] <;> omega

theorem fgt_zero (s : Bool) (r : Nat) (h : r ≤ INF) : fgt (double.word s r) 0 = (!s && decide (0 < r)) := by
  have := fgt_word s false r 0 h (by decide)
  rw [word_false] at this
  rw [this, SV_false, V_zero]
  by_cases h0 : r = 0
  · subst h0; cases s <;> simp [SV, V_zero]
  · have := V_pos (show 0 < r by omega)
    cases s <;> simp [SV] <;> omega

theorem fge_zero (s : Bool) (r : Nat) (h : r ≤ INF) : fge (double.word s r) 0 = (!s || decide (r = 0)) := by
  have := fge_word s false r 0 h (by decide)
  rw [word_false] at this
  rw [this, SV_false, V_zero]
  by_cases h0 : r = 0
  · subst h0; cases s <;> simp [SV, V_zero]
  · have := V_pos (show 0 < r by omega)
    cases s <;> simp [SV] <;> omega

theorem fle_zero (s : Bool) (r : Nat) (h : r ≤ INF) : fle (double.word s r) 0 = (s || decide (r = 0)) := by
  have := fle_word s false r 0 h (by decide)
  rw [word_false] at this
  rw [this, SV_false, V_zero]
  by_cases h0 : r = 0
  · subst h0; cases s <;> simp [SV, V_zero]
  · have := V_pos (show 0 < r by omega)
    cases s <;> simp [SV] <;> omega

theorem order_nan_feq {x : Nat} (y : Nat) (h : nan x = true) : feq x y = false := by unfold feq; rw [order_nan_left y h]; rfl
theorem order_nan_flt {x : Nat} (y : Nat) (h : nan x = true) : flt x y = false := by unfold flt; rw [order_nan_left y h]; rfl
theorem order_nan_fgt {x : Nat} (y : Nat) (h : nan x = true) : fgt x y = false := by unfold fgt; rw [order_nan_left y h]; rfl
theorem order_nan_fle {x : Nat} (y : Nat) (h : nan x = true) : fle x y = false := by unfold fle; rw [order_nan_left y h]; rfl
theorem order_nan_fge {x : Nat} (y : Nat) (h : nan x = true) : fge x y = false := by unfold fge; rw [order_nan_left y h]; rfl

theorem infF_eq : infF = INF := by decide +kernel
theorem nan_nanF : nan nanF = true := by decide +kernel

/-- The sign of a word, where it is a number. -/
theorem minusF_word (s : Bool) (r : Nat) (h : r ≤ INF) : minusF (double.word s r) = s := by
  unfold minusF
  rw [flt_zero s r h, feq_zero s r h]
  by_cases h0 : r = 0
  · subst h0
    cases s
    · decide +kernel
    · decide +kernel
  · have h1 : 0 < r := by omega
    cases s <;> simp [h0, h1]

theorem fneg_word (s : Bool) (r : Nat) (h : r < SGN) : fneg (double.word s r) = double.word (!s) r := by
  unfold fneg
  cases s
  · rw [word_false, show (!false) = true from rfl, word_true, xor_top_lt r (by exact h), Nat.add_comm]; rfl
  · rw [word_true, show (!true) = false from rfl, word_false, xor_top_ge (SGN + r) (by have : SGN = 9223372036854775808 := rfl; omega) (by have : SGN = 9223372036854775808 := rfl; omega)]
    have : SGN = 9223372036854775808 := rfl
    omega

theorem INF_lt' {r : Nat} (h : r ≤ INF) : r < SGN := Nat.lt_of_le_of_lt h INF_lt_SGN

theorem sizeF_word (s : Bool) (r : Nat) (h : r ≤ INF) : sizeF (double.word s r) = r := by
  unfold sizeF
  rw [minusF_word s r h]
  cases s
  · rfl
  · rw [fneg_word true r (INF_lt' h)]; rfl

theorem likeF_word (s t : Bool) (r q : Nat) (h : r ≤ INF) (hq : q ≤ INF) : likeF (double.word s r) (double.word t q) = double.word t r := by
  unfold likeF
  rw [minusF_word t q hq, sizeF_word s r h]
  cases t
  · rfl
  · exact fneg_word false r (INF_lt' h)

theorem sameF_self (x : Nat) (h : x < 18446744073709551616) : sameF x x = true := by
  unfold sameF
  rcases word_cases x h with hn | ⟨s, r, hr, rfl, hn⟩
  · simp [isNanF_eq x h, hn]
  · rw [isNanF_eq _ h, hn]
    simp [feq_word s s r r hr hr]

theorem sameF_nan {x y : Nat} (hx : x < 18446744073709551616) (hy : y < 18446744073709551616) (h : nan x = true) (k : nan y = true) : sameF x y = true := by
  unfold sameF; rw [isNanF_eq x hx, isNanF_eq y hy, h, k]; rfl

theorem isInfF_word (s : Bool) (r : Nat) (h : r ≤ INF) : isInfF (double.word s r) = decide (r = INF) := by
  unfold isInfF
  have e1 := feq_word s false r INF h (Nat.le_refl _)
  have e2 := feq_word s true r INF h (Nat.le_refl _)
  have e3 : fneg INF = double.word true INF := fneg_word false INF INF_lt_SGN
  rw [word_false] at e1
  rw [infF_eq, e3, e1, e2]
  have hI : 0 < V INF := V_pos (by decide)
  by_cases e : r = INF
  · subst e; cases s <;> simp [SV]
  · have hv := V_lt (show r < INF by omega)
    cases s <;> simp [SV, e] <;> omega

theorem isInfF_nan {x : Nat} (h : nan x = true) : isInfF x = false := by
  unfold isInfF; rw [order_nan_feq _ h, order_nan_feq _ h]; rfl

end Go.Proofs.YtgbdplmpojkklaaDoor
