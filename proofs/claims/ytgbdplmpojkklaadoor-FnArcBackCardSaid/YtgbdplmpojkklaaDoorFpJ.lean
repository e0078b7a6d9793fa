/-
Asin and Acos: signs and ranges.
-/
import Derived.Test.YtgbdplmpojkklaaDoorFpH
import Derived.Test.YtgbdplmpojkklaaDoorFpI
namespace Go.Proofs.YtgbdplmpojkklaaDoor
open Ieee

theorem V_sub_B {u : Nat} (h : 2 * B ≤ u) : 2 * V (u - B) = V u := by
  have hB := B_pos
  obtain ⟨k, f, hk, hf, rfl⟩ : ∃ k f, 2 ≤ k ∧ f < B ∧ u = k * B + f :=
    ⟨u / B, u % B, (Nat.le_div_iff_mul_le hB).2 h, Nat.mod_lt _ hB, by rw [Nat.mul_comm]; exact (Nat.div_add_mod u B).symm⟩
  obtain ⟨j, rfl⟩ : ∃ j, k = j + 2 := ⟨k - 2, by omega⟩
  have e1 : (j + 2) * B + f = (j + 1) * B + (B + f) := by rw [Nat.add_mul, Nat.add_mul]; omega
  have e2 : (j + 2) * B + f - B = j * B + (B + f) := by rw [Nat.add_mul]; omega
  rw [e2, e1, V_at (j + 1) (B + f) (by omega) (by omega), V_at j (B + f) (by omega) (by omega), Nat.pow_succ, Nat.mul_comm 2, Nat.mul_assoc]

theorem fmul_HALF {u : Nat} (h : 2 * B ≤ u) (hu : u < INF) : fmul u HALF = u - B := by
  have hr := fmul_Rn hu (show HALF < INF by decide)
  refine hr.unique (Rn.exact (u - B) (by omega)) ?_
  rw [← V_sub_B h, ← V_HALF, Nat.mul_one, Nat.mul_left_comm (V (u - B)), Nat.mul_assoc]

theorem xatan_ge {u : Nat} (h : 2 * B ≤ u) (hu : u ≤ X1) : u - B ≤ xatanF u := by
  obtain ⟨hz, e, hle⟩ := xatan_eq hu
  have hX := X1_fin
  obtain ⟨_, h2⟩ := xatanZ_eq hz
  have h3 : fmul u (zz (fmul u u)) ≤ u - B := by
    rw [← fmul_HALF h (by omega)]
    exact fmul_mono (by omega) (by decide) (Nat.le_refl _) h2
  rw [e]
  refine (Rn.exact (u - B) (by omega)).mono (fsub_Rn (by omega) hle) ?_
  have h4 := V_le h3
  have h5 := V_sub_B h
  omega

def E26 : Nat := 4490088828488384512
def E27 : Nat := 4485585228861014016

theorem satan_ge {u : Nat} (h : E26 ≤ u) (hI : u ≤ INF) : E27 ≤ satanF u := by
  rw [satan_split hI]
  have hX : X0 ≤ X1 := by decide
  have hE : E26 - B = E27 := by decide
  have hE2 : 2 * B ≤ E26 := by decide
  split
  · have := xatan_ge (show 2 * B ≤ u by omega) (by omega); omega
  · split
    · exact Nat.le_trans (by decide) (satan_far (by omega) hI).1
    · exact Nat.le_trans (by decide) (satan_mid (by omega) (by omega)).1

def C7 : Nat := 4604480259023595110

theorem asinA_le {r : Nat} (h : r ≤ ONE) (h0 : 0 < r) : asinA r ≤ cHalf ∧ (r < ONE → asinA r < cHalf) := by
  have hO := ONE_lt
  have hrf : r < INF := by omega
  have hH : cHalf < INF := by decide
  have hm : fmul r r ≤ ONE := Nat.le_trans (fmul_mono hO hO h h) (by decide +kernel)
  have hd : fsub ONE (fmul r r) ≤ ONE := fsub_le hO hm
  have hq : fsqrt (fsub ONE (fmul r r)) ≤ ONE := Nat.le_trans (fsqrt_mono hO hd) (by decide +kernel)
  unfold asinA
  have hc := fgt_pos false r C7 (by omega) (by decide)
  rw [word_false] at hc
  rw [show fgt r 4604480259023595110 = fgt r C7 from rfl, hc, one_eq]
  by_cases h7 : C7 < r
  · simp only [h7, decide_true, Bool.not_false, Bool.and_self, if_true]
    have hu : fdiv (fsqrt (fsub ONE (fmul r r))) r ≤ INF := fdiv_le_INF (by omega) hrf h0
    have hs := satan_le hu
    refine ⟨fsub_le (by decide) (by exact hs), fun hlt => ?_⟩
    have h1 : r ≤ ONE - 1 := by omega
    have h2 : fmul r r ≤ fmul (ONE - 1) (ONE - 1) := fmul_mono (by omega) (by omega) h1 h1
    have h3 : fsub ONE (fmul (ONE - 1) (ONE - 1)) ≤ fsub ONE (fmul r r) := fsub_mono hO (by decide +kernel) (Nat.le_refl _) h2
    have h4 : E26 ≤ fsqrt (fsub ONE (fmul r r)) := Nat.le_trans (by decide +kernel) (fsqrt_mono (by omega) h3)
    have h5 : E26 ≤ fdiv (fsqrt (fsub ONE (fmul r r))) r := by
      have := fdiv_mono (a := E26) (b := ONE) (show fsqrt (fsub ONE (fmul r r)) < INF by omega) hO h0 h4 h
      rw [fdiv_ONE (by decide)] at this; exact this
    have h6 := satan_ge h5 hu
    exact Nat.lt_of_le_of_lt (fsub_mono (a := 4609753056924675352) (b' := E27) (by decide) (by exact hs) (Nat.le_refl _) h6) (by decide +kernel)
  · simp only [h7, decide_false, Bool.and_false, Bool.false_eq_true, if_false]
    have h1 : r ≤ C7 := by omega
    have h2 : fmul r r ≤ fmul C7 C7 := fmul_mono (by decide) (by decide) h1 h1
    have h3 : fsub ONE (fmul C7 C7) ≤ fsub ONE (fmul r r) := fsub_mono hO (by decide +kernel) (Nat.le_refl _) h2
    have h4 : fsqrt (fsub ONE (fmul C7 C7)) ≤ fsqrt (fsub ONE (fmul r r)) := fsqrt_mono (by omega) h3
    have h5 : fdiv r (fsqrt (fsub ONE (fmul r r))) ≤ TAN :=
      Nat.le_trans (fdiv_mono (a' := C7) (b' := fsqrt (fsub ONE (fmul C7 C7))) (by decide) (by omega) (by decide +kernel) h1 h4) (by decide +kernel)
    have := satan_lt h5
    exact ⟨Nat.le_of_lt this, fun _ => this⟩

theorem asin_zero (s : Bool) : asinF (double.word s 0) = double.word s 0 := by
  unfold asinF; rw [feq_zero s 0 (by decide)]; rfl

theorem asin_word (s : Bool) {r : Nat} (h : r ≤ ONE) (h0 : 0 < r) : asinF (double.word s r) = double.word s (asinA r) := by
  have hO := ONE_lt
  have hI : r ≤ INF := by omega
  have hA := (asinA_le h h0).1
  have hH : cHalf < SGN := by decide
  unfold asinF
  rw [feq_zero s r hI, flt_zero s r hI, fneg_word s r (INF_lt' hI), one_eq, fgt_pos (!s) r ONE hI (by omega), fgt_pos s r ONE hI (by omega)]
  have h1 : ¬ ONE < r := by omega
  have h2 : r ≠ 0 := by omega
  cases s
  · simp [h1, h2]; rfl
  · have := fneg_word false (asinA r) (by omega)
    simp [h0, h1, h2]
    exact this

theorem asin_beyond (s : Bool) {r : Nat} (h : ONE < r) (hI : r ≤ INF) : asinF (double.word s r) = cnan := by
  have hO := ONE_lt
  unfold asinF
  rw [feq_zero s r hI, flt_zero s r hI, fneg_word s r (INF_lt' hI), one_eq, fgt_pos (!s) r ONE hI (by omega), fgt_pos s r ONE hI (by omega)]
  have h1 : 0 < r := by omega
  have h2 : r ≠ 0 := by omega
  cases s <;> simp [h, h1, h2]

theorem fsub_N {a b : Nat} (ha : a < INF) (hb : b < INF) : fsub a (N b) = fadd a b := by
  unfold fsub fadd
  have := sub_fin false true a b ha hb
  rw [word_false] at this
  rw [show N b = double.word true b from rfl, this]; rfl

/-- Acos of a number from -1 to 1. -/
theorem acos_word (s : Bool) {r : Nat} (h : r ≤ ONE) : ∃ c, acosF (double.word s r) = c ∧ c ≤ cPi ∧ (0 < c ∨ (s = false ∧ r = ONE)) := by
  have hO := ONE_lt
  have hH : cHalf < INF := by decide
  unfold acosF
  by_cases h0 : r = 0
  · subst h0
    rw [asin_zero s]
    refine ⟨_, rfl, ?_⟩
    cases s
    · exact ⟨by decide +kernel, .inl (by decide +kernel)⟩
    · exact ⟨by decide +kernel, .inl (by decide +kernel)⟩
  · obtain ⟨hA, hlt⟩ := asinA_le h (show 0 < r by omega)
    rw [asin_word s h (by omega)]
    refine ⟨_, rfl, ?_⟩
    cases s
    · rw [word_false]
      have h1 : fsub cHalf (asinA r) ≤ cHalf := fsub_le hH hA
      refine ⟨Nat.le_trans h1 (by decide), ?_⟩
      by_cases e : r = ONE
      · exact .inr ⟨rfl, e⟩
      · exact .inl (fsub_pos hH (hlt (by omega)))
    · have e : fsub 4609753056924675352 (double.word true (asinA r)) = fadd cHalf (asinA r) := fsub_N hH (by omega)
      rw [e]
      have h1 : fadd cHalf (asinA r) ≤ cPi := Nat.le_trans (fadd_mono hH hH (Nat.le_refl _) hA) (by decide +kernel)
      exact ⟨h1, .inl (Nat.lt_of_lt_of_le (by decide) (fadd_ge hH (by omega)))⟩

theorem asin_nan {x : Nat} (h : nan x = true) : nan (asinF x) = true := by
  unfold asinF asinA
  rw [order_nan_feq _ h, order_nan_flt _ h, order_nan_fgt _ h, order_nan_fgt _ h]
  simp only [Bool.false_eq_true, if_false]
  have e : fdiv x (fsqrt (fsub one (fmul x x))) = cnan := by
    obtain ⟨s, t, hr⟩ := nan_read h
    unfold fdiv Format.div; rw [hr, quotient_nan_l]; rfl
  rw [e]; decide +kernel

end Go.Proofs.YtgbdplmpojkklaaDoor
