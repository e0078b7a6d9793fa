/-
Plain laws: the statements' functions answer true. No program in sight.
-/
import Derived.Test.YticceknfjhfccaaFpF
namespace Go.Proofs.Yticceknfjhfccaa
open Ieee

theorem asinCases_plain (x : Nat) (h : x < 18446744073709551616) : asinCasesF x = true := by
  unfold asinCasesF
  rcases word_cases x h with hn | ⟨s, r, hr, rfl, hn⟩
  · rw [beyondF_nan hn]
    unfold metF specB
    rw [isNanF_eq x h, hn]; rfl
  · rw [beyondF_word s r hr]
    have hs := Nat.le_of_lt ONE_lt
    have e1 : fgt (fneg (double.word s r)) one = (s && decide (ONE < r)) := by
      rw [fneg_word s r (INF_lt' hr), one_eq, fgt_pos (!s) r ONE hr hs]; simp
    have e2 : fgt (double.word s r) one = (!s && decide (ONE < r)) := by
      rw [one_eq, fgt_pos s r ONE hr hs]
    by_cases hb : ONE < r
    · have h0 : r ≠ 0 := by omega
      have h1 : 0 < r := by omega
      simp only [hb, decide_true, if_true]
      have : asinF (double.word s r) = cnan := by
        unfold asinF
        rw [feq_zero s r hr, flt_zero s r hr, e1, e2]
        cases s <;> simp [hb, h0, h1]
      rw [this]; decide +kernel
    · simp only [hb, decide_false]
      unfold metF specB specV
      rw [isNanF_eq _ h, hn, feq_zero s r hr, isInfF_word s r hr]
      by_cases h0 : r = 0
      · subst h0; cases s <;> decide +kernel
      · by_cases h1 : r = INF
        · have := ONE_lt; omega
        · simp [h0, h1]

theorem acosCases_plain (x : Nat) (h : x < 18446744073709551616) : acosCasesF x = true := by
  unfold acosCasesF
  rcases word_cases x h with hn | ⟨s, r, hr, rfl, hn⟩
  · rw [beyondF_nan hn]; rfl
  · rw [beyondF_word s r hr]
    have hs := Nat.le_of_lt ONE_lt
    by_cases hb : ONE < r
    · have h0 : r ≠ 0 := by omega
      have h1 : 0 < r := by omega
      have e1 : fgt (fneg (double.word s r)) one = s := by
        rw [fneg_word s r (INF_lt' hr), one_eq, fgt_pos (!s) r ONE hr hs]; simp [hb]
      have e2 : fgt (double.word s r) one = !s := by
        rw [one_eq, fgt_pos s r ONE hr hs]; simp [hb]
      have : asinF (double.word s r) = cnan := by
        unfold asinF
        rw [feq_zero s r hr, flt_zero s r hr, e1, e2]
        cases s <;> simp [h0, h1]
      unfold acosF
      rw [this]
      have : isNanF (fsub 4609753056924675352 cnan) = true := by decide +kernel
      rw [this]; simp
    · simp [hb]

theorem arcEnds_plain (x : Nat) (h : x < 18446744073709551616) : arcEndsF x = true := by
  have key : arcEndsOne x = double.word false ONE ∨ arcEndsOne x = double.word true ONE := by
    unfold arcEndsOne
    rcases word_cases x h with hn | ⟨s, r, hr, rfl, hn⟩
    · rw [isNanF_eq x h, hn]; left; rfl
    · rw [isNanF_eq _ h, hn]
      have := likeF_const ONE (Nat.le_of_lt ONE_lt) s r hr
      rw [one_eq, this]
      cases s
      · left; rfl
      · right; rfl
  unfold arcEndsF
  rcases key with k | k <;> rw [k] <;> decide +kernel

theorem atan2Cases_plain (y x : Nat) (hy : y < 18446744073709551616) (hx : x < 18446744073709551616) : atan2CasesF y x = true := by
  have hnan : nan x = true ∨ nan y = true → atan2CasesF y x = true := by
    intro hn
    have h1 : (isNanF x || isNanF y) = true := by
      rw [isNanF_eq x hx, isNanF_eq y hy]; rcases hn with h | h <;> simp [h]
    have h2 : (isNanF y || isNanF x) = true := by rw [Bool.or_comm]; exact h1
    unfold atan2CasesF sa2N sa2V sa2S atan2F
    rw [h1, h2]
    have h3 : sameF cnan nanF = true := by decide +kernel
    simp [h3]
  rcases word_cases x hx with hn | ⟨t, b, hb, rfl, hnb⟩
  · exact hnan (.inl hn)
  · rcases word_cases y hy with hn | ⟨s, a, ha, rfl, hna⟩
    · exact hnan (.inr hn)
    · have hself : ∀ c, c ≤ INF → sameF (double.word s c) (double.word s c) = true := fun c hc => sameF_self _ (word_lt64 s c hc)
      have e1 := feq_word t false b INF hb (Nat.le_refl _)
      have e2 := feq_word t true b INF hb (Nat.le_refl _)
      have e3 : fneg infF = double.word true INF := by rw [infF_eq]; exact fneg_word false INF INF_lt_SGN
      rw [word_false] at e1
      have hI : 0 < V INF := V_pos (by decide)
      have hI0 : INF ≠ 0 := by decide
      have e4 : feq (double.word t b) infF = (!t && decide (b = INF)) := by
        rw [infF_eq, e1]
        by_cases e : b = INF
        · subst e; cases t <;> simp [SV] <;> omega
        · have hv := V_lt (show b < INF by omega)
          cases t <;> simp [SV, e] <;> omega
      have e5 : feq (double.word t b) (fneg infF) = (t && decide (b = INF)) := by
        rw [e3, e2]
        by_cases e : b = INF
        · subst e; cases t <;> simp [SV] <;> omega
        · have hv := V_lt (show b < INF by omega)
          cases t <;> simp [SV, e] <;> omega
      have l1 := likeF_const cPi (by decide) s a ha
      have l2 := likeF_const cHalf (by decide) s a ha
      have l3 := likeF_const cQuarter (by decide) s a ha
      have l4 := likeF_const cThree (by decide) s a ha
      unfold atan2CasesF sa2N sa2V sa2S
      rw [atan2F_word s t a b ha hb]
      rw [isNanF_word s a ha, isNanF_word t b hb, feq_zero s a ha, feq_zero t b hb, minusF_word t b hb, isInfF_word s a ha, e4, e5, l1, l2, l3, l4]
      by_cases h0 : a = 0
      · subst h0
        cases t
        · simp [hself 0 (by decide)]
        · by_cases h1 : b = 0
          · simp [h1]
          · simp [h1, hself cPi (by decide)]
      · by_cases h1 : b = 0
        · simp [h0, h1, hself cHalf (by decide)]
        · by_cases h2 : b = INF
          · by_cases h3 : a = INF
            · cases t
              · simp [h2, h3, hI0, hself cQuarter (by decide)]
              · simp [h2, h3, hI0, hself cThree (by decide)]
            · cases t
              · have : feq (double.word s 0) 0 = true := by rw [feq_zero s 0 (by decide)]; rfl
                simp [h0, h2, h3, hI0, this]
              · simp [h0, h2, h3, hI0, hself cPi (by decide)]
          · by_cases h3 : a = INF
            · simp [h1, h2, h3, hI0, hself cHalf (by decide)]
            · simp [h0, h1, h2, h3]

theorem atan2Corners_plain (y : Nat) (hy : y < 18446744073709551616) : atan2CornersF y = true := by
  unfold atan2CornersF
  rcases word_cases y hy with hn | ⟨s, a, ha, rfl, hna⟩
  · rw [isNanF_eq y hy, hn]; rfl
  · have hself : ∀ c, c ≤ INF → sameF (double.word s c) (double.word s c) = true := fun c hc => sameF_self _ (word_lt64 s c hc)
    have l1 := likeF_const cPi (by decide) s a ha
    have l0 := likeF_const 0 (by decide) s a ha
    have n0 : fneg 0 = double.word true 0 := fneg_word false 0 (by decide)
    have i0 : infF = double.word false INF := infF_eq
    rw [isNanF_word s a ha, l0, l1, n0, i0, atan2F_word s true 0 0 (by decide) (by decide), atan2F_word s false a INF ha (Nat.le_refl _), isInfF_word s a ha]
    have hI : INF ≠ 0 := by decide
    by_cases h3 : a = INF
    · simp [hself cPi (by decide), h3]
    · by_cases h0 : a = 0
      · subst h0; simp [hself cPi (by decide), hself 0 (by decide)]
      · simp [hself cPi (by decide), hself 0 (by decide), h0, h3, hI]

end Go.Proofs.Yticceknfjhfccaa
