/-
Plain laws: the statements' functions answer true. No program in sight.
-/
import Derived.Test.YticceknfjhfccaaFpJ
namespace Go.Proofs.Yticceknfjhfccaa
open Ieee

theorem acosIsRest_plain (x : Nat) (h : x < 18446744073709551616) : acosIsRestF x = true := by
  unfold acosIsRestF
  have hs : sameF (acosF x) (fsub cHalf (asinF x)) = true := sameF_self _ (acosF_lt x)
  rw [hs]
  rcases word_cases x h with hn | ⟨s, r, hr, rfl, hn⟩
  · rw [isNanF_eq x h, hn]; simp
  · rw [beyondF_word s r hr]
    by_cases hb : ONE < r
    · simp [hb]
    · obtain ⟨c, hc, hc1, hc2⟩ := acos_word s (show r ≤ ONE by omega)
      have hP : cPi < INF := by decide
      rw [hc]
      have g1 := fge_zero false c (by omega)
      have g2 := fgt_zero false c (by omega)
      rw [word_false] at g1 g2
      rw [g1, g2]
      rcases hc2 with h0 | ⟨rfl, rfl⟩
      · simp [h0]
      · have : feq (double.word false ONE) one = true := by decide +kernel
        simp [this]

theorem arcRanges_plain (x : Nat) (h : x < 18446744073709551616) : arcRangesF x = true := by
  unfold arcRangesF
  rcases word_cases x h with hn | ⟨s, r, hr, rfl, hn⟩
  · rw [isNanF_eq x h, hn]; rfl
  · have hT := satan_INF hr
    have hTl := satan_le hr
    have hHI : cHalf < INF := by decide
    have n1 : fne (double.word s r) 0 = !decide (r = 0) := by
      have := feq_zero s r hr
      unfold fne feq at *
      rw [bne, this]
    have f1 := fle_pos false (satanF r) cHalf hT (by omega)
    rw [word_false] at f1
    rw [isNanF_word s r hr, atan_word s hr, sizeF_word s _ hT, minusF_word s _ hT, minusF_word s r hr, feq_zero s _ hT, n1, f1, beyondF_word s r hr]
    have hz : ¬ r = 0 → ¬ satanF r = 0 := fun h0 => by have := satan_pos hr (show 0 < r by omega); omega
    by_cases hb : ONE < r
    · have h0 : r ≠ 0 := by omega
      have := hz h0
      simp [hTl, h0, this, hb]
    · have hle : r ≤ ONE := by omega
      obtain ⟨c, hc, hc1, hc2⟩ := acos_word s hle
      have hP : cPi < INF := by decide
      have g1 := fge_zero false c (by omega)
      have g2 := fle_pos false c cPi (by omega) (by omega)
      rw [word_false] at g1 g2
      rw [hc, g1, g2]
      have key : ∃ A, asinF (double.word s r) = double.word s A ∧ A ≤ cHalf := by
        by_cases h0 : r = 0
        · subst h0; exact ⟨0, asin_zero s, by decide⟩
        · exact ⟨_, asin_word s hle (by omega), (asinA_le hle (by omega)).1⟩
      obtain ⟨A, hA, hAl⟩ := key
      have f2 := fle_pos false A cHalf (by omega) (by omega)
      rw [word_false] at f2
      rw [hA, sizeF_word s A (by omega), minusF_word s A (by omega), f2]
      by_cases h0 : r = 0
      · simp [h0, hAl, hc1, satan_zero]
      · have := hz h0
        simp [h0, hTl, this, hAl, hc1]

theorem noNumber_plain (x : Nat) (h : x < 18446744073709551616) : noNumberF x = true := by
  unfold noNumberF
  rcases word_cases x h with hn | ⟨s, r, hr, rfl, hn⟩
  · rw [isNanF_eq x h, hn]
    have h1 := asin_nan hn
    have h2 : nan (acosF x) = true := by
      unfold acosF
      obtain ⟨s, t, hr⟩ := nan_read h1
      unfold fsub Format.sub; rw [hr]
      show nan ((((double.read 4609753056924675352).sum (Datum.nan (!s) t)).map double.write).getD cnan) = true
      rw [sum_nan_r]; exact nan_cnan
    rw [isNanF_eq _ (asinF_lt h), isNanF_eq _ (acosF_lt x), isNanF_eq _ (atanF_lt h), h1, h2, atan_nan hn]; rfl
  · have hT := satan_INF hr
    have hTl := satan_le hr
    have hHI : cHalf < INF := by decide
    have n1 : fne (double.word s (satanF r)) 0 = !decide (satanF r = 0) := by
      have := feq_zero s _ hT
      unfold fne feq at *
      rw [bne, this]
    have hz : ¬ r = 0 → ¬ satanF r = 0 := fun h0 => by have := satan_pos hr (show 0 < r by omega); omega
    rw [isNanF_word s r hr, atan_word s hr, isFiniteF_word s _ hT, beyondF_word s r hr, feq_zero s r hr, n1]
    have hf : satanF r < INF := by omega
    by_cases hb : ONE < r
    · have := hz (by omega)
      simp [hf, hb, this]
    · have hle : r ≤ ONE := by omega
      obtain ⟨c, hc, hc1, hc2⟩ := acos_word s hle
      have hP : cPi < INF := by decide
      have key : ∃ A, asinF (double.word s r) = double.word s A ∧ A ≤ cHalf := by
        by_cases h0 : r = 0
        · subst h0; exact ⟨0, asin_zero s, by decide⟩
        · exact ⟨_, asin_word s hle (by omega), (asinA_le hle (by omega)).1⟩
      obtain ⟨A, hA, hAl⟩ := key
      have g1 := isFiniteF_word false c (by omega)
      rw [word_false] at g1
      rw [hc, g1, hA, isFiniteF_word s A (by omega)]
      have hcf : c < INF := by omega
      have hAf : A < INF := by omega
      by_cases h0 : r = 0
      · have hI0 : 0 < INF := by decide
        simp [h0, hcf, hAf, satan_zero, hI0]
      · have := hz h0
        simp [hf, h0, hcf, hAf, this]

theorem turnedBack_asin (x : Nat) (h : x < 18446744073709551616) : sameF (asinF (fneg x)) (fneg (asinF x)) = true := by
  have hl := fneg_lt x h
  rcases word_cases x h with hn | ⟨s, r, hr, rfl, hn⟩
  · exact sameF_nan (asinF_lt hl) (fneg_lt _ (asinF_lt h)) (asin_nan (by rw [nan_fneg]; exact hn)) (by rw [nan_fneg]; exact asin_nan hn)
  · rw [fneg_word s r (INF_lt' hr)]
    by_cases hb : ONE < r
    · rw [asin_beyond _ hb hr, asin_beyond _ hb hr]; decide +kernel
    · have hO := ONE_lt
      have key : ∃ A, A ≤ cHalf ∧ ∀ t, asinF (double.word t r) = double.word t A := by
        by_cases h0 : r = 0
        · subst h0; exact ⟨0, by decide, asin_zero⟩
        · exact ⟨_, (asinA_le (show r ≤ ONE by omega) (by omega)).1, fun t => asin_word t (by omega) (by omega)⟩
      obtain ⟨A, hA, hw⟩ := key
      have hH : cHalf < INF := by decide
      rw [hw, hw, fneg_word s A (INF_lt' (by omega))]
      exact sameF_self _ (word_lt64 _ A (by omega))

theorem turnedBack_atan (x : Nat) (h : x < 18446744073709551616) : sameF (atanF (fneg x)) (fneg (atanF x)) = true := by
  have hl := fneg_lt x h
  rcases word_cases x h with hn | ⟨s, r, hr, rfl, hn⟩
  · exact sameF_nan (atanF_lt hl) (fneg_lt _ (atanF_lt h)) (atan_nan (by rw [nan_fneg]; exact hn)) (by rw [nan_fneg]; exact atan_nan hn)
  · have hT := satan_INF hr
    rw [fneg_word s r (INF_lt' hr), atan_word _ hr, atan_word _ hr, fneg_word s _ (INF_lt' hT)]
    exact sameF_self _ (word_lt64 _ _ hT)

theorem turnedBack_atan2 (y x : Nat) (hy : y < 18446744073709551616) (hx : x < 18446744073709551616) :
    (isNanF x || isNanF y || lostF y x || sameF (atan2F (fneg y) x) (fneg (atan2F y x))) = true := by
  rcases word_cases x hx with hn | ⟨t, b, hb, rfl, hnb⟩
  · rw [isNanF_eq x hx, hn]; rfl
  rcases word_cases y hy with hn | ⟨s, a, ha, rfl, hna⟩
  · rw [isNanF_eq y hy, hn]; simp
  by_cases hl : lostF (double.word s a) (double.word t b) = true
  · rw [hl]; simp
  have hgo : atan2F (fneg (double.word s a)) (double.word t b) = fneg (atan2F (double.word s a) (double.word t b)) := by
    rw [fneg_word s a (INF_lt' ha), atan2F_word (!s) t a b ha hb, atan2F_word s t a b ha hb]
    have c1 := fneg_word s cPi (by decide)
    have c2 := fneg_word s cHalf (by decide)
    have c3 := fneg_word s cThree (by decide)
    have c4 := fneg_word s cQuarter (by decide)
    have c5 := fneg_word s 0 (by decide)
    by_cases h0 : a = 0
    · subst h0; cases t <;> simp [c1, c5]
    by_cases h1 : b = 0
    · simp [h0, h1, c2]
    by_cases h2 : b = INF
    · have hI0 : INF ≠ 0 := by decide
      by_cases h3 : a = INF
      · cases t <;> simp [h2, h3, hI0, c3, c4]
      · cases t <;> simp [h0, h2, h3, hI0, c1, c5]
    by_cases h3 : a = INF
    · have hI0 : INF ≠ 0 := by decide
      simp [h1, h2, h3, hI0, c2]
    have haI : a < INF := by omega
    have hbI : b < INF := by omega
    have hd := fdiv_le_INF haI hbI (show 0 < b by omega)
    have hdw := fdiv_word s t haI hbI (show 0 < b by omega)
    have hd0 : 0 < fdiv a b := by
      by_cases hz : 0 < fdiv a b
      · exact hz
      · exfalso
        have hz0 : fdiv a b = 0 := by omega
        apply hl
        unfold lostF
        have n1 : fne (double.word s a) 0 = true := by
          have := fne_word s false a 0 ha (by decide)
          rw [word_false] at this; rw [this, SV_false, V_zero]; simp [SV_zero_iff, h0]
        have n2 : fne (double.word t b) 0 = true := by
          have := fne_word t false b 0 hb (by decide)
          rw [word_false] at this; rw [this, SV_false, V_zero]; simp [SV_zero_iff, h1]
        rw [isFiniteF_word s a ha, isFiniteF_word t b hb, n1, n2, hdw, hz0, feq_zero _ 0 (by decide)]
        simp [haI, hbI]
    have hle := satan_le hd
    have hpos := satan_pos hd hd0
    have hH : cHalf < INF := by decide
    have hP : cPi < INF := by decide
    have hHP : cHalf < cPi := by decide
    rw [fdiv_word (!s) t haI hbI (show 0 < b by omega), hdw, atan_word _ hd, atan_word _ hd]
    generalize satanF (fdiv a b) = A at *
    have hAS := INF_lt' (show A ≤ INF by omega)
    have r1 : fsub cPi A ≤ cPi := fsub_le hP (by omega)
    have q1 : fadd (N A) cPi = fsub cPi A := fadd_NP (by omega) hP
    have q2 : fsub A cPi = N (fsub cPi A) := fsub_lt_neg hP (by omega)
    have m1 : fneg (fsub cPi A) = N (fsub cPi A) := fneg_word false (fsub cPi A) (INF_lt' (by omega))
    have m2 : fneg (N (fsub cPi A)) = fsub cPi A := fneg_word true (fsub cPi A) (INF_lt' (by omega))
    have m3 : fneg (double.word (s ^^ t) A) = double.word (!s ^^ t) A := by rw [fneg_word _ A hAS]; cases s <;> cases t <;> rfl
    have hA0 : A ≠ 0 := by omega
    rw [fle_zero _ A (by omega), fle_zero _ A (by omega)]
    cases t with
    | false => simp [h0, h1, h2, h3]; simpa using m3.symm
    | true =>
      cases s
      · simp [h0, h1, h2, h3, hA0, word_N, word_false, q1, q2, m1]
      · simp [h0, h1, h2, h3, hA0, word_N, word_false, q1, q2, m2]
  rw [hgo]
  have := sameF_self (fneg (atan2F (double.word s a) (double.word t b))) (fneg_lt _ (atan2F_lt _ _))
  rw [this]; simp

theorem turnedBack_plain (x y : Nat) (hx : x < 18446744073709551616) (hy : y < 18446744073709551616) : turnedBackF x y = true := by
  unfold turnedBackF
  rw [turnedBack_asin x hx, turnedBack_atan x hx, turnedBack_atan2 y x hy hx]; rfl

end Go.Proofs.Yticceknfjhfccaa
