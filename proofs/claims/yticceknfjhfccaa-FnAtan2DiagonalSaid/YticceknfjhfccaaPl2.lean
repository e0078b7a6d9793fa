/-
Plain laws: the statements' functions answer true. No program in sight.
-/
import Derived.Test.YticceknfjhfccaaFpH
namespace Go.Proofs.Yticceknfjhfccaa
open Ieee

theorem atan2IsAtan_plain (y x : Nat) (hy : y < 18446744073709551616) (hx : x < 18446744073709551616) : atan2IsAtanF y x = true := by
  have hO := ONE_lt
  have hO0 : ONE ≠ 0 := by decide
  have hOI : ONE ≠ INF := by decide
  have hone : one = double.word false ONE := rfl
  have k1 : sameF (atan2F y one) (atanF y) = true := by
    rcases word_cases y hy with hn | ⟨s, a, ha, rfl, hna⟩
    · refine sameF_nan (atan2F_lt _ _) (atanF_lt hy) ?_ (atan_nan hn)
      unfold atan2F
      rw [isNanF_eq y hy, hn]
      simp only [Bool.true_or, if_true]; exact nan_cnan
    · rw [hone, atan2F_word s false a ONE ha (by omega)]
      have hs := sameF_self (double.word s (satanF a)) (word_lt64 s _ (satan_INF ha))
      rw [atan_word s ha]
      by_cases h0 : a = 0
      · subst h0; rw [satan_zero] at hs ⊢; simpa using hs
      · by_cases hI : a = INF
        · have e : satanF INF = cHalf := by decide +kernel
          subst hI; rw [e] at hs ⊢
          have hI0 : INF ≠ 0 := by decide
          simpa [hO0, hOI, hI0] using hs
        · rw [fdiv_word s false (show a < INF by omega) hO (by decide), fdiv_ONE (by omega), Bool.xor_false, atan_word s ha]
          simpa [h0, hI, hO0, hOI] using hs
  have k2 : fgt (atan2F one one) 0 = true := by decide +kernel
  have k3 : (!fgt x 0 || !isFiniteF x || !isFiniteF y || sameF (atan2F y x) (atanF (fdiv y x))) = true := by
    rcases word_cases x hx with hn | ⟨t, b, hb, rfl, hnb⟩
    · rw [order_nan_fgt _ hn]; rfl
    · rcases word_cases y hy with hn | ⟨s, a, ha, rfl, hna⟩
      · rw [isFiniteF_nan hn]; simp
      · rw [fgt_zero t b hb, isFiniteF_word t b hb, isFiniteF_word s a ha]
        cases t with
        | true => simp
        | false =>
          by_cases hb0 : 0 < b
          · by_cases hbI : b < INF
            · by_cases haI : a < INF
              · have e1 := atan2F_word s false a b ha hb
                have e2 : fdiv (double.word s a) (double.word false b) = double.word s (fdiv a b) := by rw [fdiv_word s false haI hbI hb0, Bool.xor_false]
                have hd := fdiv_le_INF haI hbI hb0
                have hs := sameF_self (double.word s (satanF (fdiv a b))) (word_lt64 s _ (satan_INF hd))
                rw [e2, atan_word s hd] at e1 ⊢
                rw [e1]
                by_cases h0 : a = 0
                · subst h0
                  rw [fdiv_zero_l hbI hb0, satan_zero] at hs ⊢
                  simp [hs]
                · have h1 : b ≠ 0 := by omega
                  have h2 : b ≠ INF := by omega
                  have h3 : a ≠ INF := by omega
                  simp [h0, h1, h2, h3, hs]
              · simp [haI]
            · simp [hbI]
          · simp [hb0]
  unfold atan2IsAtanF
  rw [k1, k2, k3]; rfl

theorem quadrants_plain (y x : Nat) (hy : y < 18446744073709551616) (hx : x < 18446744073709551616) : quadrantsF y x = true := by
  unfold quadrantsF
  rcases word_cases y hy with hn | ⟨s, a, ha, rfl, hna⟩
  · rw [isFiniteF_nan hn]; simp
  rcases word_cases x hx with hn | ⟨t, b, hb, rfl, hnb⟩
  · rw [isFiniteF_nan hn]; simp
  rw [isFiniteF_word s a ha, isFiniteF_word t b hb, feq_zero s a ha, feq_zero t b hb]
  by_cases haI : a < INF
  case neg => simp [haI]
  by_cases hbI : b < INF
  case neg => simp [hbI]
  by_cases h0 : a = 0
  · simp [h0]
  by_cases h1 : b = 0
  · simp [h1]
  by_cases hl : lostF (double.word s a) (double.word t b) = true
  · simp [hl]
  have hl' : lostF (double.word s a) (double.word t b) = false := by simpa using hl
  have hdw := fdiv_word s t haI hbI (show 0 < b by omega)
  have hd := fdiv_le_INF haI hbI (show 0 < b by omega)
  have hd0 : 0 < fdiv a b := by
    by_cases hz : 0 < fdiv a b
    · exact hz
    · exfalso
      have hz0 : fdiv a b = 0 := by omega
      apply hl
      unfold lostF
      have n1 : fne (double.word s a) 0 = true := by
        have := fne_word s false a 0 ha (by decide)
        rw [word_false] at this; rw [this, SV_false, V_zero]; simp [SV_zero_iff, h0]
      have n2 : fne (double.word t b) 0 = true := by
        have := fne_word t false b 0 hb (by decide)
        rw [word_false] at this; rw [this, SV_false, V_zero]; simp [SV_zero_iff, h1]
      rw [isFiniteF_word s a ha, isFiniteF_word t b hb, n1, n2, hdw, hz0, feq_zero _ 0 (by decide)]
      simp [haI, hbI]
  have h2 : b ≠ INF := by omega
  have h3 : a ≠ INF := by omega
  have hle := satan_le hd
  have hpos := satan_pos hd hd0
  have hH : cHalf < INF := by decide
  have hP : cPi < INF := by decide
  have hHP : cHalf < cPi := by decide
  have hH0 : 0 < cHalf := by decide
  generalize hA : satanF (fdiv a b) = A at *
  have hq : atanF (fdiv (double.word s a) (double.word t b)) = double.word (s ^^ t) A := by rw [hdw, atan_word _ hd, hA]
  have e1 := atan2F_word s t a b ha hb
  rw [hq] at e1
  have hkey : ∃ R, atan2F (double.word s a) (double.word t b) = double.word s R ∧ 0 < R ∧ R ≤ cPi ∧ (t = false → R ≤ cHalf) ∧ (t = true → cHalf ≤ R) := by
    cases t with
    | false => exact ⟨A, by rw [e1]; simp [h0, h1, h2, h3], hpos, by omega, fun _ => hle, fun h => by cases h⟩
    | true =>
      have hAP : A ≤ cPi := by omega
      have r1 : fsub cPi A ≤ cPi := fsub_le hP hAP
      have r2 : cHalf ≤ fsub cPi A := Nat.le_trans (by decide +kernel : cHalf ≤ fsub cPi cHalf) (fsub_mono hP (by omega) (Nat.le_refl _) hle)
      refine ⟨fsub cPi A, ?_, by omega, r1, fun h => by (cases h), fun _ => r2⟩
      rw [e1, fle_zero _ A (by omega)]
      cases s with
      | false =>
        simp [h0, h1, h2, h3]
        exact fadd_NP (by omega) hP
      | true =>
        have hA0 : A ≠ 0 := by omega
        simp [h0, h1, h2, h3, hA0]
        rw [word_false, word_N]
        exact fsub_lt_neg hP (by omega)
  obtain ⟨R, hR, hR0, hRP, hRf, hRt⟩ := hkey
  have hRI : R ≤ INF := by omega
  rw [hl', hR, minusF_word s R hRI, minusF_word s a ha, feq_zero s R hRI, sizeF_word s R hRI, fgt_zero t b hb]
  have f1 := fle_pos false R cHalf hRI (by omega)
  have f2 := fge_pos false R cHalf hRI (by omega) hH0
  have f3 := fle_pos false R cPi hRI (by omega)
  rw [word_false] at f1 f2 f3
  rw [f1, f2, f3]
  have hRn : R ≠ 0 := by omega
  have hb0 : 0 < b := by omega
  cases t with
  | false => have := hRf rfl; simp [haI, hbI, h0, h1, hRn, hb0, this]
  | true => have := hRt rfl; simp [haI, hbI, h0, h1, hRn, this, hRP]

theorem atan2Diagonal_plain (x : Nat) (below : Bool) (hx : x < 18446744073709551616) : atan2DiagonalF x below = true := by
  unfold atan2DiagonalF
  rcases word_cases x hx with hn | ⟨s, a, ha, rfl, hna⟩
  · rw [isFiniteF_nan hn]; simp
  rw [isFiniteF_word s a ha, feq_zero s a ha, sizeF_word s a ha]
  by_cases haI : a < INF
  case neg => simp [haI]
  by_cases h0 : a = 0
  · simp [h0]
  have h3 : a ≠ INF := by omega
  have n1 : fneg a = double.word true a := fneg_word false a (INF_lt' ha)
  have l1 := likeF_const cThree (by decide) s a ha
  have l2 := likeF_const cQuarter (by decide) s a ha
  have e1 := atan2F_word s true a a ha ha
  have e2 := atan2F_word s false a a ha ha
  rw [fdiv_word s true haI haI (by omega), fdiv_self haI (by omega)] at e1
  rw [fdiv_word s false haI haI (by omega), fdiv_self haI (by omega), word_false] at e2
  simp only [h0, h3, if_false, if_true, Bool.false_eq_true] at e1 e2
  rw [n1, l1, l2, e1, e2]
  cases below <;> cases s <;> simp [haI, h0] <;> decide +kernel

end Go.Proofs.Yticceknfjhfccaa
