/-
FnFarRanges returns true for every float64: its contract.
-/
import Derived.Test.YthnbkoohehnblaaWalkFr1
import Derived.Test.YthnbkoohehnblaaWalkFr2
import Derived.Test.YthnbkoohehnblaaWalkFr3
import Derived.Test.YthnbkoohehnblaaPl5
namespace Go.Proofs.Ythnbkoohehnblaa
open Go.RowKit Ieee

theorem c_l_farRanges (x0 e0 : Nat) (h0 : E x0 e0) (hl0 : W64 e0) (w0 w : World) (hs : St w0 w) : Calls Try.prog 3 #[.float .f64 x0] w (RB true w0) := by
  have hO := ONE_lt
  rcases word_cases e0 hl0 with hn | ⟨s, r, hr, rfl, _⟩
  · exact c_fr_nan x0 e0 h0 (by rw [isNanF_eq e0 hl0]; exact hn) w0 w hs
  · have hn := isNanF_word s r hr
    have hm := minusF_word s r hr
    have hz := feq_zero s r hr
    have hlt : flt (double.word s r) 4607182418800017408 = (s || decide (r < ONE)) := flt_one s hr
    obtain ⟨A, eA, hA, zA⟩ : ∃ A, asinhF (double.word s r) = double.word s A ∧ A ≤ INF ∧ (A = 0 ↔ r = 0) := by
      by_cases hI : r = INF
      · subst hI; exact ⟨INF, by cases s <;> decide +kernel, Nat.le_refl _, Iff.rfl⟩
      · obtain ⟨A, e, h1, h2⟩ := asinh_w s (show r < INF by omega)
        exact ⟨A, e, Nat.le_of_lt h1, h2⟩
    have na : isNanF (asinhF (double.word s r)) = false := by rw [eA]; exact isNanF_word s A hA
    have ma : minusF (asinhF (double.word s r)) = s := by rw [eA]; exact minusF_word s A hA
    have za : feq (asinhF (double.word s r)) 0 = decide (r = 0) := by rw [eA, feq_zero s A hA]; exact decide_eq_decide.2 zA
    by_cases hb : ONE < r
    · have nt : isNanF (atanhF (double.word s r)) = true := by
        have b := beyondF_word s r hr
        unfold beyondF at b
        have e : atanhF (double.word s r) = cnan := by
          unfold atanhF
          rw [show (flt (double.word s r) 13830554455654793216 || fgt (double.word s r) one || isNanF (double.word s r)) = true by rw [b]; simp [hb]]
          rfl
        rw [e]; decide +kernel
      have hz0 : decide (r = 0) = false := decide_eq_false (by omega)
      have hl : decide (r < ONE) = false := decide_eq_false (by omega)
      rw [hz0] at hz za
      rw [hl, Bool.or_false] at hlt
      cases s
      · have hge : fge (acoshF (double.word false r)) 0 = true := by
          by_cases hI : r = INF
          · subst hI; decide +kernel
          · obtain ⟨p, q⟩ := acosh_pos hb (show r < INF by omega)
            have := fge_zero false (acoshF r) (Nat.le_of_lt q)
            rw [word_false] at this
            rw [word_false, this]; simp
        exact c_fr_true_false_false_false _ _ h0 hl0 hn hm hz na ma za nt hlt hge w0 w hs
      · exact c_fr_true_true_false_true _ _ h0 hl0 hn hm hz na ma za nt hlt w0 w hs
    · obtain ⟨T, eT, hT, zT⟩ : ∃ T, atanhF (double.word s r) = double.word s T ∧ T ≤ INF ∧ (T = 0 ↔ r = 0) := by
        by_cases hI : r = ONE
        · subst hI; exact ⟨INF, by cases s <;> decide +kernel, Nat.le_refl _, by decide⟩
        · obtain ⟨T, e, h1, h2⟩ := atanh_w s (show r < ONE by omega)
          exact ⟨T, e, Nat.le_of_lt h1, h2⟩
      have nt : isNanF (atanhF (double.word s r)) = false := by rw [eT]; exact isNanF_word s T hT
      have mt : minusF (atanhF (double.word s r)) = s := by rw [eT]; exact minusF_word s T hT
      have zt : feq (atanhF (double.word s r)) 0 = decide (r = 0) := by rw [eT, feq_zero s T hT]; exact decide_eq_decide.2 zT
      by_cases h1 : r = 0
      · have hz0 : decide (r = 0) = true := decide_eq_true h1
        have hl : decide (r < ONE) = true := decide_eq_true (by rw [h1]; decide)
        rw [hz0] at hz za zt
        rw [hl, Bool.or_true] at hlt
        cases s
        · exact c_fr_false_false_true_true _ _ h0 hl0 hn hm hz na ma za nt mt zt hlt w0 w hs
        · exact c_fr_false_true_true_true _ _ h0 hl0 hn hm hz na ma za nt mt zt hlt w0 w hs
      · have hz0 : decide (r = 0) = false := decide_eq_false h1
        rw [hz0] at hz za zt
        cases s
        · by_cases h2 : r < ONE
          · rw [decide_eq_true h2, Bool.or_true] at hlt
            exact c_fr_false_false_false_true _ _ h0 hl0 hn hm hz na ma za nt mt zt hlt w0 w hs
          · obtain rfl : r = ONE := by omega
            exact c_fr_false_false_false_false _ _ h0 hl0 hn hm hz na ma za nt mt zt (by decide +kernel) (by decide +kernel) w0 w hs
        · exact c_fr_false_true_false_true _ _ h0 hl0 hn hm hz na ma za nt mt zt hlt w0 w hs

end Go.Proofs.Ythnbkoohehnblaa
