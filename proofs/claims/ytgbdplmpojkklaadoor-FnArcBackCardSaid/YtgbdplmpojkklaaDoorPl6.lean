/-
Plain laws on sines, cosines and tangents: special cases, signs. No program in sight.
-/
import Derived.Test.YtgbdplmpojkklaaDoorFpZ
import Derived.Test.YtgbdplmpojkklaaDoorFpF
namespace Go.Proofs.YtgbdplmpojkklaaDoor
open Ieee

theorem fneg_fneg' {x : Nat} : fneg (fneg x) = x := by
  unfold fneg; rw [Nat.xor_assoc, Nat.xor_self, Nat.xor_zero]
theorem sinP_lt (z : Nat) : sinP z < 18446744073709551616 := fadd_lt _ _
theorem cosP_lt (z : Nat) : cosP z < 18446744073709551616 := fadd_lt _ _
theorem negIf_lt {b : Bool} {y : Nat} (h : y < 18446744073709551616) : negIf b y < 18446744073709551616 := by
  unfold negIf; split
  · exact fneg_lt _ h
  · exact h
theorem sinR_lt (s : Bool) (r : Nat) : sinR s r < 18446744073709551616 := by
  unfold sinR
  refine negIf_lt ?_
  split
  · exact cosP_lt _
  · exact sinP_lt _
theorem cosR_lt (r : Nat) : cosR r < 18446744073709551616 := by
  unfold cosR
  refine negIf_lt ?_
  split
  · exact sinP_lt _
  · exact cosP_lt _
theorem tanP_lt {z : Nat} (h : z < 18446744073709551616) : tanP z < 18446744073709551616 := by
  unfold tanP; split
  · exact fadd_lt _ _
  · exact h
theorem redZ_lt (r : Nat) : redZ r < 18446744073709551616 := by
  unfold redZ trZ smZ
  repeat' split
  all_goals first | exact fmul_lt _ _ | exact fsub_lt _ _
theorem tanR_lt (s : Bool) (r : Nat) : tanR s r < 18446744073709551616 := by
  unfold tanR
  refine negIf_lt ?_
  split
  · exact fdiv_lt _ _
  · exact tanP_lt (redZ_lt r)
theorem negIf_not (b : Bool) (y : Nat) : negIf (!b) y = fneg (negIf b y) := by
  cases b
  · rfl
  · show y = fneg (fneg y); rw [fneg_fneg']
theorem sinR_not (s : Bool) (r : Nat) : sinR (!s) r = fneg (sinR s r) := by
  unfold sinR
  rw [← negIf_not]; congr 1; cases s <;> simp
theorem tanR_not (s : Bool) (r : Nat) : tanR (!s) r = fneg (tanR s r) := negIf_not s _

/-- Sin, Cos, Tan of a finite number that is not 0. -/
theorem sinF_word (s : Bool) {r : Nat} (h : r < INF) (h0 : r ≠ 0) : sinF (double.word s r) = sinR s r := by
  have hI := Nat.le_of_lt h
  unfold sinF
  rw [feq_zero s r hI, isNanF_word s r hI, infA_word s r hI, flt_zero s r hI, fneg_word s r (INF_lt' hI)]
  have h1 : r ≠ INF := by omega
  have h2 : 0 < r := by omega
  cases s <;> simp [h0, h1, h2, word_false]
theorem tanF_word (s : Bool) {r : Nat} (h : r < INF) (h0 : r ≠ 0) : tanF (double.word s r) = tanR s r := by
  have hI := Nat.le_of_lt h
  unfold tanF
  rw [feq_zero s r hI, isNanF_word s r hI, infA_word s r hI, flt_zero s r hI, fneg_word s r (INF_lt' hI)]
  have h1 : r ≠ INF := by omega
  have h2 : 0 < r := by omega
  cases s <;> simp [h0, h1, h2, word_false]
theorem cosF_word (s : Bool) {r : Nat} (h : r < INF) : cosF (double.word s r) = cosR r := by
  have hI := Nat.le_of_lt h
  unfold cosF
  rw [isNanF_word s r hI, infA_word s r hI, absF_word s r (INF_lt' hI)]
  have h1 : r ≠ INF := by omega
  simp [h1]
theorem scS_word (s : Bool) {r : Nat} (h : r < INF) (h0 : r ≠ 0) : scS (double.word s r) = sinR s r := by
  have hI := Nat.le_of_lt h
  unfold scS
  rw [feq_zero s r hI, isNanF_word s r hI, infA_word s r hI, flt_zero s r hI, fneg_word s r (INF_lt' hI)]
  have h1 : r ≠ INF := by omega
  have h2 : 0 < r := by omega
  cases s <;> simp [h0, h1, h2, word_false]
theorem scC_word (s : Bool) {r : Nat} (h : r < INF) (h0 : r ≠ 0) : scC (double.word s r) = cosR r := by
  have hI := Nat.le_of_lt h
  unfold scC
  rw [feq_zero s r hI, isNanF_word s r hI, infA_word s r hI, flt_zero s r hI, fneg_word s r (INF_lt' hI)]
  have h1 : r ≠ INF := by omega
  have h2 : 0 < r := by omega
  cases s <;> simp [h0, h1, h2, word_false]

theorem sinF_nan {x : Nat} (h : x < 18446744073709551616) (hn : nan x = true) : sinF x = x := by unfold sinF; rw [isNanF_eq x h, hn]; simp
theorem tanF_nan {x : Nat} (h : x < 18446744073709551616) (hn : nan x = true) : tanF x = x := by unfold tanF; rw [isNanF_eq x h, hn]; simp
theorem cosF_nan {x : Nat} (h : x < 18446744073709551616) (hn : nan x = true) : cosF x = cnan := by unfold cosF; rw [isNanF_eq x h, hn]; simp
theorem scS_nan {x : Nat} (h : x < 18446744073709551616) (hn : nan x = true) : scS x = cnan := by unfold scS; rw [order_nan_feq _ hn, isNanF_eq x h, hn]; simp
theorem scC_nan {x : Nat} (h : x < 18446744073709551616) (hn : nan x = true) : scC x = cnan := by unfold scC; rw [order_nan_feq _ hn, isNanF_eq x h, hn]; simp

theorem sinCases_plain (x : Nat) (h : x < 18446744073709551616) : sinCasesF x = true := by
  unfold sinCasesF metF specB specV
  rcases word_cases x h with hn | ⟨s, r, hr, rfl, hn⟩
  · rw [sinF_nan h hn, isNanF_eq x h, hn]
    have := sameF_nan h (show nanF < 18446744073709551616 by decide +kernel) hn nan_nanF
    simp [this]
  · rw [isNanF_word s r hr, feq_zero s r hr, isInfF_word s r hr]
    by_cases h0 : r = 0
    · subst h0; cases s <;> decide +kernel
    · by_cases h1 : r = INF
      · subst h1; cases s <;> decide +kernel
      · simp [h0, h1]
theorem tanCases_plain (x : Nat) (h : x < 18446744073709551616) : tanCasesF x = true := by
  unfold tanCasesF metF specB specV
  rcases word_cases x h with hn | ⟨s, r, hr, rfl, hn⟩
  · rw [tanF_nan h hn, isNanF_eq x h, hn]
    have := sameF_nan h (show nanF < 18446744073709551616 by decide +kernel) hn nan_nanF
    simp [this]
  · rw [isNanF_word s r hr, feq_zero s r hr, isInfF_word s r hr]
    by_cases h0 : r = 0
    · subst h0; cases s <;> decide +kernel
    · by_cases h1 : r = INF
      · subst h1; cases s <;> decide +kernel
      · simp [h0, h1]
theorem cosCases_plain (x : Nat) (h : x < 18446744073709551616) : cosCasesF x = true := by
  unfold cosCasesF metF specB specV
  rcases word_cases x h with hn | ⟨s, r, hr, rfl, hn⟩
  · rw [cosF_nan h hn, isNanF_eq x h, hn]
    have : sameF cnan nanF = true := by decide +kernel
    simp [this]
  · rw [isNanF_word s r hr, feq_zero s r hr, isInfF_word s r hr]
    by_cases h0 : r = 0
    · subst h0; simp [givenB]
    · by_cases h1 : r = INF
      · subst h1; cases s <;> decide +kernel
      · simp [h0, h1]
theorem sincosCases_plain (x : Nat) (h : x < 18446744073709551616) : sincosCasesF x = true := by
  unfold sincosCasesF
  rcases word_cases x h with hn | ⟨s, r, hr, rfl, hn⟩
  · rw [order_nan_feq _ hn, scS_nan h hn, scC_nan h hn]
    have : isNanF cnan = true := by decide +kernel
    simp [this]
  · rw [feq_zero s r hr, isFiniteF_word s r hr]
    by_cases h0 : r = 0
    · subst h0; cases s <;> decide +kernel
    · by_cases h1 : r = INF
      · subst h1; cases s <;> decide +kernel
      · have : r < INF := by omega
        simp [h0, this]

theorem turnedRound_plain (x : Nat) (h : x < 18446744073709551616) : turnedRoundF x = true := by
  unfold turnedRoundF
  have hl := fneg_lt x h
  rcases word_cases x h with hn | ⟨s, r, hr, rfl, hn⟩
  · have hn' : nan (fneg x) = true := by rw [nan_fneg]; exact hn
    rw [sinF_nan h hn, sinF_nan hl hn', tanF_nan h hn, tanF_nan hl hn', cosF_nan h hn, cosF_nan hl hn', sameF_self _ hl]
    have : sameF cnan cnan = true := by decide +kernel
    rw [this]; rfl
  · rw [fneg_word s r (INF_lt' hr)]
    by_cases h1 : r = INF
    · subst h1; cases s <;> decide +kernel
    · have hf : r < INF := by omega
      by_cases h0 : r = 0
      · have hc : sameF (cosR 0) (cosR 0) = true := sameF_self _ (cosR_lt 0)
        subst h0
        rw [cosF_word _ hf, cosF_word _ hf, hc]
        cases s <;> decide +kernel
      · rw [sinF_word _ hf h0, sinF_word _ hf h0, tanF_word _ hf h0, tanF_word _ hf h0, cosF_word _ hf, cosF_word _ hf, sinR_not, tanR_not]
        rw [sameF_self _ (fneg_lt _ (sinR_lt s r)), sameF_self _ (fneg_lt _ (tanR_lt s r)), sameF_self _ (cosR_lt r)]; rfl

end Go.Proofs.YtgbdplmpojkklaaDoor
