/-
Plain laws: the statements' functions answer true. No program in sight.
-/
import Derived.Test.YthnbkoohehnblaaFpQ
namespace Go.Proofs.Ythnbkoohehnblaa
open Ieee

theorem l1T_lt (z y : Bool) (f K c : Nat) : l1T z y f K c < 18446744073709551616 := by
  unfold l1T
  repeat' split
  all_goals first | decide | exact fadd_lt _ _ | exact fsub_lt _ _
theorem l1M_lt (c m : Nat) (k : Int) : l1M c m k < 18446744073709551616 := by
  unfold l1M; split <;> exact l1T_lt _ _ _ _ _
theorem log1pF_lt {a : Nat} (h : a < 18446744073709551616) : log1pF a < 18446744073709551616 := by
  unfold log1pF
  repeat' split
  all_goals first | exact h | exact fsub_lt _ _ | exact l1T_lt _ _ _ _ _ | exact l1M_lt _ _ _
theorem logF_lt {a : Nat} (h : a < 18446744073709551616) : logF a < 18446744073709551616 := by
  unfold logF
  repeat' split
  all_goals first | decide | exact h | exact fsub_lt _ _
theorem asinhA_lt {a : Nat} (h : a < 18446744073709551616) : asinhA a < 18446744073709551616 := by
  unfold asinhA
  repeat' split
  all_goals first | exact fadd_lt _ _ | exact logF_lt (fadd_lt _ _) | exact h | exact log1pF_lt (fadd_lt _ _)
theorem atanhA_lt {a : Nat} (h : a < 18446744073709551616) : atanhA a < 18446744073709551616 := by
  unfold atanhA
  repeat' split
  all_goals first | exact h | exact fmul_lt _ _

theorem fneg_fneg {x : Nat} : fneg (fneg x) = x := by
  unfold fneg; rw [Nat.xor_assoc, Nat.xor_self, Nat.xor_zero]

theorem asinh_word (s : Bool) {r : Nat} (h : r < INF) : asinhF (double.word s r) = if s then fneg (asinhA r) else asinhA r := by
  have hI := Nat.le_of_lt h
  unfold asinhF
  rw [isNanF_word s r hI, infA_word s r hI, flt_zero s r hI, fneg_word s r (INF_lt' hI)]
  have hne : r ≠ INF := by omega
  by_cases h0 : r = 0
  · subst h0
    cases s
    · simp [hne, word_false]
    · have e1 : asinhA (double.word true 0) = double.word true 0 := by decide +kernel
      have e2 : fneg (asinhA 0) = double.word true 0 := by decide +kernel
      simp [hne, e1, e2]
  · have hp : 0 < r := by omega
    cases s <;> simp [hne, hp, word_false]

theorem atanh_word (s : Bool) {r : Nat} (h : r < ONE) : atanhF (double.word s r) = if s then fneg (atanhA r) else atanhA r := by
  have hO := ONE_lt
  have hI : r ≤ INF := by omega
  have b := beyondF_word s r hI
  have hb : ¬ ONE < r := by omega
  unfold beyondF at b
  unfold atanhF
  have e1 := feq_word s false r ONE hI (by decide)
  have e2 := feq_word s true r ONE hI (by decide)
  rw [← oneN_eq] at e2
  rw [word_false] at e1
  have hv := V_lt h
  have q1 : feq (double.word s r) one = false := by rw [one_eq, e1]; cases s <;> simp [SV] <;> omega
  have q2 : feq (double.word s r) 13830554455654793216 = false := by rw [e2]; cases s <;> simp [SV] <;> omega
  rw [show (flt (double.word s r) 13830554455654793216 || fgt (double.word s r) one || isNanF (double.word s r)) = false by rw [b, isNanF_word s r hI]; simp [hb], q1, q2, flt_zero s r hI, fneg_word s r (INF_lt' hI)]
  by_cases h0 : r = 0
  · subst h0
    cases s
    · simp [word_false]
    · have e1 : atanhA (double.word true 0) = double.word true 0 := by decide +kernel
      have e2 : fneg (atanhA 0) = double.word true 0 := by decide +kernel
      simp [e1, e2]
  · have hp : 0 < r := by omega
    cases s <;> simp [hp, word_false]

theorem atanhCases_plain (x : Nat) (h : x < 18446744073709551616) : atanhCasesF x = true := by
  unfold atanhCasesF
  rcases word_cases x h with hn | ⟨s, r, hr, rfl, hn⟩
  · have e : atanhF x = cnan := by
      unfold atanhF; rw [isNanF_eq x h, hn]; simp
    have h1 : sameF cnan nanF = true := by decide +kernel
    rw [beyondF_nan hn, order_nan_feq _ hn, order_nan_feq _ hn, e]
    unfold metF specB specV
    rw [isNanF_eq x h, hn]
    simp [h1]
  · rw [beyondF_word s r hr]
    by_cases hb : ONE < r
    · have b := beyondF_word s r hr
      unfold beyondF at b
      have e : atanhF (double.word s r) = cnan := by
        unfold atanhF
        rw [show (flt (double.word s r) 13830554455654793216 || fgt (double.word s r) one || isNanF (double.word s r)) = true by rw [b]; simp [hb]]
        rfl
      rw [e]
      have h1 : isNanF cnan = true := by decide +kernel
      simp [hb, h1]
    · by_cases h1 : r = ONE
      · subst h1; cases s <;> decide +kernel
      · have hlt : r < ONE := by omega
        have hO := ONE_lt
        have e1 := feq_word s false r ONE hr (by decide)
        have e2 := feq_word s true r ONE hr (by decide)
        rw [← oneN_eq] at e2
        rw [word_false] at e1
        have hv := V_lt hlt
        have q1 : feq (double.word s r) one = false := by rw [one_eq, e1]; cases s <;> simp [SV] <;> omega
        have q2 : feq (double.word s r) 13830554455654793216 = false := by rw [e2]; cases s <;> simp [SV] <;> omega
        rw [q1, q2]
        unfold metF specB specV
        rw [isNanF_word s r hr, feq_zero s r hr, isInfF_word s r hr]
        by_cases h0 : r = 0
        · subst h0; cases s <;> decide +kernel
        · have h2 : r ≠ INF := by omega
          simp [hb, h0, h2]

theorem acoshCases_plain (x : Nat) (h : x < 18446744073709551616) : acoshCasesF x = true := by
  unfold acoshCasesF
  by_cases hc : (flt x one || isNanF x) = true
  · rw [if_pos hc]
    unfold acoshF
    rw [if_pos hc]; decide +kernel
  · rw [if_neg hc]
    rcases word_cases x h with hn | ⟨s, r, hr, rfl, hn⟩
    · rw [isNanF_eq x h, hn] at hc; simp at hc
    · have e := fne_word s false r INF hr (Nat.le_refl _)
      rw [word_false] at e
      rw [infF_eq, e]
      by_cases h1 : r = INF
      · subst h1
        cases s
        · have : feq (acoshF INF) INF = true := by decide +kernel
          rw [word_false, this]; simp
        · exfalso; apply hc; rw [word_true]; decide +kernel
      · have hv := V_lt (show r < INF by omega)
        have : SV s r ≠ SV false INF := by cases s <;> simp [SV] <;> omega
        simp [this]

theorem asinhCases_plain (x : Nat) (h : x < 18446744073709551616) : asinhCasesF x = true := by
  unfold asinhCasesF metF specB specV
  rcases word_cases x h with hn | ⟨s, r, hr, rfl, hn⟩
  · have e : asinhF x = x := by unfold asinhF; rw [isNanF_eq x h, hn]; simp
    rw [e, isNanF_eq x h, hn]
    have := sameF_nan h (show nanF < 18446744073709551616 by decide +kernel) hn nan_nanF
    simp [this]
  · rw [isNanF_word s r hr, feq_zero s r hr, isInfF_word s r hr]
    by_cases h0 : r = 0
    · subst h0; cases s <;> decide +kernel
    · by_cases h1 : r = INF
      · subst h1; cases s <;> decide +kernel
      · simp [h0, h1]

theorem turnedFar_plain (x : Nat) (h : x < 18446744073709551616) : turnedFarF x = true := by
  unfold turnedFarF
  have hl := fneg_lt x h
  rcases word_cases x h with hn | ⟨s, r, hr, rfl, hn⟩
  · have hn' : nan (fneg x) = true := by rw [nan_fneg]; exact hn
    have e1 : asinhF x = x := by unfold asinhF; rw [isNanF_eq x h, hn]; simp
    have e2 : asinhF (fneg x) = fneg x := by unfold asinhF; rw [isNanF_eq _ hl, hn']; simp
    have e3 : atanhF x = cnan := by unfold atanhF; rw [isNanF_eq x h, hn]; simp
    have e4 : atanhF (fneg x) = cnan := by unfold atanhF; rw [isNanF_eq _ hl, hn']; simp
    rw [e1, e2, e3, e4, sameF_self _ hl]
    decide +kernel
  · rw [fneg_word s r (INF_lt' hr)]
    have k1 : sameF (asinhF (double.word (!s) r)) (fneg (asinhF (double.word s r))) = true := by
      by_cases hI : r = INF
      · subst hI; cases s <;> decide +kernel
      · have hf : r < INF := by omega
        rw [asinh_word _ hf, asinh_word _ hf]
        have hA := asinhA_lt (word_lt64 false r hr)
        rw [word_false] at hA
        cases s
        · simpa using sameF_self _ (fneg_lt _ hA)
        · simpa [fneg_fneg] using sameF_self _ hA
    have k2 : sameF (atanhF (double.word (!s) r)) (fneg (atanhF (double.word s r))) = true := by
      by_cases hb : ONE < r
      · have e : ∀ t, atanhF (double.word t r) = cnan := by
          intro t
          have b := beyondF_word t r hr
          unfold beyondF at b
          unfold atanhF
          rw [show (flt (double.word t r) 13830554455654793216 || fgt (double.word t r) one || isNanF (double.word t r)) = true by rw [b]; simp [hb]]
          rfl
        rw [e, e]; decide +kernel
      · by_cases h1 : r = ONE
        · subst h1; cases s <;> decide +kernel
        · have hlt : r < ONE := by omega
          rw [atanh_word _ hlt, atanh_word _ hlt]
          have hA := atanhA_lt (word_lt64 false r hr)
          rw [word_false] at hA
          cases s
          · simpa using sameF_self _ (fneg_lt _ hA)
          · simpa [fneg_fneg] using sameF_self _ hA
    rw [k1, k2]; rfl

end Go.Proofs.Ythnbkoohehnblaa
