/-
What Asinh, Acosh and Atanh hand to the logarithms is positive and finite.
-/
import Derived.Test.YtgbdplmpojkklaaDoorFpP
import Derived.Test.YtgbdplmpojkklaaDoorFpI
namespace Go.Proofs.YtgbdplmpojkklaaDoor
open Ieee

/-- A positive finite word. -/
def PF (a : Nat) : Prop := 0 < a ∧ a < 9218868437227405312
theorem PF.fin {a : Nat} (h : PF a) : a < INF := h.2

def NZ : Nat := 4481081629233643520
def FOUR : Nat := 4616189618054758400

theorem asinh_pf {r : Nat} (h1 : NZ ≤ r) (h2 : r ≤ TWO) : PF (fadd r (fdiv (fmul r r) (fadd one (fsqrt (fadd one (fmul r r)))))) := by
  have hT : TWO < INF := by decide
  have hN : 0 < NZ := by decide
  have hm : fmul r r ≤ FOUR := Nat.le_trans (fmul_mono hT hT h2 h2) (by decide +kernel)
  have hF : FOUR < INF := by decide
  have ha : fadd ONE (fmul r r) ≤ fadd ONE FOUR := fadd_mono ONE_lt hF (Nat.le_refl _) hm
  have haf : fadd ONE (fmul r r) < INF := Nat.lt_of_le_of_lt ha (by decide +kernel)
  have hs : fsqrt (fadd ONE (fmul r r)) ≤ FOUR := Nat.le_trans (fsqrt_mono (by decide +kernel) ha) (by decide +kernel)
  have hd : ONE ≤ fadd ONE (fsqrt (fadd ONE (fmul r r))) := fadd_ge ONE_lt (by omega)
  have hdf : fadd ONE (fsqrt (fadd ONE (fmul r r))) < INF := Nat.lt_of_le_of_lt (fadd_mono ONE_lt hF (Nat.le_refl _) hs) (by decide +kernel)
  have hq : fdiv (fmul r r) (fadd ONE (fsqrt (fadd ONE (fmul r r)))) ≤ FOUR := by
    have := fdiv_mono (a' := FOUR) (b' := ONE) hF hdf (by decide) hm hd
    rw [fdiv_ONE hF] at this; exact this
  rw [one_eq]
  have hg := fadd_ge (show r < INF by omega) (show fdiv (fmul r r) (fadd ONE (fsqrt (fadd ONE (fmul r r)))) < INF by omega)
  refine ⟨by omega, Nat.lt_of_le_of_lt (fadd_mono hT hF h2 hq) (by decide +kernel)⟩

theorem acosh_pf {r : Nat} (h1 : ONE < r) (h2 : r ≤ TWO) : PF (fadd (fsub r one) (fsqrt (fadd (fmul TWO (fsub r one)) (fmul (fsub r one) (fsub r one))))) := by
  have hT : TWO < INF := by decide
  have hF : FOUR < INF := by decide
  rw [one_eq]
  have hp := fsub_pos (show r < INF by omega) h1
  have ht : fsub r ONE ≤ ONE := Nat.le_trans (fsub_mono hT (by omega) h2 (Nat.le_refl _)) (by decide +kernel)
  have hm1 : fmul TWO (fsub r ONE) ≤ TWO := Nat.le_trans (fmul_mono hT ONE_lt (Nat.le_refl _) ht) (by decide +kernel)
  have hm2 : fmul (fsub r ONE) (fsub r ONE) ≤ ONE := Nat.le_trans (fmul_mono ONE_lt ONE_lt ht ht) (by decide +kernel)
  have ha : fadd (fmul TWO (fsub r ONE)) (fmul (fsub r ONE) (fsub r ONE)) ≤ fadd TWO ONE := fadd_mono hT ONE_lt hm1 hm2
  have hs : fsqrt (fadd (fmul TWO (fsub r ONE)) (fmul (fsub r ONE) (fsub r ONE))) ≤ FOUR := Nat.le_trans (fsqrt_mono (by decide +kernel) ha) (by decide +kernel)
  have hO := ONE_lt
  have hg := fadd_ge (show fsub r ONE < INF by omega) (show fsqrt (fadd (fmul TWO (fsub r ONE)) (fmul (fsub r ONE) (fsub r ONE))) < INF by omega)
  exact ⟨by omega, Nat.lt_of_le_of_lt (fadd_mono ONE_lt hF ht hs) (by decide +kernel)⟩

theorem atanh_pf1 {r : Nat} (h1 : NZ ≤ r) (h2 : r < HALF) : PF (fadd (fadd r r) (fdiv (fmul (fadd r r) r) (fsub one r))) := by
  have hH : HALF < INF := by decide
  have hN : 0 < NZ := by decide
  have hO := ONE_lt
  have hHO : HALF < ONE := by decide
  rw [one_eq]
  have hrr : fadd r r ≤ ONE := Nat.le_trans (fadd_mono hH hH (Nat.le_of_lt h2) (Nat.le_of_lt h2)) (by decide +kernel)
  have hg := fadd_ge (show r < INF by omega) (show r < INF by omega)
  have hm : fmul (fadd r r) r ≤ HALF := Nat.le_trans (fmul_mono hO hH hrr (Nat.le_of_lt h2)) (by decide +kernel)
  have hd : HALF ≤ fsub ONE r := Nat.le_trans (by decide +kernel) (fsub_mono (a := ONE) (b := HALF) hO (by decide) (Nat.le_refl _) (Nat.le_of_lt h2))
  have hdf : fsub ONE r ≤ ONE := fsub_le hO (by omega)
  have hq : fdiv (fmul (fadd r r) r) (fsub ONE r) ≤ ONE := Nat.le_trans (fdiv_mono (a' := HALF) (b' := HALF) hH (by omega) (by decide) hm hd) (by decide +kernel)
  have hg2 := fadd_ge (show fadd r r < INF by omega) (show fdiv (fmul (fadd r r) r) (fsub ONE r) < INF by omega)
  exact ⟨by omega, Nat.lt_of_le_of_lt (fadd_mono hO hO hrr hq) (by decide +kernel)⟩

theorem atanh_pf2 {r : Nat} (h1 : HALF ≤ r) (h2 : r < ONE) : PF (fdiv (fadd r r) (fsub one r)) := by
  have hO := ONE_lt
  have hT : TWO < INF := by decide
  rw [one_eq]
  have hrr : fadd r r ≤ TWO := Nat.le_trans (fadd_mono hO hO (Nat.le_of_lt h2) (Nat.le_of_lt h2)) (by decide +kernel)
  have hrr2 : ONE ≤ fadd r r := Nat.le_trans (by decide +kernel) (fadd_mono (a := HALF) (b := HALF) (show r < INF by omega) (show r < INF by omega) h1 h1)
  have hd : fsub ONE (ONE - 1) ≤ fsub ONE r := fsub_mono hO (by omega) (Nat.le_refl _) (by omega)
  have hdf : fsub ONE r ≤ ONE := fsub_le hO (Nat.le_of_lt h2)
  have hdp : 0 < fsub ONE r := fsub_pos hO h2
  have hq1 : fdiv (fadd r r) (fsub ONE r) ≤ fdiv TWO (fsub ONE (ONE - 1)) := fdiv_mono hT (by omega) (by decide +kernel) hrr hd
  have hq2 : fdiv ONE ONE ≤ fdiv (fadd r r) (fsub ONE r) := fdiv_mono (show fadd r r < INF by omega) hO hdp hrr2 hdf
  rw [fdiv_ONE hO] at hq2
  have hOp : 0 < ONE := by decide
  exact ⟨by omega, Nat.lt_of_le_of_lt hq1 (by decide +kernel)⟩

-- IN THE WALK's TERMS: from the tests on a word to its rung
theorem asinh_pf_w {x : Nat} (hl : x < 18446744073709551616) (hn : isNanF x = false) (h0 : flt x 0 = false) (h1 : fgt x 4611686018427387904 = false) (h2 : flt x 4481081629233643520 = false) :
    PF (fadd x (fdiv (fmul x x) (fadd 4607182418800017408 (fsqrt (fadd 4607182418800017408 (fmul x x)))))) := by
  rcases word_cases x hl with hh | ⟨s, r, hr, rfl, _⟩
  · rw [isNanF_eq x hl, hh] at hn; cases hn
  · have e1 := fgt_pos s r TWO hr (by decide)
    have e2 := flt_pos s r NZ hr (by decide) (by decide)
    have g1 : (!s && decide (TWO < r)) = false := e1.symm.trans h1
    have g2 : (s || decide (r < NZ)) = false := e2.symm.trans h2
    cases s
    · simp at g1 g2
      exact asinh_pf g2 g1
    · simp at g2

theorem acosh_pf_w {x : Nat} (hl : x < 18446744073709551616) (hn : isNanF x = false) (h0 : flt x 4607182418800017408 = false) (h1 : feq x 4607182418800017408 = false) (h2 : fgt x 4611686018427387904 = false) :
    PF (fadd (fsub x 4607182418800017408) (fsqrt (fadd (fmul 4611686018427387904 (fsub x 4607182418800017408)) (fmul (fsub x 4607182418800017408) (fsub x 4607182418800017408))))) := by
  rcases word_cases x hl with hh | ⟨s, r, hr, rfl, _⟩
  · rw [isNanF_eq x hl, hh] at hn; cases hn
  · have e1 := fgt_pos s r TWO hr (by decide)
    have e2 := flt_pos s r ONE hr (by decide) (by decide)
    have e3 := feq_word s false r ONE hr (by decide)
    have g1 : (!s && decide (TWO < r)) = false := e1.symm.trans h2
    have g2 : (s || decide (r < ONE)) = false := e2.symm.trans h0
    have g3 : decide (SV s r = SV false ONE) = false := e3.symm.trans h1
    cases s
    · simp at g1 g2
      have hne : r ≠ ONE := by intro e; subst e; simp at g3
      exact acosh_pf (r := r) (by omega) g1
    · simp at g2

theorem atanh_pf1_w {x : Nat} (hl : x < 18446744073709551616) (hn : isNanF x = false) (h1 : flt x 4481081629233643520 = false) (h2 : flt x 4602678819172646912 = true) :
    PF (fadd (fadd x x) (fdiv (fmul (fadd x x) x) (fsub 4607182418800017408 x))) := by
  rcases word_cases x hl with hh | ⟨s, r, hr, rfl, _⟩
  · rw [isNanF_eq x hl, hh] at hn; cases hn
  · have e1 := flt_pos s r HALF hr (by decide) (by decide)
    have e2 := flt_pos s r NZ hr (by decide) (by decide)
    have g1 : (s || decide (r < HALF)) = true := e1.symm.trans h2
    have g2 : (s || decide (r < NZ)) = false := e2.symm.trans h1
    cases s
    · simp at g1 g2
      exact atanh_pf1 g2 g1
    · simp at g2

theorem atanh_pf2_w {x : Nat} (hl : x < 18446744073709551616) (hn : isNanF x = false) (h1 : flt x 4602678819172646912 = false) (h2 : fgt x 4607182418800017408 = false) (h3 : feq x 4607182418800017408 = false) :
    PF (fdiv (fadd x x) (fsub 4607182418800017408 x)) := by
  rcases word_cases x hl with hh | ⟨s, r, hr, rfl, _⟩
  · rw [isNanF_eq x hl, hh] at hn; cases hn
  · have e1 := flt_pos s r HALF hr (by decide) (by decide)
    have e2 := fgt_pos s r ONE hr (by decide)
    have e3 := feq_word s false r ONE hr (by decide)
    have g1 : (s || decide (r < HALF)) = false := e1.symm.trans h1
    have g2 : (!s && decide (ONE < r)) = false := e2.symm.trans h2
    have g3 : decide (SV s r = SV false ONE) = false := e3.symm.trans h3
    cases s
    · simp at g1 g2
      have hne : r ≠ ONE := by intro e; subst e; simp at g3
      exact atanh_pf2 (r := r) g1 (by omega)
    · simp at g1

/-- The tests on the opposite of a negative number. -/
theorem isNanF_fneg {x : Nat} (hl : x < 18446744073709551616) : isNanF (fneg x) = isNanF x := by
  rw [isNanF_eq _ (fneg_lt x hl), isNanF_eq x hl, nan_fneg]
theorem neg_tests {x : Nat} (hl : x < 18446744073709551616) (hn : isNanF x = false) (h0 : flt x 0 = true) (h1 : flt x 13830554455654793216 = false) (h2 : feq x 13830554455654793216 = false) :
    fgt (fneg x) 4607182418800017408 = false ∧ feq (fneg x) 4607182418800017408 = false ∧ flt (fneg x) 0 = false := by
  rcases word_cases x hl with hh | ⟨s, r, hr, rfl, _⟩
  · rw [isNanF_eq x hl, hh] at hn; cases hn
  · rw [flt_zero s r hr] at h0
    cases s
    · simp at h0
    · rw [fneg_word true r (INF_lt' hr)]
      have e1 := flt_word true true r ONE hr (by decide)
      have e2 := feq_word true true r ONE hr (by decide)
      rw [← oneN_eq] at e1 e2
      rw [e1] at h1
      rw [e2] at h2
      have hv : V r < V ONE := by
        simp [SV] at h1 h2; omega
      have hlt := V_lt_iff.1 hv
      have f1 := fgt_pos false r ONE hr (by decide)
      have f2 := feq_word false false r ONE hr (by decide)
      have f3 := flt_zero false r hr
      refine ⟨?_, ?_, ?_⟩
      · refine f1.trans ?_; simp; omega
      · refine f2.trans ?_; simp [SV]; omega
      · refine f3.trans ?_; simp
theorem neg_flt {x : Nat} (hl : x < 18446744073709551616) (hn : isNanF x = false) (h0 : flt x 0 = true) : flt (fneg x) 0 = false := by
  rcases word_cases x hl with hh | ⟨s, r, hr, rfl, _⟩
  · rw [isNanF_eq x hl, hh] at hn; cases hn
  · rw [flt_zero s r hr] at h0
    cases s
    · simp at h0
    · rw [fneg_word true r (INF_lt' hr)]
      exact (flt_zero false r hr).trans (by simp)

end Go.Proofs.YtgbdplmpojkklaaDoor
