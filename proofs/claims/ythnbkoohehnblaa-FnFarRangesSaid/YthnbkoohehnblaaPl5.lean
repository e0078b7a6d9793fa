/-
Plain laws on Asinh, Acosh, Atanh: they are positive and finite where they should be. No program in sight.
-/
import Derived.Test.YthnbkoohehnblaaFpT
import Derived.Test.YthnbkoohehnblaaPl4
namespace Go.Proofs.Ythnbkoohehnblaa
open Ieee

def badF (r x : Nat) : Bool := !isNanF r && (minusF r != minusF x || feq r 0 != feq x 0)
def farRangesF (x : Nat) : Bool :=
  if isNanF x then true
  else if badF (asinhF x) x then false
  else if badF (atanhF x) x then false
  else flt x one || fge (acoshF x) 0

theorem fgt_nat {a c : Nat} (ha : a ≤ INF) (hc : c ≤ INF) : fgt a c = decide (c < a) := by
  have e := fgt_pos false a c ha hc
  rw [word_false] at e; rw [e]; simp
theorem fge_nat {a c : Nat} (ha : a ≤ INF) (hc : c ≤ INF) (h0 : 0 < c) : fge a c = decide (c ≤ a) := by
  have e := fge_pos false a c ha hc h0
  rw [word_false] at e; rw [e]; simp

def W28 : Nat := 4733283208366391296
def W56 : Nat := 4859383997932765184
def W30 : Nat := 4742290407621132288
def LO : Nat := 4472074429978902528
def HI720 : Nat := 4649544402794971136

theorem log_pos {x : Nat} (h1 : TWO ≤ x) (h2 : x < INF) : 4598175219545276416 ≤ logF x ∧ logF x ≤ HI720 := (log_in h1 h2).pos (by decide) (by decide) (by decide)
theorem log1p_pos {x : Nat} (h1 : NZ ≤ x) (h2 : x < INF) : LO ≤ log1pF x ∧ log1pF x ≤ HI720 := (log1p_in h1 h2).pos (by decide) (by decide) (by decide)

/-- A logarithm and ln 2. -/
theorem log_ln2 {x : Nat} (h1 : TWO ≤ x) (h2 : x < INF) : 0 < fadd (logF x) 4604418534313441775 ∧ fadd (logF x) 4604418534313441775 < INF := by
  obtain ⟨a, b⟩ := log_pos h1 h2
  have hH : HI720 < INF := by decide
  have hg := fadd_ge (show logF x < INF by omega) (show 4604418534313441775 < INF by decide)
  exact ⟨by omega, Nat.lt_of_le_of_lt (fadd_mono hH (by decide) b (Nat.le_refl _)) (by decide +kernel)⟩

theorem asinh_arg {r : Nat} (h1 : TWO < r) (h2 : r ≤ W28) : TWO ≤ fadd (fmul TWO r) (fdiv ONE (fadd (fsqrt (fadd (fmul r r) ONE)) r)) ∧ fadd (fmul TWO r) (fdiv ONE (fadd (fsqrt (fadd (fmul r r) ONE)) r)) < INF := by
  have hT : TWO < INF := by decide
  have hW : W28 < INF := by decide
  have hO := ONE_lt
  have m1 : fmul TWO TWO ≤ fmul TWO r := fmul_mono hT (by omega) (Nat.le_refl _) (Nat.le_of_lt h1)
  have m2 : fmul TWO r ≤ fmul TWO W28 := fmul_mono hT hW (Nat.le_refl _) h2
  have q1 : fmul r r ≤ W56 := Nat.le_trans (fmul_mono hW hW h2 h2) (by decide +kernel)
  have q2 : fadd (fmul r r) ONE ≤ fadd W56 ONE := fadd_mono (by decide) hO q1 (Nat.le_refl _)
  have q3 : fsqrt (fadd (fmul r r) ONE) ≤ W30 := Nat.le_trans (fsqrt_mono (by decide +kernel) q2) (by decide +kernel)
  have hW30 : W30 < INF := by decide
  have d1 : r ≤ fadd (fsqrt (fadd (fmul r r) ONE)) r := by
    have := fadd_mono (a := 0) (b := r) (a' := fsqrt (fadd (fmul r r) ONE)) (b' := r) (by omega) (by omega) (Nat.zero_le _) (Nat.le_refl _)
    rw [fadd_zero_l (by omega)] at this; exact this
  have d2 : fadd (fsqrt (fadd (fmul r r) ONE)) r ≤ fadd W30 W28 := fadd_mono hW30 hW q3 h2
  have d3 : fadd W30 W28 < INF := by decide +kernel
  have e1 : fdiv ONE (fadd (fsqrt (fadd (fmul r r) ONE)) r) ≤ fdiv ONE TWO := fdiv_mono hO (by omega) (by decide) (Nat.le_refl _) (by omega)
  have e2 : fdiv ONE TWO < INF := by decide +kernel
  have m3 : fmul TWO W28 < INF := by decide +kernel
  have g := fadd_ge (show fmul TWO r < INF by omega) (show fdiv ONE (fadd (fsqrt (fadd (fmul r r) ONE)) r) < INF by omega)
  have m4 : TWO ≤ fmul TWO TWO := by decide +kernel
  exact ⟨by omega, Nat.lt_of_le_of_lt (fadd_mono m3 e2 m2 e1) (by decide +kernel)⟩

theorem asinh_arg1 {r : Nat} (h1 : NZ ≤ r) (h2 : r ≤ TWO) : NZ ≤ fadd r (fdiv (fmul r r) (fadd ONE (fsqrt (fadd ONE (fmul r r))))) := by
  have hT : TWO < INF := by decide
  have hm : fmul r r ≤ FOUR := Nat.le_trans (fmul_mono hT hT h2 h2) (by decide +kernel)
  have hF : FOUR < INF := by decide
  have ha : fadd ONE (fmul r r) ≤ fadd ONE FOUR := fadd_mono ONE_lt hF (Nat.le_refl _) hm
  have hs : fsqrt (fadd ONE (fmul r r)) ≤ FOUR := Nat.le_trans (fsqrt_mono (by decide +kernel) ha) (by decide +kernel)
  have hd : ONE ≤ fadd ONE (fsqrt (fadd ONE (fmul r r))) := fadd_ge ONE_lt (by omega)
  have hdf : fadd ONE (fsqrt (fadd ONE (fmul r r))) < INF := Nat.lt_of_le_of_lt (fadd_mono ONE_lt hF (Nat.le_refl _) hs) (by decide +kernel)
  have hq : fdiv (fmul r r) (fadd ONE (fsqrt (fadd ONE (fmul r r)))) ≤ FOUR := by
    have := fdiv_mono (a' := FOUR) (b' := ONE) hF hdf (by decide) hm hd
    rw [fdiv_ONE hF] at this; exact this
  have hg := fadd_ge (show r < INF by omega) (show fdiv (fmul r r) (fadd ONE (fsqrt (fadd ONE (fmul r r)))) < INF by omega)
  omega

theorem asinhA_pos {r : Nat} (h0 : 0 < r) (h : r < INF) : 0 < asinhA r ∧ asinhA r < INF := by
  have hI := Nat.le_of_lt h
  unfold asinhA
  rw [fgt_nat hI (show 4733283208366391296 ≤ INF by decide), fgt_nat hI (show 4611686018427387904 ≤ INF by decide), flt_nat hI (show 4481081629233643520 ≤ INF by decide) (by decide)]
  simp only [decide_eq_true_eq]
  have hW : W28 = 4733283208366391296 := rfl
  have hT : TWO = 4611686018427387904 := rfl
  have hN : NZ = 4481081629233643520 := rfl
  have hH : HI720 < INF := by decide
  have hL : 0 < LO := by decide
  by_cases c1 : 4733283208366391296 < r
  · rw [if_pos c1]; exact log_ln2 (by omega) h
  · rw [if_neg c1]
    by_cases c2 : 4611686018427387904 < r
    · rw [if_pos c2]
      obtain ⟨a, b⟩ := asinh_arg (show TWO < r by omega) (show r ≤ W28 by omega)
      obtain ⟨p, q⟩ := log_pos a b
      exact ⟨Nat.lt_of_lt_of_le (by decide) p, Nat.lt_of_le_of_lt q hH⟩
    · rw [if_neg c2]
      by_cases c3 : r < 4481081629233643520
      · rw [if_pos c3]; exact ⟨h0, h⟩
      · rw [if_neg c3]
        obtain ⟨p, q⟩ := log1p_pos (asinh_arg1 (show NZ ≤ r by omega) (show r ≤ TWO by omega)) (asinh_pf (show NZ ≤ r by omega) (show r ≤ TWO by omega)).2
        exact ⟨Nat.lt_of_lt_of_le hL p, Nat.lt_of_le_of_lt q hH⟩

theorem half_log {a : Nat} (h : LO ≤ a) (h2 : a ≤ HI720) : 0 < fmul HALF a ∧ fmul HALF a < INF := by
  have hH : HI720 < INF := by decide
  have hL : 2 * B + 1 < LO := by decide
  rw [fmul_comm (by decide) (by omega), fmul_HALF (by omega) (by omega)]
  omega

theorem atanhA_pos {r : Nat} (h0 : 0 < r) (h : r < ONE) : 0 < atanhA r ∧ atanhA r < INF := by
  have hO := ONE_lt
  have hI : r ≤ INF := by omega
  unfold atanhA
  rw [flt_nat hI (show 4602678819172646912 ≤ INF by decide) (by decide), flt_nat hI (show 4481081629233643520 ≤ INF by decide) (by decide)]
  simp only [decide_eq_true_eq]
  have hHf : HALF = 4602678819172646912 := rfl
  have hN : NZ = 4481081629233643520 := rfl
  by_cases c1 : r < 4481081629233643520
  · rw [if_pos c1]; exact ⟨h0, by omega⟩
  · rw [if_neg c1]
    by_cases c2 : r < 4602678819172646912
    · rw [if_pos c2]
      have hpf := (atanh_pf1 (show NZ ≤ r by omega) (show r < HALF by omega)).2
      have hge : NZ ≤ fadd (fadd r r) (fdiv (fmul (fadd r r) r) (fsub one r)) := by
        have hH : HALF < INF := by decide
        have hHO : HALF < ONE := by decide
        have h2 : r < HALF := by omega
        rw [one_eq]
        have hrr : fadd r r ≤ ONE := Nat.le_trans (fadd_mono hH hH (Nat.le_of_lt h2) (Nat.le_of_lt h2)) (by decide +kernel)
        have hg := fadd_ge (show r < INF by omega) (show r < INF by omega)
        have hm : fmul (fadd r r) r ≤ HALF := Nat.le_trans (fmul_mono hO hH hrr (Nat.le_of_lt h2)) (by decide +kernel)
        have hd : HALF ≤ fsub ONE r := Nat.le_trans (by decide +kernel) (fsub_mono (a := ONE) (b := HALF) hO (by decide) (Nat.le_refl _) (Nat.le_of_lt h2))
        have hdf : fsub ONE r ≤ ONE := fsub_le hO (by omega)
        have hq : fdiv (fmul (fadd r r) r) (fsub ONE r) ≤ ONE := Nat.le_trans (fdiv_mono (a' := HALF) (b' := HALF) hH (by omega) (by decide) hm hd) (by decide +kernel)
        have hg2 := fadd_ge (show fadd r r < INF by omega) (show fdiv (fmul (fadd r r) r) (fsub ONE r) < INF by omega)
        omega
      obtain ⟨p, q⟩ := log1p_pos hge hpf
      exact half_log p q
    · rw [if_neg c2]
      have hpf := (atanh_pf2 (show HALF ≤ r by omega) h).2
      have hge : NZ ≤ fdiv (fadd r r) (fsub one r) := by
        rw [one_eq]
        have hrr2 : ONE ≤ fadd r r := Nat.le_trans (by decide +kernel) (fadd_mono (a := HALF) (b := HALF) (show r < INF by omega) (show r < INF by omega) (by omega) (by omega))
        have hrr : fadd r r ≤ TWO := Nat.le_trans (fadd_mono hO hO (Nat.le_of_lt h) (Nat.le_of_lt h)) (by decide +kernel)
        have hT : TWO < INF := by decide
        have hdf : fsub ONE r ≤ ONE := fsub_le hO (Nat.le_of_lt h)
        have hdp : 0 < fsub ONE r := fsub_pos hO h
        have hq2 : fdiv ONE ONE ≤ fdiv (fadd r r) (fsub ONE r) := fdiv_mono (show fadd r r < INF by omega) hO hdp hrr2 hdf
        rw [fdiv_ONE hO] at hq2
        exact Nat.le_trans (by decide) hq2
      obtain ⟨p, q⟩ := log1p_pos hge hpf
      exact half_log p q

theorem acosh_arg {r : Nat} (h1 : TWO < r) (h2 : r < W28) : TWO ≤ fsub (fmul TWO r) (fdiv ONE (fadd r (fsqrt (fsub (fmul r r) ONE)))) ∧ fsub (fmul TWO r) (fdiv ONE (fadd r (fsqrt (fsub (fmul r r) ONE)))) < INF := by
  have hT : TWO < INF := by decide
  have hW : W28 < INF := by decide
  have hO := ONE_lt
  have hOT : ONE < TWO := by decide
  have m1 : fmul TWO TWO ≤ fmul TWO r := fmul_mono hT (by omega) (Nat.le_refl _) (Nat.le_of_lt h1)
  have m2 : fmul TWO r ≤ fmul TWO W28 := fmul_mono hT hW (Nat.le_refl _) (Nat.le_of_lt h2)
  have q0 : fmul ONE ONE ≤ fmul r r := fmul_mono (by omega) (by omega) (by omega) (by omega)
  rw [fmul_ONE hO] at q0
  have q1 : fmul r r ≤ W56 := Nat.le_trans (fmul_mono hW hW (Nat.le_of_lt h2) (Nat.le_of_lt h2)) (by decide +kernel)
  have hW56 : W56 < INF := by decide
  have q2 : fsub (fmul r r) ONE ≤ W56 := Nat.le_trans (fsub_le (by omega) q0) q1
  have q3 : fsqrt (fsub (fmul r r) ONE) ≤ W30 := Nat.le_trans (fsqrt_mono hW56 q2) (by decide +kernel)
  have hW30 : W30 < INF := by decide
  have d1 : r ≤ fadd r (fsqrt (fsub (fmul r r) ONE)) := fadd_ge (by omega) (by omega)
  have d2 : fadd r (fsqrt (fsub (fmul r r) ONE)) ≤ fadd W28 W30 := fadd_mono hW hW30 (Nat.le_of_lt h2) q3
  have d3 : fadd W28 W30 < INF := by decide +kernel
  have e1 : fdiv ONE (fadd r (fsqrt (fsub (fmul r r) ONE))) ≤ fdiv ONE TWO := fdiv_mono hO (by omega) (by decide) (Nat.le_refl _) (by omega)
  have m3 : fmul TWO W28 < INF := by decide +kernel
  have e3 : fdiv ONE TWO ≤ fmul TWO TWO := by decide +kernel
  have m5 : TWO ≤ fsub (fmul TWO TWO) (fdiv ONE TWO) := by decide +kernel
  have g1 := fsub_mono (a := fmul TWO TWO) (b := fdiv ONE TWO) (a' := fmul TWO r) (show fmul TWO r < INF by omega) e3 m1 e1
  exact ⟨by omega, Nat.lt_of_le_of_lt (fsub_le (show fmul TWO r < INF by omega) (by omega)) (by omega)⟩

theorem acosh_arg1 {r : Nat} (h1 : ONE < r) (h2 : r ≤ TWO) : NZ ≤ fadd (fsub r ONE) (fsqrt (fadd (fmul TWO (fsub r ONE)) (fmul (fsub r ONE) (fsub r ONE)))) := by
  have hT : TWO < INF := by decide
  have hF : FOUR < INF := by decide
  have hO := ONE_lt
  have ht : fsub r ONE ≤ ONE := Nat.le_trans (fsub_mono hT (by omega) h2 (Nat.le_refl _)) (by decide +kernel)
  have hl : fsub (ONE + 1) ONE ≤ fsub r ONE := fsub_mono (by omega) (by omega) (by omega) (Nat.le_refl _)
  have hm1 : fmul TWO (fsub r ONE) ≤ TWO := Nat.le_trans (fmul_mono hT hO (Nat.le_refl _) ht) (by decide +kernel)
  have hl1 : fmul TWO (fsub (ONE + 1) ONE) ≤ fmul TWO (fsub r ONE) := fmul_mono hT (by omega) (Nat.le_refl _) hl
  have hm2 : fmul (fsub r ONE) (fsub r ONE) ≤ ONE := Nat.le_trans (fmul_mono hO hO ht ht) (by decide +kernel)
  have ha : fadd (fmul TWO (fsub r ONE)) (fmul (fsub r ONE) (fsub r ONE)) ≤ fadd TWO ONE := fadd_mono hT hO hm1 hm2
  have ha3 : fadd TWO ONE < INF := by decide +kernel
  have hl2 := fadd_ge (show fmul TWO (fsub r ONE) < INF by omega) (show fmul (fsub r ONE) (fsub r ONE) < INF by omega)
  have hs : fsqrt (fadd (fmul TWO (fsub r ONE)) (fmul (fsub r ONE) (fsub r ONE))) ≤ FOUR := Nat.le_trans (fsqrt_mono ha3 ha) (by decide +kernel)
  have hs2 : fsqrt (fmul TWO (fsub (ONE + 1) ONE)) ≤ fsqrt (fadd (fmul TWO (fsub r ONE)) (fmul (fsub r ONE) (fsub r ONE))) := fsqrt_mono (by omega) (by omega)
  have hs3 : NZ ≤ fsqrt (fmul TWO (fsub (ONE + 1) ONE)) := by decide +kernel
  have := fadd_mono (a := 0) (b := fsqrt (fadd (fmul TWO (fsub r ONE)) (fmul (fsub r ONE) (fsub r ONE)))) (a' := fsub r ONE) (by omega) (show fsqrt (fadd (fmul TWO (fsub r ONE)) (fmul (fsub r ONE) (fsub r ONE))) < INF by omega) (Nat.zero_le _) (Nat.le_refl _)
  rw [fadd_zero_l (by omega)] at this
  omega

theorem acosh_pos {r : Nat} (h1 : ONE < r) (h : r < INF) : 0 < acoshF r ∧ acoshF r < INF := by
  have hI := Nat.le_of_lt h
  have hO := ONE_lt
  unfold acoshF
  have hn : isNanF r = false := by have := isNanF_word false r hI; rw [word_false] at this; exact this
  have hq : feq r ONE = false := by
    have := feq_word false false r ONE hI (by decide)
    rw [word_false, word_false] at this
    rw [this]
    have := V_lt h1
    simp [SV]; omega
  rw [one_eq, hn, flt_nat hI (Nat.le_of_lt hO) (by decide), hq, fge_nat hI (show 4733283208366391296 ≤ INF by decide) (by decide), fgt_nat hI (show 4611686018427387904 ≤ INF by decide)]
  have hlt : ¬ r < ONE := by omega
  simp only [hlt, decide_false, Bool.or_self, Bool.false_eq_true, if_false, decide_eq_true_eq]
  have hW : W28 = 4733283208366391296 := rfl
  have hT : TWO = 4611686018427387904 := rfl
  have hH : HI720 < INF := by decide
  have hL : 0 < LO := by decide
  by_cases c1 : 4733283208366391296 ≤ r
  · rw [if_pos c1]; exact log_ln2 (by omega) h
  · rw [if_neg c1]
    by_cases c2 : 4611686018427387904 < r
    · rw [if_pos c2]
      obtain ⟨a, b⟩ := acosh_arg (show TWO < r by omega) (show r < W28 by omega)
      obtain ⟨p, q⟩ := log_pos a b
      exact ⟨Nat.lt_of_lt_of_le (by decide) p, Nat.lt_of_le_of_lt q hH⟩
    · rw [if_neg c2]
      obtain ⟨p, q⟩ := log1p_pos (acosh_arg1 h1 (show r ≤ TWO by omega)) (acosh_pf h1 (show r ≤ TWO by omega)).2
      exact ⟨Nat.lt_of_lt_of_le hL p, Nat.lt_of_le_of_lt q hH⟩

theorem asinh_w (s : Bool) {r : Nat} (h : r < INF) : ∃ A, asinhF (double.word s r) = double.word s A ∧ A < INF ∧ (A = 0 ↔ r = 0) := by
  have hS := INF_lt_SGN
  by_cases h0 : r = 0
  · subst h0
    exact ⟨0, by cases s <;> decide +kernel, by decide, by simp⟩
  · obtain ⟨p, q⟩ := asinhA_pos (show 0 < r by omega) h
    refine ⟨asinhA r, ?_, q, by omega⟩
    rw [asinh_word s h]
    cases s
    · rfl
    · exact fneg_word false _ (Nat.lt_trans q hS)
theorem atanh_w (s : Bool) {r : Nat} (h : r < ONE) : ∃ A, atanhF (double.word s r) = double.word s A ∧ A < INF ∧ (A = 0 ↔ r = 0) := by
  have hS := INF_lt_SGN
  by_cases h0 : r = 0
  · subst h0
    exact ⟨0, by cases s <;> decide +kernel, by decide, by simp⟩
  · obtain ⟨p, q⟩ := atanhA_pos (show 0 < r by omega) h
    refine ⟨atanhA r, ?_, q, by omega⟩
    rw [atanh_word s h]
    cases s
    · rfl
    · exact fneg_word false _ (Nat.lt_trans q hS)

theorem fgt_one (s : Bool) {r : Nat} (h : r ≤ INF) : fgt (double.word s r) one = (!s && decide (ONE < r)) := fgt_pos s r ONE h (Nat.le_of_lt ONE_lt)
theorem flt_one (s : Bool) {r : Nat} (h : r ≤ INF) : flt (double.word s r) one = (s || decide (r < ONE)) := flt_pos s r ONE h (Nat.le_of_lt ONE_lt) (by decide)

theorem farOne_plain (x : Nat) (h : x < 18446744073709551616) : farOneF x = true := by
  unfold farOneF
  have e1 : feq (acoshF one) 0 = true := by decide +kernel
  have e2 : fgt (asinhF one) 0 = true := by
    obtain ⟨A, e, hA, h0⟩ := asinh_w false (r := ONE) ONE_lt
    rw [one_eq]
    rw [word_false, word_false] at e
    have := fgt_zero false A (Nat.le_of_lt hA)
    rw [word_false] at this
    have hp : 0 < A := by
      have : A ≠ 0 := fun hh => absurd (h0.1 hh) (by decide)
      omega
    rw [e, this]; simp [hp]
  rw [e1, e2]
  rcases word_cases x h with hn | ⟨s, r, hr, rfl, hn⟩
  · rw [order_nan_fgt _ hn]; rfl
  · rw [fgt_one s hr]
    cases s
    · by_cases hlt : ONE < r
      · have k : fgt (acoshF r) 0 = true := by
          by_cases hI : r = INF
          · subst hI; decide +kernel
          · obtain ⟨p, q⟩ := acosh_pos hlt (show r < INF by omega)
            have := fgt_zero false (acoshF r) (Nat.le_of_lt q)
            rw [word_false] at this
            rw [this]; simp [p]
        rw [word_false, k]; simp
      · simp [hlt]
    · simp

theorem farFinite_plain (x : Nat) (h : x < 18446744073709551616) : farFiniteF x = true := by
  have hO := ONE_lt
  unfold farFiniteF
  rcases word_cases x h with hn | ⟨s, r, hr, rfl, hn⟩
  · rw [isFiniteF_nan hn]; rfl
  · rw [isFiniteF_word s r hr]
    by_cases hI : r < INF
    · obtain ⟨A, e, hA, h0⟩ := asinh_w s hI
      have k1 : isFiniteF (asinhF (double.word s r)) = true := by rw [e, isFiniteF_word s A (Nat.le_of_lt hA)]; simp [hA]
      have k2 : (flt (double.word s r) one || isFiniteF (acoshF (double.word s r))) = true := by
        rw [flt_one s hr]
        cases s
        · by_cases h1 : r < ONE
          · simp [h1]
          · by_cases h2 : r = ONE
            · subst h2; decide +kernel
            · obtain ⟨p, q⟩ := acosh_pos (show ONE < r by omega) hI
              have := isFiniteF_word false (acoshF r) (Nat.le_of_lt q)
              rw [word_false] at this
              rw [word_false, this]; simp [q]
        · simp
      have k3 : (fge (sizeF (double.word s r)) one || isFiniteF (atanhF (double.word s r))) = true := by
        have := fge_nat hr (Nat.le_of_lt hO) (by decide)
        rw [sizeF_word s r hr, one_eq, this]
        by_cases h1 : r < ONE
        · obtain ⟨C, e, hC, _⟩ := atanh_w s h1
          rw [e, isFiniteF_word s C (Nat.le_of_lt hC)]; simp [hC]
        · have : ONE ≤ r := by omega
          simp [this]
      have k4 : (feq (double.word s r) 0 || fne (asinhF (double.word s r)) 0) = true := by
        rw [feq_zero s r hr, e]
        have := feq_zero s A (Nat.le_of_lt hA)
        unfold fne feq at *
        rw [bne, this]
        by_cases hz : r = 0
        · simp [hz]
        · have : A ≠ 0 := fun hh => hz (h0.1 hh)
          simp [this]
      rw [k1, k2, k3, k4]; simp
    · simp [hI]

theorem bad_word (s : Bool) {r A : Nat} (hr : r ≤ INF) (hA : A ≤ INF) (h0 : A = 0 ↔ r = 0) : badF (double.word s A) (double.word s r) = false := by
  unfold badF
  rw [minusF_word s A hA, minusF_word s r hr, feq_zero s A hA, feq_zero s r hr]
  by_cases hz : r = 0
  · simp [hz, h0.2 hz]
  · have : A ≠ 0 := fun hh => hz (h0.1 hh)
    simp [hz, this]

theorem farRanges_plain (x : Nat) (h : x < 18446744073709551616) : farRangesF x = true := by
  have hO := ONE_lt
  unfold farRangesF
  rcases word_cases x h with hn | ⟨s, r, hr, rfl, hn⟩
  · rw [isNanF_eq x h, hn]; rfl
  · rw [isNanF_word s r hr]
    have k1 : badF (asinhF (double.word s r)) (double.word s r) = false := by
      by_cases hI : r = INF
      · subst hI; cases s <;> decide +kernel
      · obtain ⟨A, e, hA, h0⟩ := asinh_w s (show r < INF by omega)
        rw [e]; exact bad_word s hr (Nat.le_of_lt hA) h0
    have k2 : badF (atanhF (double.word s r)) (double.word s r) = false := by
      by_cases hb : ONE < r
      · have b := beyondF_word s r hr
        unfold beyondF at b
        have e : atanhF (double.word s r) = cnan := by
          unfold atanhF
          rw [show (flt (double.word s r) 13830554455654793216 || fgt (double.word s r) one || isNanF (double.word s r)) = true by rw [b]; simp [hb]]
          rfl
        have hc : isNanF cnan = true := by decide +kernel
        rw [e]; unfold badF; rw [hc]; rfl
      · by_cases h1 : r = ONE
        · subst h1; cases s <;> decide +kernel
        · obtain ⟨A, e, hA, h0⟩ := atanh_w s (show r < ONE by omega)
          rw [e]; exact bad_word s hr (Nat.le_of_lt hA) h0
    have k3 : (flt (double.word s r) one || fge (acoshF (double.word s r)) 0) = true := by
      rw [flt_one s hr]
      cases s
      · by_cases h1 : r < ONE
        · simp [h1]
        · by_cases h2 : r = ONE
          · subst h2; decide +kernel
          · by_cases hI : r = INF
            · subst hI; decide +kernel
            · obtain ⟨p, q⟩ := acosh_pos (show ONE < r by omega) (show r < INF by omega)
              have := fge_zero false (acoshF r) (Nat.le_of_lt q)
              rw [word_false] at this
              rw [word_false, this]; simp
      · simp
    rw [k1, k2, k3]; simp

end Go.Proofs.Ythnbkoohehnblaa
