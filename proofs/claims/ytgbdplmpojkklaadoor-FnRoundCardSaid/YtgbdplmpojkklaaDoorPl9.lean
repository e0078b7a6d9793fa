/-
FnRound's plain law. No program in sight.
-/
import Derived.Test.YtgbdplmpojkklaaDoorQR
import Derived.Test.YtgbdplmpojkklaaDoorFpW
namespace Go.Proofs.YtgbdplmpojkklaaDoor
open Ieee

theorem rng {v : Nat} (h : In v 13830554455654793216 4607182418800017408) : fge v 13830554455654793216 = true ∧ fle v one = true := by
  obtain ⟨⟨s, r, hr, rfl⟩, h1, h2⟩ := h
  have hI := INF_lt_SGN
  have hO := ONE_lt
  have e1 : sv 13830554455654793216 = SV true ONE := by rw [oneN_eq]; exact sv_word true ONE (by omega)
  have e2 : sv 4607182418800017408 = SV false ONE := sv_word false ONE (by omega)
  rw [sv_word s r (by omega), e1] at h1
  rw [sv_word s r (by omega), e2] at h2
  have a := fge_word s true r ONE (by omega) (by omega)
  have b := fle_word s false r ONE (by omega) (by omega)
  rw [← oneN_eq] at a
  rw [word_false] at b
  rw [a, one_eq, b]
  exact ⟨decide_eq_true h1, decide_eq_true h2⟩
theorem In.fneg1 {v : Nat} (h : In v 13830554455654793216 4607182418800017408) : In (fneg v) 13830554455654793216 4607182418800017408 := by
  have e : sv 13830554455654793216 = -(sv 4607182418800017408) := by decide +kernel
  obtain ⟨f, h1, h2⟩ := h
  refine ⟨f.neg, ?_, ?_⟩
  · rw [sv_fneg f]; omega
  · rw [sv_fneg f]; omega
theorem In.negIf1 {v : Nat} (b : Bool) (h : In v 13830554455654793216 4607182418800017408) : In (negIf b v) 13830554455654793216 4607182418800017408 := by
  cases b
  · exact h
  · exact h.fneg1
theorem sq_neg {v : Nat} (b : Bool) (h : Fw v) : fmul (negIf b v) (negIf b v) = fmul v v := by
  cases b
  · rfl
  · obtain ⟨s, r, hr, rfl⟩ := h
    show fmul (fneg (double.word s r)) (fneg (double.word s r)) = _
    rw [fneg_word s r (by have := INF_lt_SGN; omega), fmul_word _ _ hr hr, fmul_word _ _ hr hr]
    cases s <;> rfl
theorem sq_word {v : Nat} (h : Fw v) (hf : Fw (fmul v v)) : ∃ q, q < INF ∧ fmul v v = q := by
  obtain ⟨s, r, hr, rfl⟩ := h
  have e : fmul (double.word s r) (double.word s r) = fmul r r := by
    rw [fmul_word s s hr hr]; cases s <;> rfl
  rw [e] at hf ⊢
  refine ⟨_, ?_, rfl⟩
  obtain ⟨t, q, hq, e2⟩ := hf
  have := fmul_le_INF hr hr
  have hI := INF_lt_SGN
  by_cases hh : fmul r r < INF
  · exact hh
  · have h2 : fmul r r = INF := by omega
    rw [h2] at e2
    exfalso
    cases t
    · rw [word_false] at e2; omega
    · rw [word_true] at e2; omega
theorem near_one {y : Nat} (f : Fw y) (h : Bd y (1 / 2 ^ 48)) : fle (sizeF y) (fmul (sizeF one) 4391009636686233600) = true := by
  obtain ⟨s, r, hr, rfl⟩ := f
  have hI := INF_lt_SGN
  have e1 : fmul (sizeF one) 4391009636686233600 = 4391009636686233600 := by decide +kernel
  rw [sizeF_word s r (by omega), e1]
  have hv : vq r ≤ vq 4391009636686233600 := by
    have e2 : vq 4391009636686233600 = 1 / 2 ^ 48 := by decide +kernel
    rw [e2]
    cases s
    · exact h.2
    · have e3 : vq (double.word true r) = -vq r := by
        have h1 : sv (double.word true r) = -(sv r) := by
          rw [sv_word true r (by omega), sv_fin hr]; rfl
        unfold vq; rw [h1, Rat.intCast_neg]; grind
      have := h.1
      rw [e3] at this; grind
  have h2 := vq_le_inv hv
  rw [sv_fin hr, sv_fin (show 4391009636686233600 < INF by decide)] at h2
  have h3 := V_le_iff.1 (Int.ofNat_le.1 h2)
  have e := fle_pos false r 4391009636686233600 (by omega) (by decide)
  rw [word_false] at e
  rw [e]; simp; exact h3

theorem round_plain (x : Nat) (h : x < 18446744073709551616) : roundF x = true := by
  unfold roundF
  rcases word_cases x h with hn | ⟨s, r, hr, rfl, hn⟩
  · rw [isFiniteF_nan hn]; rfl
  · rw [isFiniteF_word s r hr]
    by_cases hf : r < INF
    · simp only [hf, decide_true, Bool.not_true, Bool.false_eq_true, if_false]
      by_cases h0 : r = 0
      · subst h0
        have e : cosR 0 = ONE := by
          obtain ⟨j, z, _⟩ := near_red (r := 0) (by decide)
          unfold cosR; rw [j, z]
          simp [negIf, near_cosP (r := 0) (by decide)]
        rw [cosF_word _ hf, e]
        cases s <;> decide +kernel
      · rw [sinF_word s hf h0, cosF_word s hf]
        have hz := redZ_in hf
        have hS : In (sinP (redZ r)) 13830554455654793216 4607182418800017408 := (sinP_in hz).mono (by decide +kernel) (by decide +kernel)
        have hC : In (cosP (redZ r)) 13830554455654793216 4607182418800017408 := by
          obtain ⟨c1, c2⟩ := (cosP_in hz).pos (by decide) (by decide) (by decide)
          have i := In.ofPos2 c1 (cosP_one hz) (show ONE < INF by decide)
          exact i.mono (by decide +kernel) (Int.le_refl _)
        obtain ⟨k1, k2⟩ := round_core hz
        have fSS : Fw (fmul (sinP (redZ r)) (sinP (redZ r))) := (In_sq hS (Fw.of (by decide +kernel)) (Fw.of (by decide +kernel)) (Fw.of (show fwB 4607182418800017408 = true by decide +kernel)) (by decide +kernel) (by decide +kernel)).1
        have fCC : Fw (fmul (cosP (redZ r)) (cosP (redZ r))) := (In_sq hC (Fw.of (by decide +kernel)) (Fw.of (by decide +kernel)) (Fw.of (show fwB 4607182418800017408 = true by decide +kernel)) (by decide +kernel) (by decide +kernel)).1
        obtain ⟨qs, hqs, es⟩ := sq_word hS.1 fSS
        obtain ⟨qc, hqc, ec⟩ := sq_word hC.1 fCC
        have hcomm : fadd (fmul (cosP (redZ r)) (cosP (redZ r))) (fmul (sinP (redZ r)) (sinP (redZ r))) = fadd (fmul (sinP (redZ r)) (sinP (redZ r))) (fmul (cosP (redZ r)) (cosP (redZ r))) := by
          rw [es, ec]
          have := fadd_comm false false hqc hqs
          rw [word_false, word_false] at this; exact this
        have hnear : nearF (fadd (fmul (sinP (redZ r)) (sinP (redZ r))) (fmul (cosP (redZ r)) (cosP (redZ r)))) one 4391009636686233600 = true := near_one k2 k1
        unfold sinR cosR
        by_cases hj : redJ r % 4 = 2
        · rw [if_pos hj, if_pos hj, sq_neg _ hC.1, sq_neg _ hS.1, hcomm, hnear, (rng (hC.negIf1 _)).1, (rng (hC.negIf1 _)).2, (rng (hS.negIf1 _)).1, (rng (hS.negIf1 _)).2]; rfl
        · rw [if_neg hj, if_neg hj, sq_neg _ hC.1, sq_neg _ hS.1, hnear, (rng (hC.negIf1 _)).1, (rng (hC.negIf1 _)).2, (rng (hS.negIf1 _)).1, (rng (hS.negIf1 _)).2]; rfl
    · simp [hf]

end Go.Proofs.YtgbdplmpojkklaaDoor
