/-
FnNearZero returns true for every float64: its contract.
-/
import Derived.Test.YtgbdplmpojkklaaDoorWalkN
import Derived.Test.YtgbdplmpojkklaaDoorPl7
namespace Go.Proofs.YtgbdplmpojkklaaDoor
open Go.RowKit Ieee

theorem near_W (s : Bool) {r : Nat} (h : r < Z28) : NearW (double.word s r) := by
  have hZ := Z28_INF
  have hI : r ≤ INF := by omega
  have hS := INF_lt_SGN
  have hO : Z28 < ONE := by decide
  have hOI := ONE_lt
  have b := beyondF_word s r hI
  have hb : ¬ ONE < r := by omega
  have hbd : beyondF (double.word s r) = false := by rw [b]; exact decide_eq_false hb
  unfold beyondF at hbd
  have hbd2 := Bool.or_eq_false_iff.1 hbd
  have e1 := feq_word s false r ONE hI (by decide)
  have e2 := feq_word s true r ONE hI (by decide)
  rw [← oneN_eq] at e2
  rw [word_false] at e1
  have hv := V_lt (show r < ONE by omega)
  have q1 : feq (double.word s r) 4607182418800017408 = false := by
    show feq (double.word s r) ONE = false
    rw [e1]; cases s <;> simp [SV] <;> omega
  have q2 : feq (double.word s r) 13830554455654793216 = false := by rw [e2]; cases s <;> simp [SV] <;> omega
  have i1 : infA (double.word s r) = false := by rw [infA_word s r hI]; exact decide_eq_false (by omega)
  have tests : fgt r 4733283208366391296 = false ∧ fgt r 4611686018427387904 = false ∧ flt r 4481081629233643520 = true := by
    have c1 := fgt_pos false r 4733283208366391296 hI (by decide)
    have c2 := fgt_pos false r 4611686018427387904 hI (by decide)
    have c3 := flt_pos false r 4481081629233643520 hI (by decide) (by decide)
    rw [word_false] at c1 c2 c3
    have z : Z28 = 4481081629233643520 := rfl
    refine ⟨?_, ?_, ?_⟩
    · rw [c1]; simp; omega
    · rw [c2]; simp; omega
    · rw [c3]; simp; omega
  refine ⟨word_lt64 s r hI, isNanF_word s r hI, i1, hbd2.1, hbd2.2, q1, q2, ?_⟩
  have hf := flt_zero s r hI
  by_cases hc : flt (double.word s r) 0 = true
  · right
    refine ⟨hc, ?_⟩
    rw [hf] at hc
    cases s
    · simp at hc
    · rw [fneg_word true r (by omega)]; exact tests
  · left
    have hc' : flt (double.word s r) 0 = false := by simpa using hc
    refine ⟨hc', ?_⟩
    cases s
    · exact tests
    · rw [hf] at hc'
      have : r = 0 := by simp at hc'; exact hc'
      subst this
      decide +kernel

theorem c_l_nearZero (x0 e0 : Nat) (h0 : E x0 e0) (hl0 : W64 e0) (w0 w : World) (hs : St w0 w) (hT : TS w0) (hT2 : TT w0) : Calls Tryd.prog 4 #[.float .f64 x0] w (RB true w0) := by
  cases hf : flt (sizeF e0) 4481081629233643520 with
  | false => exact c_l_nearFar x0 e0 h0 hf w0 w hs
  | true =>
    rcases word_cases e0 hl0 with hn | ⟨s, r, hr, rfl, _⟩
    · exfalso
      have : nan (sizeF e0) = true := by
        unfold sizeF
        split
        · rw [nan_fneg]; exact hn
        · exact hn
      rw [order_nan_flt _ this] at hf; cases hf
    · have hs' := hf
      rw [sizeF_word s r hr] at hs'
      have c3 := flt_pos false r 4481081629233643520 hr (by decide) (by decide)
      rw [word_false] at c3
      rw [c3] at hs'
      have hlt : r < Z28 := by simp at hs'; exact hs'
      obtain ⟨a, b, c, d, e⟩ := near_facts s hlt
      have hsame := sameF_self (double.word s r) hl0
      refine c_l_nearNear x0 _ h0 hl0 hf (near_W s hlt) (by rw [a]; exact hsame) (by rw [b]; exact hsame) (by rw [c]; exact hsame) (by rw [d]; exact hsame) hsame ?_ w0 w hs hT hT2
      rw [e]; decide +kernel

end Go.Proofs.YtgbdplmpojkklaaDoor
