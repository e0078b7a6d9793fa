/-
Sincos is Sin and Cos (plain). No program in sight.
-/
import Derived.Test.YtgbdplmpojkklaaDoorPl7
import Derived.Test.YtgbdplmpojkklaaDoorQb
namespace Go.Proofs.YtgbdplmpojkklaaDoor
open Ieee

theorem cosP_in {z : Nat} (hz : In z 13828622411414651273 4605250374559875465) : In (cosP z) 4604390187031047700 4607272490792564818 := by
  obtain ⟨v1, e1⟩ : ∃ v, v = fmul z z := ⟨_, rfl⟩
  have i1 : In v1 0 4603732753809243969 := by rw [e1]; exact In_sq hz (Fw.of (by decide +kernel)) (Fw.of (by decide +kernel)) (Fw.of (by decide +kernel)) (by decide +kernel) (by decide +kernel)
  obtain ⟨v2, e2⟩ : ∃ v, v = cosS v1 := ⟨_, rfl⟩
  have i2 : In v2 4585925428558828667 4586213658934980379 := by rw [e2]; exact cosS_in (i1.mono (by decide +kernel) (by decide +kernel))
  obtain ⟨v3, e3⟩ : ∃ v, v = fmul 4602678819172646912 v1 := ⟨_, rfl⟩
  have i3 : In v3 0 4599229154181873473 := by rw [e3]; exact In_mul (In.const (Fw.of (by decide +kernel))) i1 (Fw.of (by decide +kernel)) (Fw.of (by decide +kernel)) (Fw.of (by decide +kernel)) (Fw.of (by decide +kernel)) (Fw.of (by decide +kernel)) (Fw.of (by decide +kernel)) (by decide +kernel) (by decide +kernel) (by decide +kernel) (by decide +kernel) (by decide +kernel) (by decide +kernel) (by decide +kernel) (by decide +kernel)
  obtain ⟨v4, e4⟩ : ∃ v, v = fsub 4607182418800017408 v3 := ⟨_, rfl⟩
  have i4 : In v4 4604403651668033632 4607182418800017408 := by rw [e4]; exact In_sub (In.const (Fw.of (by decide +kernel))) i3 (Fw.of (by decide +kernel)) (Fw.of (by decide +kernel)) (Fw.of (by decide +kernel)) (Fw.of (by decide +kernel)) (by decide +kernel) (by decide +kernel) (Fw.of (by decide +kernel)) (Fw.of (by decide +kernel))
  obtain ⟨v5, e5⟩ : ∃ v, v = fmul v1 v1 := ⟨_, rfl⟩
  have i5 : In v5 0 4600529731129094292 := by rw [e5]; exact In_sq i1 (Fw.of (by decide +kernel)) (Fw.of (by decide +kernel)) (Fw.of (by decide +kernel)) (by decide +kernel) (by decide +kernel)
  obtain ⟨v6, e6⟩ : ∃ v, v = fmul v5 v2 := ⟨_, rfl⟩
  have i6 : In v6 0 4580265872142342522 := by rw [e6]; exact In_mul i5 i2 (Fw.of (by decide +kernel)) (Fw.of (by decide +kernel)) (Fw.of (by decide +kernel)) (Fw.of (by decide +kernel)) (Fw.of (by decide +kernel)) (Fw.of (by decide +kernel)) (by decide +kernel) (by decide +kernel) (by decide +kernel) (by decide +kernel) (by decide +kernel) (by decide +kernel) (by decide +kernel) (by decide +kernel)
  obtain ⟨v7, e7⟩ : ∃ v, v = fadd v4 v6 := ⟨_, rfl⟩
  have i7 : In v7 4604403651668033632 4607254428967734886 := by rw [e7]; exact In_add i4 i6 (Fw.of (by decide +kernel)) (Fw.of (by decide +kernel)) (Fw.of (by decide +kernel)) (Fw.of (by decide +kernel)) (by decide +kernel) (by decide +kernel) (Fw.of (by decide +kernel)) (Fw.of (by decide +kernel))
  have e : cosP z = v7 := by subst_vars; rfl
  rw [e]; exact i7.mono (by decide +kernel) (by decide +kernel)
theorem sinP_in {z : Nat} (hz : In z 13828622411414651273 4605250374559875465) : In (sinP z) 13829383519751676887 4606011482896901079 := by
  obtain ⟨v1, e1⟩ : ∃ v, v = fmul z z := ⟨_, rfl⟩
  have i1 : In v1 0 4603732753809243969 := by rw [e1]; exact In_sq hz (Fw.of (by decide +kernel)) (Fw.of (by decide +kernel)) (Fw.of (by decide +kernel)) (by decide +kernel) (by decide +kernel)
  obtain ⟨v2, e2⟩ : ∃ v, v = sinS v1 := ⟨_, rfl⟩
  have i2 : In v2 13818664952638535107 13815242216921733530 := by rw [e2]; exact sinS_in (i1.mono (by decide +kernel) (by decide +kernel))
  obtain ⟨v3, e3⟩ : ∃ v, v = fmul z v1 := ⟨_, rfl⟩
  have i3 : In v3 13825774543101374753 4602402506246598945 := by rw [e3]; exact In_mul hz i1 (Fw.of (by decide +kernel)) (Fw.of (by decide +kernel)) (Fw.of (by decide +kernel)) (Fw.of (by decide +kernel)) (Fw.of (by decide +kernel)) (Fw.of (by decide +kernel)) (by decide +kernel) (by decide +kernel) (by decide +kernel) (by decide +kernel) (by decide +kernel) (by decide +kernel) (by decide +kernel) (by decide +kernel)
  obtain ⟨v4, e4⟩ : ∃ v, v = fmul v3 v2 := ⟨_, rfl⟩
  have i4 : In v4 13813973460221451993 4590601423366676185 := by rw [e4]; exact In_mul i3 i2 (Fw.of (by decide +kernel)) (Fw.of (by decide +kernel)) (Fw.of (by decide +kernel)) (Fw.of (by decide +kernel)) (Fw.of (by decide +kernel)) (Fw.of (by decide +kernel)) (by decide +kernel) (by decide +kernel) (by decide +kernel) (by decide +kernel) (by decide +kernel) (by decide +kernel) (by decide +kernel) (by decide +kernel)
  obtain ⟨v5, e5⟩ : ∃ v, v = fadd z v4 := ⟨_, rfl⟩
  have i5 : In v5 13829364536752590180 4605992499897814372 := by rw [e5]; exact In_add hz i4 (Fw.of (by decide +kernel)) (Fw.of (by decide +kernel)) (Fw.of (by decide +kernel)) (Fw.of (by decide +kernel)) (by decide +kernel) (by decide +kernel) (Fw.of (by decide +kernel)) (Fw.of (by decide +kernel))
  have e : sinP z = v5 := by subst_vars; rfl
  rw [e]; exact i5.mono (by decide +kernel) (by decide +kernel)

theorem fne_of {y : Nat} (h : In y 4604390187031047700 4607272490792564818) : fne y 0 = true ∧ fne (fneg y) 0 = true := by
  obtain ⟨h1, h2⟩ := h.pos (by decide) (by decide) (by decide)
  have hI : y ≤ INF := Nat.le_trans h2 (by decide)
  have h0 : y ≠ 0 := by
    intro e; rw [e] at h1; exact absurd h1 (by decide)
  have a := feq_zero false y hI
  have b := feq_zero true y hI
  rw [word_false] at a
  have e : fneg y = double.word true y := fneg_word false y (INF_lt' hI)
  unfold fne feq at *
  constructor
  · rw [bne, a]; simp [h0]
  · rw [e, bne, b]; simp [h0]

theorem sc_nonzero (s : Bool) {r : Nat} (h : r < INF) : (fne (sinR s r) 0 || fne (cosR r) 0) = true := by
  obtain ⟨a, b⟩ := fne_of (cosP_in (redZ_in h))
  unfold sinR cosR
  by_cases hj : redJ r % 4 = 2
  · rw [if_pos hj]
    cases (s ^^ decide (3 < redJ r))
    · show (fne (cosP (redZ r)) 0 || _) = true
      rw [a]; rfl
    · show (fne (fneg (cosP (redZ r))) 0 || _) = true
      rw [b]; rfl
  · rw [if_neg hj, if_neg hj]
    cases (decide (3 < redJ r) ^^ decide (redJ r % 4 = 2))
    · show (_ || fne (cosP (redZ r)) 0) = true
      rw [a]; simp
    · show (_ || fne (fneg (cosP (redZ r))) 0) = true
      rw [b]; simp

theorem sincosBoth_plain (x : Nat) (h : x < 18446744073709551616) : sincosBothF x = true := by
  unfold sincosBothF
  rcases word_cases x h with hn | ⟨s, r, hr, rfl, hn⟩
  · rw [scS_nan h hn, scC_nan h hn, sinF_nan h hn, cosF_nan h hn]
    have a := sameF_nan (show cnan < 18446744073709551616 by decide) h nan_cnan hn
    have b : sameF cnan cnan = true := by decide +kernel
    have c : fne cnan 0 = true := by decide +kernel
    rw [a, b, c]; rfl
  · by_cases h1 : r = INF
    · subst h1; cases s <;> decide +kernel
    · have hf : r < INF := by omega
      by_cases h0 : r = 0
      · subst h0
        have e : cosR 0 = ONE := by
          obtain ⟨j, z, _⟩ := near_red (r := 0) (by decide)
          unfold cosR; rw [j, z]
          simp [negIf, near_cosP (r := 0) (by decide)]
        rw [cosF_word _ hf, e]
        cases s <;> decide +kernel
      · rw [scS_word _ hf h0, scC_word _ hf h0, sinF_word _ hf h0, cosF_word _ hf, sc_nonzero s hf, sameF_self _ (sinR_lt s r), sameF_self _ (cosR_lt r)]; rfl

end Go.Proofs.YtgbdplmpojkklaaDoor
