/-
The logarithms' values lie in bounds: by intervals.
-/
import Derived.Test.YtgbdplmpojkklaaDoorFpR
import Derived.Test.YtgbdplmpojkklaaDoorFpQ
namespace Go.Proofs.YtgbdplmpojkklaaDoor
open Ieee

theorem In.const {c : Nat} (h : Fw c) : In c c c := ⟨h, by omega, by omega⟩
theorem In.pos {y c d : Nat} (h : In y c d) (hc : 0 < c) (hcI : c < INF) (hdI : d < INF) : c ≤ y ∧ y ≤ d := by
  obtain ⟨⟨s, r, hr, rfl⟩, h1, h2⟩ := h
  have hI := INF_lt_SGN
  have vc := V_pos hc
  have ec : sv c = V c := sv_word false c (by omega)
  have ed : sv d = V d := sv_word false d (by omega)
  rw [sv_word s r (by omega), ec] at h1
  rw [sv_word s r (by omega), ed] at h2
  cases s
  · rw [word_false]
    simp only [SV_false] at h1 h2
    exact ⟨V_le_iff.1 (by omega), V_le_iff.1 (by omega)⟩
  · simp only [SV_true] at h1; omega
theorem isq_nonneg (z : Int) : 0 ≤ z * z := by
  rcases Int.le_total 0 z with h | h
  · exact Int.mul_nonneg h h
  · have := Int.mul_nonneg (show 0 ≤ -z by omega) (show 0 ≤ -z by omega)
    rw [Int.neg_mul_neg] at this; exact this
/-- A square is not negative. -/
theorem In_sq {x a b H : Nat} (hx : In x a b) (fa : Fw a) (fb : Fw b) (hH : Fw H) (u1 : sv (fmul a a) ≤ sv H) (u2 : sv (fmul b b) ≤ sv H) : In (fmul x x) 0 H := by
  have hr := fmul_RnS hx.1 hx.1
  have hU : (0 : Int) ≤ U := by have := U_pos; omega
  have h0 : sv 0 = 0 := by decide
  obtain ⟨h1, h2⟩ := hx.2
  have m1 : sv 0 ≤ sv (fmul x x) := by
    obtain ⟨r, _, _, e⟩ := hr.sv
    have : ¬ sv x * sv x < 0 := by
      have := isq_nonneg (sv x)
      omega
    rw [e, if_neg this, h0]; omega
  have hmax : sv x * sv x ≤ sv a * sv a ∨ sv x * sv x ≤ sv b * sv b := by
    by_cases hp : 0 ≤ sv x
    · right; exact Int.mul_le_mul h2 h2 hp (by omega)
    · left
      have := Int.mul_le_mul (show -sv x ≤ -sv a by omega) (show -sv x ≤ -sv a by omega) (by omega) (by omega)
      rw [Int.neg_mul_neg, Int.neg_mul_neg] at this; exact this
  have m2 : sv (fmul x x) ≤ sv H := by
    rcases hmax with h | h
    · have := hr.mono (fmul_RnS fa fa) (Int.mul_le_mul_of_nonneg_right h hU); omega
    · have := hr.mono (fmul_RnS fb fb) (Int.mul_le_mul_of_nonneg_right h hU); omega
  exact ⟨Fw.between hr m1 m2 (Fw.of (by decide +kernel)) hH, m1, m2⟩

/-- The logarithm's core: the exponent k and the remainder f. -/
def logCore (k f : Nat) : Nat :=
  let s := fdiv f (fadd 0x4000000000000000 f)
  let s2 := fmul s s
  let s4 := fmul s2 s2
  let t1 := fmul s2 (fadd (fmul (fadd (fmul (fadd (fmul 0x3FC2F112DF3E5244 s4) 0x3FC7466496CB03DE) s4) 0x3FD2492494229359) s4) 0x3FE5555555555593)
  let t2 := fmul s4 (fadd (fmul (fadd (fmul 0x3FC39A09D078C69F s4) 0x3FCC71C51D8E78AF) s4) 0x3FD999999997FA04)
  let r := fadd t1 t2
  let hfsq := fmul (fmul 0x3FE0000000000000 f) f
  let inner := fadd (fmul s (fadd r hfsq)) (fmul 0x3DEA39EF35793C76 k)
  fsub (fmul k 0x3FE62E42FEE00000) (fsub (fsub hfsq inner) f)

theorem log_core {k f : Nat} (hk : In k 4607182418800017408 4652218415073722368) (hf : In f 13822321875535959949 4601134985220384306) : ∃ y, y = logCore k f ∧ In y 4598942712482879616 4649458978838376014 := by
  obtain ⟨v1, e1⟩ : ∃ v, v = fadd 4611686018427387904 f := ⟨_, rfl⟩
  have i1 : In v1 4610366463736568349 4612618939090197702 := by rw [e1]; exact In_add (In.const (Fw.of (by decide +kernel))) hf (Fw.of (by decide +kernel)) (Fw.of (by decide +kernel)) (Fw.of (by decide +kernel)) (Fw.of (by decide +kernel)) (by decide +kernel) (by decide +kernel) (Fw.of (by decide +kernel)) (Fw.of (by decide +kernel))
  obtain ⟨v2, e2⟩ : ∃ v, v = fdiv f v1 := ⟨_, rfl⟩
  have i2 : In v2 13818724261906035568 4597912443609197856 := by rw [e2]; exact In_div hf (c := 4610366463736568349) (d := 4612618939090197702) (by decide +kernel) (In.pos i1 (by decide +kernel) (by decide +kernel) (by decide +kernel)).1 (In.pos i1 (by decide +kernel) (by decide +kernel) (by decide +kernel)).2 (by decide +kernel) (Fw.of (by decide +kernel)) (Fw.of (by decide +kernel)) (Fw.of (by decide +kernel)) (Fw.of (by decide +kernel)) (by decide +kernel) (by decide +kernel) (by decide +kernel) (by decide +kernel)
  obtain ⟨v3, e3⟩ : ∃ v, v = fmul v2 v2 := ⟨_, rfl⟩
  have i3 : In v3 0 4588650134640766536 := by rw [e3]; exact In_sq i2 (Fw.of (by decide +kernel)) (Fw.of (by decide +kernel)) (Fw.of (by decide +kernel)) (by decide +kernel) (by decide +kernel)
  obtain ⟨v4, e4⟩ : ∃ v, v = fmul v3 v3 := ⟨_, rfl⟩
  have i4 : In v4 0 4570147627278792062 := by rw [e4]; exact In_sq i3 (Fw.of (by decide +kernel)) (Fw.of (by decide +kernel)) (Fw.of (by decide +kernel)) (by decide +kernel) (by decide +kernel)
  obtain ⟨v5, e5⟩ : ∃ v, v = fmul 4594499633228436036 v4 := ⟨_, rfl⟩
  have i5 : In v5 0 4557875359951867297 := by rw [e5]; exact In_mul (In.const (Fw.of (by decide +kernel))) i4 (Fw.of (by decide +kernel)) (Fw.of (by decide +kernel)) (Fw.of (by decide +kernel)) (Fw.of (by decide +kernel)) (Fw.of (by decide +kernel)) (Fw.of (by decide +kernel)) (by decide +kernel) (by decide +kernel) (by decide +kernel) (by decide +kernel) (by decide +kernel) (by decide +kernel) (by decide +kernel) (by decide +kernel)
  obtain ⟨v6, e6⟩ : ∃ v, v = fadd v5 4595719342595441630 := ⟨_, rfl⟩
  have i6 : In v6 4595719342595441630 4595737843129349036 := by rw [e6]; exact In_add i5 (In.const (Fw.of (by decide +kernel))) (Fw.of (by decide +kernel)) (Fw.of (by decide +kernel)) (Fw.of (by decide +kernel)) (Fw.of (by decide +kernel)) (by decide +kernel) (by decide +kernel) (Fw.of (by decide +kernel)) (Fw.of (by decide +kernel))
  obtain ⟨v7, e7⟩ : ∃ v, v = fmul v6 v4 := ⟨_, rfl⟩
  have i7 : In v7 0 4558975276880932423 := by rw [e7]; exact In_mul i6 i4 (Fw.of (by decide +kernel)) (Fw.of (by decide +kernel)) (Fw.of (by decide +kernel)) (Fw.of (by decide +kernel)) (Fw.of (by decide +kernel)) (Fw.of (by decide +kernel)) (by decide +kernel) (by decide +kernel) (by decide +kernel) (by decide +kernel) (by decide +kernel) (by decide +kernel) (by decide +kernel) (by decide +kernel)
  obtain ⟨v8, e8⟩ : ∃ v, v = fadd v7 4598818590951641945 := ⟨_, rfl⟩
  have i8 : In v8 4598818590951641945 4598829989493847728 := by rw [e8]; exact In_add i7 (In.const (Fw.of (by decide +kernel))) (Fw.of (by decide +kernel)) (Fw.of (by decide +kernel)) (Fw.of (by decide +kernel)) (Fw.of (by decide +kernel)) (by decide +kernel) (by decide +kernel) (Fw.of (by decide +kernel)) (Fw.of (by decide +kernel))
  obtain ⟨v9, e9⟩ : ∃ v, v = fmul v8 v4 := ⟨_, rfl⟩
  have i9 : In v9 0 4562225065391728760 := by rw [e9]; exact In_mul i8 i4 (Fw.of (by decide +kernel)) (Fw.of (by decide +kernel)) (Fw.of (by decide +kernel)) (Fw.of (by decide +kernel)) (Fw.of (by decide +kernel)) (Fw.of (by decide +kernel)) (by decide +kernel) (by decide +kernel) (by decide +kernel) (by decide +kernel) (by decide +kernel) (by decide +kernel) (by decide +kernel) (by decide +kernel)
  obtain ⟨v10, e10⟩ : ∃ v, v = fadd v9 4604180019048437139 := ⟨_, rfl⟩
  have i10 : In v10 4604180019048437139 4604188968740805863 := by rw [e10]; exact In_add i9 (In.const (Fw.of (by decide +kernel))) (Fw.of (by decide +kernel)) (Fw.of (by decide +kernel)) (Fw.of (by decide +kernel)) (Fw.of (by decide +kernel)) (by decide +kernel) (by decide +kernel) (Fw.of (by decide +kernel)) (Fw.of (by decide +kernel))
  obtain ⟨v11, e11⟩ : ∃ v, v = fmul v3 v10 := ⟨_, rfl⟩
  have i11 : In v11 0 4585828798552293397 := by rw [e11]; exact In_mul i3 i10 (Fw.of (by decide +kernel)) (Fw.of (by decide +kernel)) (Fw.of (by decide +kernel)) (Fw.of (by decide +kernel)) (Fw.of (by decide +kernel)) (Fw.of (by decide +kernel)) (by decide +kernel) (by decide +kernel) (by decide +kernel) (by decide +kernel) (by decide +kernel) (by decide +kernel) (by decide +kernel) (by decide +kernel)
  obtain ⟨v12, e12⟩ : ∃ v, v = fmul 4594685411790997151 v4 := ⟨_, rfl⟩
  have i12 : In v12 0 4558040389310676077 := by rw [e12]; exact In_mul (In.const (Fw.of (by decide +kernel))) i4 (Fw.of (by decide +kernel)) (Fw.of (by decide +kernel)) (Fw.of (by decide +kernel)) (Fw.of (by decide +kernel)) (Fw.of (by decide +kernel)) (Fw.of (by decide +kernel)) (by decide +kernel) (by decide +kernel) (by decide +kernel) (by decide +kernel) (by decide +kernel) (by decide +kernel) (by decide +kernel) (by decide +kernel)
  obtain ⟨v13, e13⟩ : ∃ v, v = fadd v12 4597174411056806063 := ⟨_, rfl⟩
  have i13 : In v13 4597174411056806063 4597193556236646315 := by rw [e13]; exact In_add i12 (In.const (Fw.of (by decide +kernel))) (Fw.of (by decide +kernel)) (Fw.of (by decide +kernel)) (Fw.of (by decide +kernel)) (Fw.of (by decide +kernel)) (by decide +kernel) (by decide +kernel) (Fw.of (by decide +kernel)) (Fw.of (by decide +kernel))
  obtain ⟨v14, e14⟩ : ∃ v, v = fmul v13 v4 := ⟨_, rfl⟩
  have i14 : In v14 0 4560268404556133252 := by rw [e14]; exact In_mul i13 i4 (Fw.of (by decide +kernel)) (Fw.of (by decide +kernel)) (Fw.of (by decide +kernel)) (Fw.of (by decide +kernel)) (Fw.of (by decide +kernel)) (Fw.of (by decide +kernel)) (by decide +kernel) (by decide +kernel) (by decide +kernel) (by decide +kernel) (by decide +kernel) (by decide +kernel) (by decide +kernel) (by decide +kernel)
  obtain ⟨v15, e15⟩ : ∃ v, v = fadd v14 4600877379321592324 := ⟨_, rfl⟩
  have i15 : In v15 4600877379321592324 4600891303503788734 := by rw [e15]; exact In_add i14 (In.const (Fw.of (by decide +kernel))) (Fw.of (by decide +kernel)) (Fw.of (by decide +kernel)) (Fw.of (by decide +kernel)) (Fw.of (by decide +kernel)) (by decide +kernel) (by decide +kernel) (Fw.of (by decide +kernel)) (Fw.of (by decide +kernel))
  obtain ⟨v16, e16⟩ : ∃ v, v = fmul v4 v15 := ⟨_, rfl⟩
  have i16 : In v16 0 4564056155721390514 := by rw [e16]; exact In_mul i4 i15 (Fw.of (by decide +kernel)) (Fw.of (by decide +kernel)) (Fw.of (by decide +kernel)) (Fw.of (by decide +kernel)) (Fw.of (by decide +kernel)) (Fw.of (by decide +kernel)) (by decide +kernel) (by decide +kernel) (by decide +kernel) (by decide +kernel) (by decide +kernel) (by decide +kernel) (by decide +kernel) (by decide +kernel)
  obtain ⟨v17, e17⟩ : ∃ v, v = fadd v11 v16 := ⟨_, rfl⟩
  have i17 : In v17 0 4586029215202994915 := by rw [e17]; exact In_add i11 i16 (Fw.of (by decide +kernel)) (Fw.of (by decide +kernel)) (Fw.of (by decide +kernel)) (Fw.of (by decide +kernel)) (by decide +kernel) (by decide +kernel) (Fw.of (by decide +kernel)) (Fw.of (by decide +kernel))
  obtain ⟨v18, e18⟩ : ∃ v, v = fmul 4602678819172646912 f := ⟨_, rfl⟩
  have i18 : In v18 13817818275908589453 4596631385593013810 := by rw [e18]; exact In_mul (In.const (Fw.of (by decide +kernel))) hf (Fw.of (by decide +kernel)) (Fw.of (by decide +kernel)) (Fw.of (by decide +kernel)) (Fw.of (by decide +kernel)) (Fw.of (by decide +kernel)) (Fw.of (by decide +kernel)) (by decide +kernel) (by decide +kernel) (by decide +kernel) (by decide +kernel) (by decide +kernel) (by decide +kernel) (by decide +kernel) (by decide +kernel)
  obtain ⟨v19, e19⟩ : ∃ v, v = fmul v18 f := ⟨_, rfl⟩
  have i19 : In v19 13812279922025074908 4590848565152798519 := by rw [e19]; exact In_mul i18 hf (Fw.of (by decide +kernel)) (Fw.of (by decide +kernel)) (Fw.of (by decide +kernel)) (Fw.of (by decide +kernel)) (Fw.of (by decide +kernel)) (Fw.of (by decide +kernel)) (by decide +kernel) (by decide +kernel) (by decide +kernel) (by decide +kernel) (by decide +kernel) (by decide +kernel) (by decide +kernel) (by decide +kernel)
  obtain ⟨v20, e20⟩ : ∃ v, v = fadd v17 v19 := ⟨_, rfl⟩
  have i20 : In v20 13812279922025074908 4593727191077152340 := by rw [e20]; exact In_add i17 i19 (Fw.of (by decide +kernel)) (Fw.of (by decide +kernel)) (Fw.of (by decide +kernel)) (Fw.of (by decide +kernel)) (by decide +kernel) (by decide +kernel) (Fw.of (by decide +kernel)) (Fw.of (by decide +kernel))
  obtain ⟨v21, e21⟩ : ∃ v, v = fmul v2 v20 := ⟨_, rfl⟩
  have i21 : In v21 13805289771633926194 4584509544580751473 := by rw [e21]; exact In_mul i2 i20 (Fw.of (by decide +kernel)) (Fw.of (by decide +kernel)) (Fw.of (by decide +kernel)) (Fw.of (by decide +kernel)) (Fw.of (by decide +kernel)) (Fw.of (by decide +kernel)) (by decide +kernel) (by decide +kernel) (by decide +kernel) (by decide +kernel) (by decide +kernel) (by decide +kernel) (by decide +kernel) (by decide +kernel)
  obtain ⟨v22, e22⟩ : ∃ v, v = fmul 4461442080421002358 k := ⟨_, rfl⟩
  have i22 : In v22 4461442080421002358 4506478076694707318 := by rw [e22]; exact In_mul (In.const (Fw.of (by decide +kernel))) hk (Fw.of (by decide +kernel)) (Fw.of (by decide +kernel)) (Fw.of (by decide +kernel)) (Fw.of (by decide +kernel)) (Fw.of (by decide +kernel)) (Fw.of (by decide +kernel)) (by decide +kernel) (by decide +kernel) (by decide +kernel) (by decide +kernel) (by decide +kernel) (by decide +kernel) (by decide +kernel) (by decide +kernel)
  obtain ⟨v23, e23⟩ : ∃ v, v = fadd v21 v22 := ⟨_, rfl⟩
  have i23 : In v23 13805289771578925643 4584509600901315374 := by rw [e23]; exact In_add i21 i22 (Fw.of (by decide +kernel)) (Fw.of (by decide +kernel)) (Fw.of (by decide +kernel)) (Fw.of (by decide +kernel)) (by decide +kernel) (by decide +kernel) (Fw.of (by decide +kernel)) (Fw.of (by decide +kernel))
  obtain ⟨v24, e24⟩ : ∃ v, v = fmul k 4604418534311723008 := ⟨_, rfl⟩
  have i24 : In v24 4604418534311723008 4649454530585427968 := by rw [e24]; exact In_mul hk (In.const (Fw.of (by decide +kernel))) (Fw.of (by decide +kernel)) (Fw.of (by decide +kernel)) (Fw.of (by decide +kernel)) (Fw.of (by decide +kernel)) (Fw.of (by decide +kernel)) (Fw.of (by decide +kernel)) (by decide +kernel) (by decide +kernel) (by decide +kernel) (by decide +kernel) (by decide +kernel) (by decide +kernel) (by decide +kernel) (by decide +kernel)
  obtain ⟨v25, e25⟩ : ∃ v, v = fsub v19 v23 := ⟨_, rfl⟩
  have i25 : In v25 13814623084458415930 4592413693481729994 := by rw [e25]; exact In_sub i19 i23 (Fw.of (by decide +kernel)) (Fw.of (by decide +kernel)) (Fw.of (by decide +kernel)) (Fw.of (by decide +kernel)) (by decide +kernel) (by decide +kernel) (Fw.of (by decide +kernel)) (Fw.of (by decide +kernel))
  obtain ⟨v26, e26⟩ : ∃ v, v = fsub v25 f := ⟨_, rfl⟩
  have i26 : In v26 13826102267418850816 4600887156885825408 := by rw [e26]; exact In_sub i25 hf (Fw.of (by decide +kernel)) (Fw.of (by decide +kernel)) (Fw.of (by decide +kernel)) (Fw.of (by decide +kernel)) (by decide +kernel) (by decide +kernel) (Fw.of (by decide +kernel)) (Fw.of (by decide +kernel))
  obtain ⟨v27, e27⟩ : ∃ v, v = fsub v24 v26 := ⟨_, rfl⟩
  have i27 : In v27 4598942712482879616 4649458978838376014 := by rw [e27]; exact In_sub i24 i26 (Fw.of (by decide +kernel)) (Fw.of (by decide +kernel)) (Fw.of (by decide +kernel)) (Fw.of (by decide +kernel)) (by decide +kernel) (by decide +kernel) (Fw.of (by decide +kernel)) (Fw.of (by decide +kernel))
  refine ⟨v27, ?_, i27⟩
  subst_vars; rfl

theorem l1_core0 {K c : Nat} (hk : In K 4607182418800017408 4652218415073722368) (hc : In c 13808036457517940736 4584664420663164928) : ∃ y, y = fadd (fmul K 4604418534311723008) (fadd c (fmul K 4461442080421002358)) ∧ In y 4598175219545276416 4649544402794971136 := by
  obtain ⟨v1, e1⟩ : ∃ v, v = fmul K 4604418534311723008 := ⟨_, rfl⟩
  have i1 : In v1 4604418534311723008 4649454530585427968 := by rw [e1]; exact In_mul hk (In.const (Fw.of (by decide +kernel))) (Fw.of (by decide +kernel)) (Fw.of (by decide +kernel)) (Fw.of (by decide +kernel)) (Fw.of (by decide +kernel)) (Fw.of (by decide +kernel)) (Fw.of (by decide +kernel)) (by decide +kernel) (by decide +kernel) (by decide +kernel) (by decide +kernel) (by decide +kernel) (by decide +kernel) (by decide +kernel) (by decide +kernel)
  obtain ⟨v2, e2⟩ : ∃ v, v = fmul K 4461442080421002358 := ⟨_, rfl⟩
  have i2 : In v2 4461442080421002358 4506478076694707318 := by rw [e2]; exact In_mul hk (In.const (Fw.of (by decide +kernel))) (Fw.of (by decide +kernel)) (Fw.of (by decide +kernel)) (Fw.of (by decide +kernel)) (Fw.of (by decide +kernel)) (Fw.of (by decide +kernel)) (Fw.of (by decide +kernel)) (by decide +kernel) (by decide +kernel) (by decide +kernel) (by decide +kernel) (by decide +kernel) (by decide +kernel) (by decide +kernel) (by decide +kernel)
  obtain ⟨v3, e3⟩ : ∃ v, v = fadd c v2 := ⟨_, rfl⟩
  have i3 : In v3 13808036457462940185 4584664448823446878 := by rw [e3]; exact In_add hc i2 (Fw.of (by decide +kernel)) (Fw.of (by decide +kernel)) (Fw.of (by decide +kernel)) (Fw.of (by decide +kernel)) (by decide +kernel) (by decide +kernel) (Fw.of (by decide +kernel)) (Fw.of (by decide +kernel))
  obtain ⟨v4, e4⟩ : ∃ v, v = fadd v1 v3 := ⟨_, rfl⟩
  have i4 : In v4 4604137059336731119 4649454805465053679 := by rw [e4]; exact In_add i1 i3 (Fw.of (by decide +kernel)) (Fw.of (by decide +kernel)) (Fw.of (by decide +kernel)) (Fw.of (by decide +kernel)) (by decide +kernel) (by decide +kernel) (Fw.of (by decide +kernel)) (Fw.of (by decide +kernel))
  refine ⟨v4, ?_, i4.mono (by decide +kernel) (by decide +kernel)⟩
  subst_vars; rfl

theorem l1_core1 {K f c : Nat} (hk : In K 4607182418800017408 4652218415073722368) (hf : In f 13822321875535959949 4601134985220384306) (hc : In c 13808036457517940736 4584664420663164928) : ∃ y, y = fsub (fmul K 4604418534311723008) (fsub (fsub (fmul (l1H f) (fsub 4607182418800017408 (fmul 4604180019048437077 f))) (fadd (fmul K 4461442080421002358) c)) f) ∧ In y 4598175219545276416 4649544402794971136 := by
  obtain ⟨v1, e1⟩ : ∃ v, v = fmul 4602678819172646912 f := ⟨_, rfl⟩
  have i1 : In v1 13817818275908589453 4596631385593013810 := by rw [e1]; exact In_mul (In.const (Fw.of (by decide +kernel))) hf (Fw.of (by decide +kernel)) (Fw.of (by decide +kernel)) (Fw.of (by decide +kernel)) (Fw.of (by decide +kernel)) (Fw.of (by decide +kernel)) (Fw.of (by decide +kernel)) (by decide +kernel) (by decide +kernel) (by decide +kernel) (by decide +kernel) (by decide +kernel) (by decide +kernel) (by decide +kernel) (by decide +kernel)
  obtain ⟨v2, e2⟩ : ∃ v, v = fmul v1 f := ⟨_, rfl⟩
  have i2 : In v2 13812279922025074908 4590848565152798519 := by rw [e2]; exact In_mul i1 hf (Fw.of (by decide +kernel)) (Fw.of (by decide +kernel)) (Fw.of (by decide +kernel)) (Fw.of (by decide +kernel)) (Fw.of (by decide +kernel)) (Fw.of (by decide +kernel)) (by decide +kernel) (by decide +kernel) (by decide +kernel) (by decide +kernel) (by decide +kernel) (by decide +kernel) (by decide +kernel) (by decide +kernel)
  obtain ⟨v3, e3⟩ : ∃ v, v = fmul K 4604418534311723008 := ⟨_, rfl⟩
  have i3 : In v3 4604418534311723008 4649454530585427968 := by rw [e3]; exact In_mul hk (In.const (Fw.of (by decide +kernel))) (Fw.of (by decide +kernel)) (Fw.of (by decide +kernel)) (Fw.of (by decide +kernel)) (Fw.of (by decide +kernel)) (Fw.of (by decide +kernel)) (Fw.of (by decide +kernel)) (by decide +kernel) (by decide +kernel) (by decide +kernel) (by decide +kernel) (by decide +kernel) (by decide +kernel) (by decide +kernel) (by decide +kernel)
  obtain ⟨v4, e4⟩ : ∃ v, v = fmul K 4461442080421002358 := ⟨_, rfl⟩
  have i4 : In v4 4461442080421002358 4506478076694707318 := by rw [e4]; exact In_mul hk (In.const (Fw.of (by decide +kernel))) (Fw.of (by decide +kernel)) (Fw.of (by decide +kernel)) (Fw.of (by decide +kernel)) (Fw.of (by decide +kernel)) (Fw.of (by decide +kernel)) (Fw.of (by decide +kernel)) (by decide +kernel) (by decide +kernel) (by decide +kernel) (by decide +kernel) (by decide +kernel) (by decide +kernel) (by decide +kernel) (by decide +kernel)
  obtain ⟨v5, e5⟩ : ∃ v, v = fadd v4 c := ⟨_, rfl⟩
  have i5 : In v5 13808036457462940185 4584664448823446878 := by rw [e5]; exact In_add i4 hc (Fw.of (by decide +kernel)) (Fw.of (by decide +kernel)) (Fw.of (by decide +kernel)) (Fw.of (by decide +kernel)) (by decide +kernel) (by decide +kernel) (Fw.of (by decide +kernel)) (Fw.of (by decide +kernel))
  obtain ⟨v6, e6⟩ : ∃ v, v = fmul 4604180019048437077 f := ⟨_, rfl⟩
  have i6 : In v6 13819577682163015526 4598647196786224844 := by rw [e6]; exact In_mul (In.const (Fw.of (by decide +kernel))) hf (Fw.of (by decide +kernel)) (Fw.of (by decide +kernel)) (Fw.of (by decide +kernel)) (Fw.of (by decide +kernel)) (Fw.of (by decide +kernel)) (Fw.of (by decide +kernel)) (by decide +kernel) (by decide +kernel) (by decide +kernel) (by decide +kernel) (by decide +kernel) (by decide +kernel) (by decide +kernel) (by decide +kernel)
  obtain ⟨v7, e7⟩ : ∃ v, v = fsub 4607182418800017408 v6 := ⟨_, rfl⟩
  have i7 : In v7 4604694630365857946 4608062121927230445 := by rw [e7]; exact In_sub (In.const (Fw.of (by decide +kernel))) i6 (Fw.of (by decide +kernel)) (Fw.of (by decide +kernel)) (Fw.of (by decide +kernel)) (Fw.of (by decide +kernel)) (by decide +kernel) (by decide +kernel) (Fw.of (by decide +kernel)) (Fw.of (by decide +kernel))
  obtain ⟨v8, e8⟩ : ∃ v, v = fmul v2 v7 := ⟨_, rfl⟩
  have i8 : In v8 13813264286182329693 4592056534709773614 := by rw [e8]; exact In_mul i2 i7 (Fw.of (by decide +kernel)) (Fw.of (by decide +kernel)) (Fw.of (by decide +kernel)) (Fw.of (by decide +kernel)) (Fw.of (by decide +kernel)) (Fw.of (by decide +kernel)) (by decide +kernel) (by decide +kernel) (by decide +kernel) (by decide +kernel) (by decide +kernel) (by decide +kernel) (by decide +kernel) (by decide +kernel)
  obtain ⟨v9, e9⟩ : ∃ v, v = fsub v8 v5 := ⟨_, rfl⟩
  have i9 : In v9 13815516100076155916 4593989977213807322 := by rw [e9]; exact In_sub i8 i5 (Fw.of (by decide +kernel)) (Fw.of (by decide +kernel)) (Fw.of (by decide +kernel)) (Fw.of (by decide +kernel)) (by decide +kernel) (by decide +kernel) (Fw.of (by decide +kernel)) (Fw.of (by decide +kernel))
  obtain ⟨v10, e10⟩ : ∃ v, v = fsub v9 f := ⟨_, rfl⟩
  have i10 : In v10 13826213894371068314 4601360817142820090 := by rw [e10]; exact In_sub i9 hf (Fw.of (by decide +kernel)) (Fw.of (by decide +kernel)) (Fw.of (by decide +kernel)) (Fw.of (by decide +kernel)) (by decide +kernel) (by decide +kernel) (Fw.of (by decide +kernel)) (Fw.of (by decide +kernel))
  obtain ⟨v11, e11⟩ : ∃ v, v = fsub v3 v10 := ⟨_, rfl⟩
  have i11 : In v11 4598469052225884934 4649459087849071538 := by rw [e11]; exact In_sub i3 i10 (Fw.of (by decide +kernel)) (Fw.of (by decide +kernel)) (Fw.of (by decide +kernel)) (Fw.of (by decide +kernel)) (by decide +kernel) (by decide +kernel) (Fw.of (by decide +kernel)) (Fw.of (by decide +kernel))
  refine ⟨v11, ?_, i11.mono (by decide +kernel) (by decide +kernel)⟩
  subst_vars; rfl

theorem l1_core2 {K f c : Nat} (hk : In K 4607182418800017408 4652218415073722368) (hf : In f 13822321875535959949 4601134985220384306) (hc : In c 13808036457517940736 4584664420663164928) : ∃ y, y = fsub (fmul K 4604418534311723008) (fsub (fsub (l1H f) (fadd (l1Q f) (fadd (fmul K 4461442080421002358) c))) f) ∧ In y 4598175219545276416 4649544402794971136 := by
  obtain ⟨v1, e1⟩ : ∃ v, v = fmul 4602678819172646912 f := ⟨_, rfl⟩
  have i1 : In v1 13817818275908589453 4596631385593013810 := by rw [e1]; exact In_mul (In.const (Fw.of (by decide +kernel))) hf (Fw.of (by decide +kernel)) (Fw.of (by decide +kernel)) (Fw.of (by decide +kernel)) (Fw.of (by decide +kernel)) (Fw.of (by decide +kernel)) (Fw.of (by decide +kernel)) (by decide +kernel) (by decide +kernel) (by decide +kernel) (by decide +kernel) (by decide +kernel) (by decide +kernel) (by decide +kernel) (by decide +kernel)
  obtain ⟨v2, e2⟩ : ∃ v, v = fmul v1 f := ⟨_, rfl⟩
  have i2 : In v2 13812279922025074908 4590848565152798519 := by rw [e2]; exact In_mul i1 hf (Fw.of (by decide +kernel)) (Fw.of (by decide +kernel)) (Fw.of (by decide +kernel)) (Fw.of (by decide +kernel)) (Fw.of (by decide +kernel)) (Fw.of (by decide +kernel)) (by decide +kernel) (by decide +kernel) (by decide +kernel) (by decide +kernel) (by decide +kernel) (by decide +kernel) (by decide +kernel) (by decide +kernel)
  obtain ⟨v3, e3⟩ : ∃ v, v = fmul K 4604418534311723008 := ⟨_, rfl⟩
  have i3 : In v3 4604418534311723008 4649454530585427968 := by rw [e3]; exact In_mul hk (In.const (Fw.of (by decide +kernel))) (Fw.of (by decide +kernel)) (Fw.of (by decide +kernel)) (Fw.of (by decide +kernel)) (Fw.of (by decide +kernel)) (Fw.of (by decide +kernel)) (Fw.of (by decide +kernel)) (by decide +kernel) (by decide +kernel) (by decide +kernel) (by decide +kernel) (by decide +kernel) (by decide +kernel) (by decide +kernel) (by decide +kernel)
  obtain ⟨v4, e4⟩ : ∃ v, v = fmul K 4461442080421002358 := ⟨_, rfl⟩
  have i4 : In v4 4461442080421002358 4506478076694707318 := by rw [e4]; exact In_mul hk (In.const (Fw.of (by decide +kernel))) (Fw.of (by decide +kernel)) (Fw.of (by decide +kernel)) (Fw.of (by decide +kernel)) (Fw.of (by decide +kernel)) (Fw.of (by decide +kernel)) (Fw.of (by decide +kernel)) (by decide +kernel) (by decide +kernel) (by decide +kernel) (by decide +kernel) (by decide +kernel) (by decide +kernel) (by decide +kernel) (by decide +kernel)
  obtain ⟨v5, e5⟩ : ∃ v, v = fadd v4 c := ⟨_, rfl⟩
  have i5 : In v5 13808036457462940185 4584664448823446878 := by rw [e5]; exact In_add i4 hc (Fw.of (by decide +kernel)) (Fw.of (by decide +kernel)) (Fw.of (by decide +kernel)) (Fw.of (by decide +kernel)) (by decide +kernel) (by decide +kernel) (Fw.of (by decide +kernel)) (Fw.of (by decide +kernel))
  obtain ⟨v6, e6⟩ : ∃ v, v = fadd 4611686018427387904 f := ⟨_, rfl⟩
  have i6 : In v6 4610366463736568349 4612618939090197702 := by rw [e6]; exact In_add (In.const (Fw.of (by decide +kernel))) hf (Fw.of (by decide +kernel)) (Fw.of (by decide +kernel)) (Fw.of (by decide +kernel)) (Fw.of (by decide +kernel)) (by decide +kernel) (by decide +kernel) (Fw.of (by decide +kernel)) (Fw.of (by decide +kernel))
  obtain ⟨v7, e7⟩ : ∃ v, v = fdiv f v6 := ⟨_, rfl⟩
  have i7 : In v7 13818724261906035568 4597912443609197856 := by rw [e7]; exact In_div hf (c := 4610366463736568349) (d := 4612618939090197702) (by decide +kernel) (In.pos i6 (by decide +kernel) (by decide +kernel) (by decide +kernel)).1 (In.pos i6 (by decide +kernel) (by decide +kernel) (by decide +kernel)).2 (by decide +kernel) (Fw.of (by decide +kernel)) (Fw.of (by decide +kernel)) (Fw.of (by decide +kernel)) (Fw.of (by decide +kernel)) (by decide +kernel) (by decide +kernel) (by decide +kernel) (by decide +kernel)
  obtain ⟨v8, e8⟩ : ∃ v, v = fmul v7 v7 := ⟨_, rfl⟩
  have i8 : In v8 0 4588650134640766536 := by rw [e8]; exact In_sq i7 (Fw.of (by decide +kernel)) (Fw.of (by decide +kernel)) (Fw.of (by decide +kernel)) (by decide +kernel) (by decide +kernel)
  obtain ⟨v9, e9⟩ : ∃ v, v = fmul v8 4594499633228436036 := ⟨_, rfl⟩
  have i9 : In v9 0 4576178683730953258 := by rw [e9]; exact In_mul i8 (In.const (Fw.of (by decide +kernel))) (Fw.of (by decide +kernel)) (Fw.of (by decide +kernel)) (Fw.of (by decide +kernel)) (Fw.of (by decide +kernel)) (Fw.of (by decide +kernel)) (Fw.of (by decide +kernel)) (by decide +kernel) (by decide +kernel) (by decide +kernel) (by decide +kernel) (by decide +kernel) (by decide +kernel) (by decide +kernel) (by decide +kernel)
  obtain ⟨v10, e10⟩ : ∃ v, v = fadd 4594685411790997151 v9 := ⟨_, rfl⟩
  have i10 : In v10 4594685411790997151 4594999478162865890 := by rw [e10]; exact In_add (In.const (Fw.of (by decide +kernel))) i9 (Fw.of (by decide +kernel)) (Fw.of (by decide +kernel)) (Fw.of (by decide +kernel)) (Fw.of (by decide +kernel)) (by decide +kernel) (by decide +kernel) (Fw.of (by decide +kernel)) (Fw.of (by decide +kernel))
  obtain ⟨v11, e11⟩ : ∃ v, v = fmul v8 v10 := ⟨_, rfl⟩
  have i11 : In v11 0 4576649789152541244 := by rw [e11]; exact In_mul i8 i10 (Fw.of (by decide +kernel)) (Fw.of (by decide +kernel)) (Fw.of (by decide +kernel)) (Fw.of (by decide +kernel)) (Fw.of (by decide +kernel)) (Fw.of (by decide +kernel)) (by decide +kernel) (by decide +kernel) (by decide +kernel) (by decide +kernel) (by decide +kernel) (by decide +kernel) (by decide +kernel) (by decide +kernel)
  obtain ⟨v12, e12⟩ : ∃ v, v = fadd 4595719342595441630 v11 := ⟨_, rfl⟩
  have i12 : In v12 4595719342595441630 4596062853056159618 := by rw [e12]; exact In_add (In.const (Fw.of (by decide +kernel))) i11 (Fw.of (by decide +kernel)) (Fw.of (by decide +kernel)) (Fw.of (by decide +kernel)) (Fw.of (by decide +kernel)) (by decide +kernel) (by decide +kernel) (Fw.of (by decide +kernel)) (Fw.of (by decide +kernel))
  obtain ⟨v13, e13⟩ : ∃ v, v = fmul v8 v12 := ⟨_, rfl⟩
  have i13 : In v13 0 4577652023331392413 := by rw [e13]; exact In_mul i8 i12 (Fw.of (by decide +kernel)) (Fw.of (by decide +kernel)) (Fw.of (by decide +kernel)) (Fw.of (by decide +kernel)) (Fw.of (by decide +kernel)) (Fw.of (by decide +kernel)) (by decide +kernel) (by decide +kernel) (by decide +kernel) (by decide +kernel) (by decide +kernel) (by decide +kernel) (by decide +kernel) (by decide +kernel)
  obtain ⟨v14, e14⟩ : ∃ v, v = fadd 4597174411056806063 v13 := ⟨_, rfl⟩
  have i14 : In v14 4597174411056806063 4597580561153702249 := by rw [e14]; exact In_add (In.const (Fw.of (by decide +kernel))) i13 (Fw.of (by decide +kernel)) (Fw.of (by decide +kernel)) (Fw.of (by decide +kernel)) (Fw.of (by decide +kernel)) (by decide +kernel) (by decide +kernel) (Fw.of (by decide +kernel)) (Fw.of (by decide +kernel))
  obtain ⟨v15, e15⟩ : ∃ v, v = fmul v8 v14 := ⟨_, rfl⟩
  have i15 : In v15 0 4579082467983104016 := by rw [e15]; exact In_mul i8 i14 (Fw.of (by decide +kernel)) (Fw.of (by decide +kernel)) (Fw.of (by decide +kernel)) (Fw.of (by decide +kernel)) (Fw.of (by decide +kernel)) (Fw.of (by decide +kernel)) (by decide +kernel) (by decide +kernel) (by decide +kernel) (by decide +kernel) (by decide +kernel) (by decide +kernel) (by decide +kernel) (by decide +kernel)
  obtain ⟨v16, e16⟩ : ∃ v, v = fadd 4598818590951641945 v15 := ⟨_, rfl⟩
  have i16 : In v16 4598818590951641945 4599066367395456026 := by rw [e16]; exact In_add (In.const (Fw.of (by decide +kernel))) i15 (Fw.of (by decide +kernel)) (Fw.of (by decide +kernel)) (Fw.of (by decide +kernel)) (Fw.of (by decide +kernel)) (by decide +kernel) (by decide +kernel) (Fw.of (by decide +kernel)) (Fw.of (by decide +kernel))
  obtain ⟨v17, e17⟩ : ∃ v, v = fmul v8 v16 := ⟨_, rfl⟩
  have i17 : In v17 0 4580741787860359499 := by rw [e17]; exact In_mul i8 i16 (Fw.of (by decide +kernel)) (Fw.of (by decide +kernel)) (Fw.of (by decide +kernel)) (Fw.of (by decide +kernel)) (Fw.of (by decide +kernel)) (Fw.of (by decide +kernel)) (by decide +kernel) (by decide +kernel) (by decide +kernel) (by decide +kernel) (by decide +kernel) (by decide +kernel) (by decide +kernel) (by decide +kernel)
  obtain ⟨v18, e18⟩ : ∃ v, v = fadd 4600877379321592324 v17 := ⟨_, rfl⟩
  have i18 : In v18 4600877379321592324 4601195164724838297 := by rw [e18]; exact In_add (In.const (Fw.of (by decide +kernel))) i17 (Fw.of (by decide +kernel)) (Fw.of (by decide +kernel)) (Fw.of (by decide +kernel)) (Fw.of (by decide +kernel)) (by decide +kernel) (by decide +kernel) (Fw.of (by decide +kernel)) (Fw.of (by decide +kernel))
  obtain ⟨v19, e19⟩ : ∃ v, v = fmul v8 v18 := ⟨_, rfl⟩
  have i19 : In v19 0 4582748186033580867 := by rw [e19]; exact In_mul i8 i18 (Fw.of (by decide +kernel)) (Fw.of (by decide +kernel)) (Fw.of (by decide +kernel)) (Fw.of (by decide +kernel)) (Fw.of (by decide +kernel)) (Fw.of (by decide +kernel)) (by decide +kernel) (by decide +kernel) (by decide +kernel) (by decide +kernel) (by decide +kernel) (by decide +kernel) (by decide +kernel) (by decide +kernel)
  obtain ⟨v20, e20⟩ : ∃ v, v = fadd 4604180019048437139 v19 := ⟨_, rfl⟩
  have i20 : In v20 4604180019048437139 4604401611692973293 := by rw [e20]; exact In_add (In.const (Fw.of (by decide +kernel))) i19 (Fw.of (by decide +kernel)) (Fw.of (by decide +kernel)) (Fw.of (by decide +kernel)) (Fw.of (by decide +kernel)) (by decide +kernel) (by decide +kernel) (Fw.of (by decide +kernel)) (Fw.of (by decide +kernel))
  obtain ⟨v21, e21⟩ : ∃ v, v = fmul v8 v20 := ⟨_, rfl⟩
  have i21 : In v21 0 4586029215202994915 := by rw [e21]; exact In_mul i8 i20 (Fw.of (by decide +kernel)) (Fw.of (by decide +kernel)) (Fw.of (by decide +kernel)) (Fw.of (by decide +kernel)) (Fw.of (by decide +kernel)) (Fw.of (by decide +kernel)) (by decide +kernel) (by decide +kernel) (by decide +kernel) (by decide +kernel) (by decide +kernel) (by decide +kernel) (by decide +kernel) (by decide +kernel)
  obtain ⟨v22, e22⟩ : ∃ v, v = fadd v2 v21 := ⟨_, rfl⟩
  have i22 : In v22 13812279922025074908 4593727191077152340 := by rw [e22]; exact In_add i2 i21 (Fw.of (by decide +kernel)) (Fw.of (by decide +kernel)) (Fw.of (by decide +kernel)) (Fw.of (by decide +kernel)) (by decide +kernel) (by decide +kernel) (Fw.of (by decide +kernel)) (Fw.of (by decide +kernel))
  obtain ⟨v23, e23⟩ : ∃ v, v = fmul v7 v22 := ⟨_, rfl⟩
  have i23 : In v23 13805289771633926194 4584509544580751473 := by rw [e23]; exact In_mul i7 i22 (Fw.of (by decide +kernel)) (Fw.of (by decide +kernel)) (Fw.of (by decide +kernel)) (Fw.of (by decide +kernel)) (Fw.of (by decide +kernel)) (Fw.of (by decide +kernel)) (by decide +kernel) (by decide +kernel) (by decide +kernel) (by decide +kernel) (by decide +kernel) (by decide +kernel) (by decide +kernel) (by decide +kernel)
  obtain ⟨v24, e24⟩ : ∃ v, v = fadd v23 v5 := ⟨_, rfl⟩
  have i24 : In v24 13811166714175803686 4589090610409610646 := by rw [e24]; exact In_add i23 i5 (Fw.of (by decide +kernel)) (Fw.of (by decide +kernel)) (Fw.of (by decide +kernel)) (Fw.of (by decide +kernel)) (by decide +kernel) (by decide +kernel) (Fw.of (by decide +kernel)) (Fw.of (by decide +kernel))
  obtain ⟨v25, e25⟩ : ∃ v, v = fsub v2 v24 := ⟨_, rfl⟩
  have i25 : In v25 13816874884272101177 4594168556606660581 := by rw [e25]; exact In_sub i2 i24 (Fw.of (by decide +kernel)) (Fw.of (by decide +kernel)) (Fw.of (by decide +kernel)) (Fw.of (by decide +kernel)) (by decide +kernel) (by decide +kernel) (Fw.of (by decide +kernel)) (Fw.of (by decide +kernel))
  obtain ⟨v26, e26⟩ : ∃ v, v = fsub v25 f := ⟨_, rfl⟩
  have i26 : In v26 13826383742395561472 4601450106839246720 := by rw [e26]; exact In_sub i25 hf (Fw.of (by decide +kernel)) (Fw.of (by decide +kernel)) (Fw.of (by decide +kernel)) (Fw.of (by decide +kernel)) (by decide +kernel) (by decide +kernel) (Fw.of (by decide +kernel)) (Fw.of (by decide +kernel))
  obtain ⟨v27, e27⟩ : ∃ v, v = fsub v3 v26 := ⟨_, rfl⟩
  have i27 : In v27 4598379762529458304 4649459253716282958 := by rw [e27]; exact In_sub i3 i26 (Fw.of (by decide +kernel)) (Fw.of (by decide +kernel)) (Fw.of (by decide +kernel)) (Fw.of (by decide +kernel)) (by decide +kernel) (by decide +kernel) (Fw.of (by decide +kernel)) (Fw.of (by decide +kernel))
  refine ⟨v27, ?_, i27.mono (by decide +kernel) (by decide +kernel)⟩
  subst_vars; rfl

/-- What log1p makes of its parts, with an exponent that is not 0. -/
theorem l1T_in (z : Bool) {K f c : Nat} (hk : In K 4607182418800017408 4652218415073722368) (hf : In f 13822321875535959949 4601134985220384306) (hc : In c 13808036457517940736 4584664420663164928) : In (l1T z false f K c) 4598175219545276416 4649544402794971136 := by
  unfold l1T
  cases z
  · obtain ⟨y, e, h⟩ := l1_core2 hk hf hc
    simp only [Bool.false_eq_true, if_false]
    rw [← e]; exact h
  · simp only [Bool.false_eq_true, if_true, if_false]
    split
    · obtain ⟨y, e, h⟩ := l1_core0 hk hc
      rw [← e]; exact h
    · obtain ⟨y, e, h⟩ := l1_core1 hk hf hc
      rw [← e]; exact h

end Go.Proofs.YtgbdplmpojkklaaDoor
