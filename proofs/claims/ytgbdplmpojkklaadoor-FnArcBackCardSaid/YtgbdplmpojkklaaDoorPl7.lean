/-
Near 0: Sin, Tan, Asin, Atan are the number itself, and Cos is 1. No program in sight.
-/
import Derived.Test.YtgbdplmpojkklaaDoorFpS
import Derived.Test.YtgbdplmpojkklaaDoorPl6
import Derived.Test.YtgbdplmpojkklaaDoorFpJ
namespace Go.Proofs.YtgbdplmpojkklaaDoor
open Ieee

theorem In.ofPos' {y c d : Nat} (h1 : c ≤ y) (h2 : y ≤ d) (hd : d < INF) : In y c d := by
  have hI := INF_lt_SGN
  have e : ∀ z, z < INF → sv z = V z := fun z hz => sv_word false z (by omega)
  refine ⟨⟨false, y, by omega, (word_false _).symm⟩, ?_, ?_⟩
  · rw [e c (by omega), e y (by omega)]; have := V_le h1; omega
  · rw [e d hd, e y (by omega)]; have := V_le h2; omega
theorem In.neg {y c d : Nat} (h : In y (N c) (N d)) (hd0 : 0 < d) (hcI : c < INF) (hdI : d < INF) : ∃ a, y = N a ∧ d ≤ a ∧ a ≤ c := by
  obtain ⟨⟨s, r, hr, rfl⟩, h1, h2⟩ := h
  have hI := INF_lt_SGN
  have vd := V_pos hd0
  have ec : sv (N c) = -(V c : Int) := sv_word true c (by omega)
  have ed : sv (N d) = -(V d : Int) := sv_word true d (by omega)
  rw [sv_word s r (by omega), ec] at h1
  rw [sv_word s r (by omega), ed] at h2
  cases s
  · simp only [SV_false] at h2; omega
  · simp only [SV_true] at h1 h2
    exact ⟨r, rfl, V_le_iff.1 (by omega), V_le_iff.1 (by omega)⟩

theorem sinS_in {z : Nat} (hz : In z 0 4604480259023595110) : In (sinS z) 13818664952638535107 13815242216921733530 := by
  obtain ⟨v1, e1⟩ : ∃ v, v = fmul 4460209587652500685 z := ⟨_, rfl⟩
  have i1 : In v1 0 4458165810498362245 := by rw [e1]; exact In_mul (In.const (Fw.of (by decide +kernel))) hz (Fw.of (by decide +kernel)) (Fw.of (by decide +kernel)) (Fw.of (by decide +kernel)) (Fw.of (by decide +kernel)) (Fw.of (by decide +kernel)) (Fw.of (by decide +kernel)) (by decide +kernel) (by decide +kernel) (by decide +kernel) (by decide +kernel) (by decide +kernel) (by decide +kernel) (by decide +kernel) (by decide +kernel)
  obtain ⟨v2, e2⟩ : ∃ v, v = fadd v1 13716528389658582877 := ⟨_, rfl⟩
  have i2 : In v2 13716528389658582877 13716494759273206657 := by rw [e2]; exact In_add i1 (In.const (Fw.of (by decide +kernel))) (Fw.of (by decide +kernel)) (Fw.of (by decide +kernel)) (Fw.of (by decide +kernel)) (Fw.of (by decide +kernel)) (by decide +kernel) (by decide +kernel) (Fw.of (by decide +kernel)) (Fw.of (by decide +kernel))
  obtain ⟨v3, e3⟩ : ∃ v, v = fmul v2 z := ⟨_, rfl⟩
  have i3 : In v3 13714257052475744961 9223372036854775808 := by rw [e3]; exact In_mul i2 hz (Fw.of (by decide +kernel)) (Fw.of (by decide +kernel)) (Fw.of (by decide +kernel)) (Fw.of (by decide +kernel)) (Fw.of (by decide +kernel)) (Fw.of (by decide +kernel)) (by decide +kernel) (by decide +kernel) (by decide +kernel) (by decide +kernel) (by decide +kernel) (by decide +kernel) (by decide +kernel) (by decide +kernel)
  obtain ⟨v4, e4⟩ : ∃ v, v = fadd v3 4523617212962785441 := ⟨_, rfl⟩
  have i4 : In v4 4523575808378723291 4523617212962785441 := by rw [e4]; exact In_add i3 (In.const (Fw.of (by decide +kernel))) (Fw.of (by decide +kernel)) (Fw.of (by decide +kernel)) (Fw.of (by decide +kernel)) (Fw.of (by decide +kernel)) (by decide +kernel) (by decide +kernel) (Fw.of (by decide +kernel)) (Fw.of (by decide +kernel))
  obtain ⟨v5, e5⟩ : ∃ v, v = fmul v4 z := ⟨_, rfl⟩
  have i5 : In v5 0 4521665176949732055 := by rw [e5]; exact In_mul i4 hz (Fw.of (by decide +kernel)) (Fw.of (by decide +kernel)) (Fw.of (by decide +kernel)) (Fw.of (by decide +kernel)) (Fw.of (by decide +kernel)) (Fw.of (by decide +kernel)) (by decide +kernel) (by decide +kernel) (by decide +kernel) (by decide +kernel) (by decide +kernel) (by decide +kernel) (by decide +kernel) (by decide +kernel)
  obtain ⟨v6, e6⟩ : ∃ v, v = fadd v5 13774824197404483331 := ⟨_, rfl⟩
  have i6 : In v6 13774824197404483331 13774753029424840760 := by rw [e6]; exact In_add i5 (In.const (Fw.of (by decide +kernel))) (Fw.of (by decide +kernel)) (Fw.of (by decide +kernel)) (Fw.of (by decide +kernel)) (Fw.of (by decide +kernel)) (by decide +kernel) (by decide +kernel) (Fw.of (by decide +kernel)) (Fw.of (by decide +kernel))
  obtain ⟨v7, e7⟩ : ∃ v, v = fmul v6 z := ⟨_, rfl⟩
  have i7 : In v7 13772628156444620213 9223372036854775808 := by rw [e7]; exact In_mul i6 hz (Fw.of (by decide +kernel)) (Fw.of (by decide +kernel)) (Fw.of (by decide +kernel)) (Fw.of (by decide +kernel)) (Fw.of (by decide +kernel)) (Fw.of (by decide +kernel)) (by decide +kernel) (by decide +kernel) (by decide +kernel) (by decide +kernel) (by decide +kernel) (by decide +kernel) (by decide +kernel) (by decide +kernel)
  obtain ⟨v8, e8⟩ : ∃ v, v = fadd v7 4575957461383575504 := ⟨_, rfl⟩
  have i8 : In v8 4575877397390247161 4575957461383575504 := by rw [e8]; exact In_add i7 (In.const (Fw.of (by decide +kernel))) (Fw.of (by decide +kernel)) (Fw.of (by decide +kernel)) (Fw.of (by decide +kernel)) (Fw.of (by decide +kernel)) (by decide +kernel) (by decide +kernel) (Fw.of (by decide +kernel)) (Fw.of (by decide +kernel))
  obtain ⟨v9, e9⟩ : ∃ v, v = fmul v8 z := ⟨_, rfl⟩
  have i9 : In v9 0 4573375397597213833 := by rw [e9]; exact In_mul i8 hz (Fw.of (by decide +kernel)) (Fw.of (by decide +kernel)) (Fw.of (by decide +kernel)) (Fw.of (by decide +kernel)) (Fw.of (by decide +kernel)) (Fw.of (by decide +kernel)) (by decide +kernel) (by decide +kernel) (by decide +kernel) (by decide +kernel) (by decide +kernel) (by decide +kernel) (by decide +kernel) (by decide +kernel)
  obtain ⟨v10, e10⟩ : ∃ v, v = fadd v9 13818544856648471880 := ⟨_, rfl⟩
  have i10 : In v10 13818544856648471880 13818334688665861540 := by rw [e10]; exact In_add i9 (In.const (Fw.of (by decide +kernel))) (Fw.of (by decide +kernel)) (Fw.of (by decide +kernel)) (Fw.of (by decide +kernel)) (Fw.of (by decide +kernel)) (by decide +kernel) (by decide +kernel) (Fw.of (by decide +kernel)) (Fw.of (by decide +kernel))
  have e : sinS z = v10 := by subst_vars; rfl
  rw [e]; exact i10.mono (by decide +kernel) (by decide +kernel)

theorem cosS_in {z : Nat} (hz : In z 0 4604480259023595110) : In (cosS z) 4585925428558828667 4586213658934980379 := by
  obtain ⟨v1, e1⟩ : ∃ v, v = fmul 13666448263388469915 z := ⟨_, rfl⟩
  have i1 : In v1 13664339085316343251 9223372036854775808 := by rw [e1]; exact In_mul (In.const (Fw.of (by decide +kernel))) hz (Fw.of (by decide +kernel)) (Fw.of (by decide +kernel)) (Fw.of (by decide +kernel)) (Fw.of (by decide +kernel)) (Fw.of (by decide +kernel)) (Fw.of (by decide +kernel)) (by decide +kernel) (by decide +kernel) (by decide +kernel) (by decide +kernel) (by decide +kernel) (by decide +kernel) (by decide +kernel) (by decide +kernel)
  obtain ⟨v2, e2⟩ : ∃ v, v = fadd v1 4477121864728985349 := ⟨_, rfl⟩
  have i2 : In v2 4477102640449682111 4477121864728985349 := by rw [e2]; exact In_add i1 (In.const (Fw.of (by decide +kernel))) (Fw.of (by decide +kernel)) (Fw.of (by decide +kernel)) (Fw.of (by decide +kernel)) (Fw.of (by decide +kernel)) (by decide +kernel) (by decide +kernel) (Fw.of (by decide +kernel)) (Fw.of (by decide +kernel))
  obtain ⟨v3, e3⟩ : ∃ v, v = fmul v2 z := ⟨_, rfl⟩
  have i3 : In v3 0 4474637239001647981 := by rw [e3]; exact In_mul i2 hz (Fw.of (by decide +kernel)) (Fw.of (by decide +kernel)) (Fw.of (by decide +kernel)) (Fw.of (by decide +kernel)) (Fw.of (by decide +kernel)) (Fw.of (by decide +kernel)) (by decide +kernel) (by decide +kernel) (by decide +kernel) (by decide +kernel) (by decide +kernel) (by decide +kernel) (by decide +kernel) (by decide +kernel)
  obtain ⟨v4, e4⟩ : ∃ v, v = fadd v3 13732177093698800582 := ⟨_, rfl⟩
  have i4 : In v4 13732177093698800582 13732149490540011067 := by rw [e4]; exact In_add i3 (In.const (Fw.of (by decide +kernel))) (Fw.of (by decide +kernel)) (Fw.of (by decide +kernel)) (Fw.of (by decide +kernel)) (Fw.of (by decide +kernel)) (by decide +kernel) (by decide +kernel) (Fw.of (by decide +kernel)) (Fw.of (by decide +kernel))
  obtain ⟨v5, e5⟩ : ∃ v, v = fmul v4 z := ⟨_, rfl⟩
  have i5 : In v5 13729755665860841595 9223372036854775808 := by rw [e5]; exact In_mul i4 hz (Fw.of (by decide +kernel)) (Fw.of (by decide +kernel)) (Fw.of (by decide +kernel)) (Fw.of (by decide +kernel)) (Fw.of (by decide +kernel)) (Fw.of (by decide +kernel)) (by decide +kernel) (by decide +kernel) (by decide +kernel) (by decide +kernel) (by decide +kernel) (by decide +kernel) (by decide +kernel) (by decide +kernel)
  obtain ⟨v6, e6⟩ : ∃ v, v = fadd v5 4537941361668146421 := ⟨_, rfl⟩
  have i6 : In v6 4537884427283279700 4537941361668146421 := by rw [e6]; exact In_add i5 (In.const (Fw.of (by decide +kernel))) (Fw.of (by decide +kernel)) (Fw.of (by decide +kernel)) (Fw.of (by decide +kernel)) (Fw.of (by decide +kernel)) (by decide +kernel) (by decide +kernel) (Fw.of (by decide +kernel)) (Fw.of (by decide +kernel))
  obtain ⟨v7, e7⟩ : ∃ v, v = fmul v6 z := ⟨_, rfl⟩
  have i7 : In v7 0 4535745320708118187 := by rw [e7]; exact In_mul i6 hz (Fw.of (by decide +kernel)) (Fw.of (by decide +kernel)) (Fw.of (by decide +kernel)) (Fw.of (by decide +kernel)) (Fw.of (by decide +kernel)) (Fw.of (by decide +kernel)) (by decide +kernel) (by decide +kernel) (by decide +kernel) (by decide +kernel) (by decide +kernel) (by decide +kernel) (by decide +kernel) (by decide +kernel)
  obtain ⟨v8, e8⟩ : ∃ v, v = fadd v7 13787419979223748497 := ⟨_, rfl⟩
  have i8 : In v8 13787419979223748497 13787339915230414134 := by rw [e8]; exact In_add i7 (In.const (Fw.of (by decide +kernel))) (Fw.of (by decide +kernel)) (Fw.of (by decide +kernel)) (Fw.of (by decide +kernel)) (Fw.of (by decide +kernel)) (by decide +kernel) (by decide +kernel) (Fw.of (by decide +kernel)) (Fw.of (by decide +kernel))
  obtain ⟨v9, e9⟩ : ∃ v, v = fmul v8 z := ⟨_, rfl⟩
  have i9 : In v9 13785478427384390295 9223372036854775808 := by rw [e9]; exact In_mul i8 hz (Fw.of (by decide +kernel)) (Fw.of (by decide +kernel)) (Fw.of (by decide +kernel)) (Fw.of (by decide +kernel)) (Fw.of (by decide +kernel)) (Fw.of (by decide +kernel)) (by decide +kernel) (by decide +kernel) (by decide +kernel) (by decide +kernel) (by decide +kernel) (by decide +kernel) (by decide +kernel) (by decide +kernel)
  obtain ⟨v10, e10⟩ : ∃ v, v = fadd v9 4586165620538955083 := ⟨_, rfl⟩
  have i10 : In v10 4586025508550548161 4586165620538955083 := by rw [e10]; exact In_add i9 (In.const (Fw.of (by decide +kernel))) (Fw.of (by decide +kernel)) (Fw.of (by decide +kernel)) (Fw.of (by decide +kernel)) (Fw.of (by decide +kernel)) (by decide +kernel) (by decide +kernel) (Fw.of (by decide +kernel)) (Fw.of (by decide +kernel))
  have e : cosS z = v10 := by subst_vars; rfl
  rw [e]; exact i10.mono (by decide +kernel) (by decide +kernel)

/-- Rounding at most doubles. -/
theorem Rn.dbl {n d q : Nat} (h : Rn n d q) (hq : q < INF) : V q * d ≤ 2 * n := by
  by_cases h0 : q = 0
  · subst h0; rw [V_zero]; omega
  · have h1 := (h.2.2 (q - 1) (by omega))
    have h2 : ¬ (2 * n < M (q - 1) * d) := fun hh => by have := h1.2 (.inl hh); omega
    have h3 : V q ≤ M (q - 1) := by unfold M; rw [show q - 1 + 1 = q by omega]; omega
    have h4 := Nat.mul_le_mul_right d h3
    omega
theorem V_le_pl (a : Nat) : V a ≤ 9007199254740992 * 2 ^ pl a := by
  rw [V_eq]
  refine Nat.mul_le_mul_right _ ?_
  have := mg_lt a
  have hB : B = 4503599627370496 := rfl
  omega
theorem absorb_add {a t : Nat} (ha : a < INF) (ht : t < INF) (h : V t * 36028797018963968 ≤ V a) : fadd a t = a := by
  have hR := fadd_Rn ha ht
  have hge := fadd_ge ha ht
  have hle : fadd a t ≤ a := by
    refine (hR.2.2 a ha).2 (.inl ?_)
    have h1 := V_le_pl a
    have h2 : M a = 2 * V a + 2 ^ pl a := by unfold M; rw [V_step]; show V a + (V a + 2 ^ pl a) = _; omega
    have h3 := Nat.two_pow_pos (pl a)
    rw [h2]; omega
  omega
theorem absorb_sub {a t : Nat} (ha : a < INF) (hta : t ≤ a) (h : V t * 36028797018963968 ≤ V a) : fsub a t = a := by
  by_cases h0 : a = 0
  · subst h0
    obtain rfl : t = 0 := by omega
    exact fsub_zero ha
  · have hR := fsub_Rn ha hta
    have hle := fsub_le ha hta
    have hge : a ≤ fsub a t := by
      by_cases hh : a ≤ fsub a t
      · exact hh
      · exfalso
        have h1 := (hR.2.2 (a - 1) (by omega)).1 (by omega)
        have h2 := V_step (a - 1)
        rw [show a - 1 + 1 = a by omega] at h2
        have h3 := V_le_pl (a - 1)
        have h4 : M (a - 1) = V (a - 1) + V a := by unfold M; rw [show a - 1 + 1 = a by omega]
        have h5 : (2 : Nat) ^ ((a - 1) / B - 1) = 2 ^ pl (a - 1) := rfl
        have h6 := Nat.two_pow_pos (pl (a - 1))
        have h7 := V_le hta
        rw [h5] at h2
        rw [h4] at h1
        rcases h1 with h1 | ⟨h1, _⟩ <;> omega
    omega

def Z28 : Nat := 4481081629233643520
def Z56 : Nat := 4354980839667269632
theorem Z28_INF : Z28 < INF := by decide
theorem V_Z56 : V Z56 * 72057594037927936 = U := by decide +kernel
theorem dbl_aux {z u a v : Nat} (e : z * 72057594037927936 = u) (hu : 0 < u) (h : a * u ≤ 2 * (v * z)) : a * 36028797018963968 ≤ v := by
  subst e
  have hp : 0 < z := Nat.pos_of_mul_pos_right hu
  have h6 : a * 72057594037927936 * z ≤ 2 * v * z := by
    rw [Nat.mul_assoc, Nat.mul_comm _ z, Nat.mul_assoc]; exact h
  have h7 := Nat.le_of_mul_le_mul_right h6 hp
  rw [show (72057594037927936 : Nat) = 36028797018963968 * 2 from rfl, ← Nat.mul_assoc, Nat.mul_comm 2 v] at h7
  exact Nat.le_of_mul_le_mul_right h7 (by decide)
theorem le_aux {a b c : Nat} (h1 : a ≤ b) (h2 : b * 36028797018963968 ≤ c) : a * 36028797018963968 ≤ c := Nat.le_trans (Nat.mul_le_mul_right _ h1) h2
/-- A number times at most 2^-56. -/
theorem tiny_mul {r t : Nat} (hr : r < INF) (ht : t ≤ Z56) : fmul r t ≤ r ∧ V (fmul r t) * 36028797018963968 ≤ V r := by
  have hZ : Z56 < INF := by decide
  have h1 : fmul r t ≤ fmul r Z56 := fmul_mono hr hZ (Nat.le_refl _) ht
  have h2 : fmul r Z56 ≤ r := by
    have := fmul_mono hr ONE_lt (Nat.le_refl r) (show Z56 ≤ ONE by decide)
    have e : fmul r ONE = r := by
      have h := fmul_Rn hr ONE_lt
      rw [V_ONE] at h
      exact h.unique (Rn.exact r (by omega)) (by rw [Nat.mul_one])
    rw [e] at this; exact this
  refine ⟨by omega, ?_⟩
  have h3 := (fmul_Rn hr hZ).dbl (by omega)
  have h4 := V_le h1
  exact Nat.le_trans (Nat.mul_le_mul_right _ h4) (dbl_aux V_Z56 U_pos h3)

theorem fmul_zero {c : Nat} (hc : c < INF) : fmul 0 c = 0 := by
  have h := fmul_Rn (show 0 < INF by decide) hc
  rw [V_zero, Nat.zero_mul] at h
  exact h.unique (Rn.exact 0 (by decide)) (by rw [V_zero]; omega)

theorem pq_bounds {z : Nat} (hz : z ≤ Z1) : pN z ≤ 4639857105318598469 ∧ 4641049159275471596 ≤ qN z ∧ qN z < INF := by
  have hZ := Z1_fin
  have p1 := horner (u := 4606057067071350164) (c := 4625241160085635194) (U1 := 4606057067071350164) (R := 4625379708186679459) (Nat.le_refl _) hz (by decide) hZ (by decide) (by decide +kernel) (by decide +kernel)
  have p2 := horner (u := fadd (fmul (4606057067071350164) z) 4625241160085635194) (c := 4634978674960499315) (U1 := 4625379708186679459) (R := 4635637712687701738) p1.2.2 hz (by decide) hZ (by decide) (by decide +kernel) (by decide +kernel)
  have p3 := horner (u := fadd (fmul (fadd (fmul (4606057067071350164) z) 4625241160085635194) z) 4634978674960499315) (c := 4638347797471803941) (U1 := 4635637712687701738) (R := 4640197571261628868) p2.2.2 hz (by decide) hZ (by decide) (by decide +kernel) (by decide +kernel)
  have p4 := horner (u := fadd (fmul (fadd (fmul (fadd (fmul (4606057067071350164) z) 4625241160085635194) z) 4634978674960499315) z) 4638347797471803941) (c := 4634263845411024014) (U1 := 4640197571261628868) (R := 4639857105318598469) p3.2.2 hz (by decide) hZ (by decide) (by decide +kernel) (by decide +kernel)
  have q0 : fadd z 4627690253511319612 ≤ 4627848583185719356 := Nat.le_trans (fadd_mono hZ (by decide) hz (Nat.le_refl _)) (by decide +kernel)
  have q1 := horner (u := fadd z 4627690253511319612) (c := 4640010388282866213) (U1 := 4627848583185719356) (R := 4640513499919837417) q0 hz (by decide) hZ (by decide) (by decide +kernel) (by decide +kernel)
  have q2 := horner (u := fadd (fmul (fadd z 4627690253511319612) z) 4640010388282866213) (c := 4646322940342877755) (U1 := 4640513499919837417) (R := 4647906148991495646) q1.2.2 hz (by decide) hZ (by decide) (by decide +kernel) (by decide +kernel)
  have q3 := horner (u := fadd (fmul (fadd (fmul (fadd z 4627690253511319612) z) 4640010388282866213) z) 4646322940342877755) (c := 4647246694406179306) (U1 := 4647906148991495646) (R := 4650121654835804866) q2.2.2 hz (by decide) hZ (by decide) (by decide +kernel) (by decide +kernel)
  have q4 := horner (u := fadd (fmul (fadd (fmul (fadd (fmul (fadd z 4627690253511319612) z) 4640010388282866213) z) 4646322940342877755) z) 4647246694406179306) (c := 4641049159275471596) (U1 := 4650121654835804866) (R := 4648809623443752392) q3.2.2 hz (by decide) hZ (by decide) (by decide +kernel) (by decide +kernel)
  exact ⟨p4.2.2, q4.2.1, Nat.lt_of_le_of_lt q4.2.2 (by decide)⟩

section
variable {r : Nat} (h : r < Z28)
include h
theorem near_sq : fmul r r ≤ Z56 := Nat.le_trans (fmul_mono Z28_INF Z28_INF (Nat.le_of_lt h) (Nat.le_of_lt h)) (by decide +kernel)
theorem near_smJ : smJ r = 0 := by
  have hZ := Z28_INF
  have h1 : fmul r M4PI ≤ fmul Z28 M4PI := fmul_mono hZ (by decide) (Nat.le_of_lt h) (Nat.le_refl _)
  have h2 : V (fmul Z28 M4PI) < U := by decide +kernel
  have h3 := V_le h1
  show truncF (fmul r M4PI) = 0
  unfold truncF
  exact Nat.div_eq_of_lt (by omega)
theorem near_lt29 : fge r TH29 = false := by
  have hZ := Z28_INF
  rw [fge_TH (by omega)]
  have : Z28 < TH29 := by decide
  exact decide_eq_false (by omega)
theorem near_red : redJ r = 0 ∧ redZ r = r ∧ redT r = 0 := by
  have hZ := Z28_INF
  have hr : r < INF := by omega
  have hJ := near_smJ h
  have hb := near_lt29 h
  have hY : smY r = 0 := by unfold smY; rw [hJ]; decide +kernel
  have hK : smK r = 0 := by unfold smK; rw [hJ]; decide
  refine ⟨?_, ?_, ?_⟩
  · unfold redJ; rw [hb, hK]; rfl
  · unfold redZ smZ
    rw [hb, hY, fmul_zero (by decide), fmul_zero (by decide), fmul_zero (by decide), fsub_zero hr, fsub_zero hr, fsub_zero hr]; rfl
  · unfold redT; rw [hb, hK]; rfl
theorem near_sinP : sinP r = r := by
  have hZ := Z28_INF
  have hr : r < INF := by omega
  have hq := near_sq h
  have hzI : In (fmul r r) 0 4604480259023595110 := In.ofPos' (Nat.zero_le _) (Nat.le_trans hq (by decide)) (by decide)
  obtain ⟨a, ea, a1, a2⟩ := (show In (sinS (fmul r r)) (N 4595292915783759299) (N 4591870180066957722) from sinS_in hzI).neg (by decide) (by decide) (by decide)
  have haO : a ≤ ONE := Nat.le_trans a2 (by decide)
  obtain ⟨t1, t2⟩ := tiny_mul hr hq
  have hm : fmul r (fmul r r) < INF := by omega
  unfold sinP
  rw [ea, fmul_PN hm (by have := ONE_lt; omega)]
  have h3 : fmul (fmul r (fmul r r)) a ≤ fmul r (fmul r r) := by
    have := fmul_mono hm ONE_lt (Nat.le_refl (fmul r (fmul r r))) haO
    have e : fmul (fmul r (fmul r r)) ONE = fmul r (fmul r r) := by
      have h := fmul_Rn hm ONE_lt
      rw [V_ONE] at h
      exact h.unique (Rn.exact _ (by omega)) (by rw [Nat.mul_one])
    rw [e] at this; exact this
  rw [fadd_PN hr (by omega)]
  exact absorb_sub hr (Nat.le_trans h3 t1) (le_aux (V_le h3) t2)
theorem near_cosP : cosP r = ONE := by
  have hZ := Z28_INF
  have hr : r < INF := by omega
  have hO := ONE_lt
  have hq := near_sq h
  have hZ5 : Z56 < INF := by decide
  have hzI : In (fmul r r) 0 4604480259023595110 := In.ofPos' (Nat.zero_le _) (Nat.le_trans hq (by decide)) (by decide)
  obtain ⟨c1, c2⟩ := (cosS_in hzI).pos (by decide) (by decide) (by decide)
  have hcO : cosS (fmul r r) ≤ ONE := Nat.le_trans c2 (by decide)
  have h1 : fmul HALF (fmul r r) ≤ fmul HALF Z56 := fmul_mono (by decide) hZ5 (Nat.le_refl _) hq
  have v1 := V_le h1
  have d1 : V (fmul HALF Z56) * 36028797018963968 ≤ V ONE := by decide +kernel
  have d2 : fmul HALF Z56 ≤ ONE := by decide +kernel
  have e1 : fsub ONE (fmul HALF (fmul r r)) = ONE := absorb_sub hO (Nat.le_trans h1 d2) (le_aux v1 d1)
  have h2 : fmul (fmul r r) (fmul r r) ≤ fmul Z56 Z56 := fmul_mono hZ5 hZ5 hq hq
  have h3 : fmul (fmul (fmul r r) (fmul r r)) (cosS (fmul r r)) ≤ fmul (fmul Z56 Z56) ONE := fmul_mono (by decide +kernel) hO h2 hcO
  have v3 := V_le h3
  have d3 : V (fmul (fmul Z56 Z56) ONE) * 36028797018963968 ≤ V ONE := by decide +kernel
  have d4 : fmul (fmul Z56 Z56) ONE < INF := by decide +kernel
  unfold cosP
  rw [one_eq]
  show fadd (fsub ONE (fmul HALF (fmul r r))) _ = ONE
  rw [e1]
  exact absorb_add hO (Nat.lt_of_le_of_lt h3 d4) (le_aux v3 d3)
theorem near_tanP : tanP r = r := by
  have hq := near_sq h
  have hZ5 : Z56 < INF := by decide
  unfold tanP
  have e := fgt_pos false (fmul r r) 4397347889687374747 (by omega) (by decide)
  rw [word_false] at e
  have : ¬ 4397347889687374747 < fmul r r := by
    have : Z56 ≤ 4397347889687374747 := by decide
    omega
  rw [e]; simp [this]
theorem near_xatan : xatanF r = r := by
  have hZ := Z28_INF
  have hr : r < INF := by omega
  have hq := near_sq h
  have hZ5 : Z56 < INF := by decide
  have hX : Z28 ≤ X1 := by decide
  obtain ⟨hz, e, hle⟩ := xatan_eq (a := r) (by omega)
  rw [e]
  have hzz : zz (fmul r r) ≤ Z56 := by
    have hp := (pq_bounds hz).1
    have hqq := (pq_bounds hz).2.1
    have hq2 := (pq_bounds hz).2.2
    have h1 : fmul (fmul r r) (pN (fmul r r)) ≤ fmul Z56 4639857105318598469 := fmul_mono hZ5 (by decide) hq hp
    exact Nat.le_trans (fdiv_mono (a' := fmul Z56 4639857105318598469) (b' := 4641049159275471596) (by decide +kernel) hq2 (by decide) h1 hqq) (by decide +kernel)
  obtain ⟨t1, t2⟩ := tiny_mul hr hzz
  exact absorb_sub hr t1 t2
theorem near_satan : satanF r = r := by
  have hZ := Z28_INF
  rw [satan_split (by omega)]
  have : Z28 ≤ X0 := by decide
  rw [if_pos (by omega)]; exact near_xatan h
theorem near_asinA : asinA r = r := by
  have hZ := Z28_INF
  have hr : r < INF := by omega
  have hO := ONE_lt
  have hq := near_sq h
  have hZ5 : Z56 < INF := by decide
  unfold asinA
  have hc := fgt_pos false r C7 (by omega) (by decide)
  rw [word_false] at hc
  have h7 : ¬ C7 < r := by
    have : Z28 ≤ C7 := by decide
    omega
  rw [show fgt r 4604480259023595110 = fgt r C7 from rfl, hc, one_eq]
  have v1 := V_le hq
  have d1 : V Z56 * 36028797018963968 ≤ V ONE := by decide +kernel
  have d2 : Z56 ≤ ONE := by decide
  have e1 : fsub ONE (fmul r r) = ONE := absorb_sub hO (Nat.le_trans hq d2) (le_aux v1 d1)
  have e2 : fsqrt ONE = ONE := by decide +kernel
  rw [e1, e2, fdiv_ONE hr]
  simp only [h7, decide_false, Bool.and_false, Bool.false_eq_true, if_false]
  exact near_satan h
end

/-- The plain facts that FnNearZero asks. -/
theorem near_facts (s : Bool) {r : Nat} (h : r < Z28) : sinF (double.word s r) = double.word s r ∧ tanF (double.word s r) = double.word s r ∧ asinF (double.word s r) = double.word s r ∧ atanF (double.word s r) = double.word s r ∧ cosF (double.word s r) = ONE := by
  have hZ := Z28_INF
  have hr : r < INF := by omega
  have hS := INF_lt_SGN
  obtain ⟨j, z, t⟩ := near_red h
  have ng : negIf s r = double.word s r := by
    cases s
    · rfl
    · exact fneg_word false r (by omega)
  refine ⟨?_, ?_, ?_, ?_, ?_⟩
  · by_cases h0 : r = 0
    · subst h0; cases s <;> decide +kernel
    · rw [sinF_word s hr h0]
      unfold sinR; rw [j, z]
      simpa [near_sinP h] using ng
  · by_cases h0 : r = 0
    · subst h0; cases s <;> decide +kernel
    · rw [tanF_word s hr h0]
      unfold tanR; rw [t, z]
      have : uand 0 2 ≠ 2 := by decide
      simpa [near_tanP h, this] using ng
  · by_cases h0 : r = 0
    · subst h0; exact asin_zero s
    · have hO : Z28 ≤ ONE := by decide
      rw [asin_word s (by omega) (by omega), near_asinA h]
  · rw [atan_word s (by omega), near_satan h]
  · rw [cosF_word s hr]
    unfold cosR; rw [j, z]
    simp [negIf, near_cosP h]

end Go.Proofs.YtgbdplmpojkklaaDoor
