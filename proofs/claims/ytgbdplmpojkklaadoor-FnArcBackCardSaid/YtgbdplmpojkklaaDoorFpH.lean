/-
The arc tangent's rational function on numbers up to 3/4, and what it is good for: signs and ranges.
-/
import Derived.Test.YtgbdplmpojkklaaDoorFpG
namespace Go.Proofs.YtgbdplmpojkklaaDoor
open Ieee

theorem fadd_zero_l {a : Nat} (ha : a < INF) : fadd 0 a = a := by
  have h := fadd_Rn (show 0 < INF by decide) ha
  rw [V_zero, Nat.zero_add] at h
  exact h.unique (Rn.exact a (by omega)) rfl

/-- One step of Horner's rule on positive numbers: 'u * z + c'. -/
theorem horner {u z c U1 Z1 R : Nat} (hu : u ≤ U1) (hz : z ≤ Z1) (hU : U1 < INF) (hZ : Z1 < INF) (hc : c < INF) (hm : fmul U1 Z1 < INF) (hR : fadd (fmul U1 Z1) c ≤ R) :
    fmul u z < INF ∧ c ≤ fadd (fmul u z) c ∧ fadd (fmul u z) c ≤ R := by
  have h1 : fmul u z ≤ fmul U1 Z1 := fmul_mono hU hZ hu hz
  have h2 : fmul u z < INF := by omega
  refine ⟨h2, ?_, Nat.le_trans (fadd_mono hm hc h1 (Nat.le_refl _)) hR⟩
  have := fadd_mono (a := 0) h2 hc (Nat.zero_le _) (Nat.le_refl c)
  rw [fadd_zero_l hc] at this; exact this

def X1 : Nat := 4604930618986332160
def Z1 : Nat := 4603241769126068224
theorem Z1_fin : Z1 < INF := by decide

def pN (z : Nat) : Nat := fadd (fmul (fadd (fmul (fadd (fmul (fadd (fmul 4606057067071350164 z) 4625241160085635194) z) 4634978674960499315) z) 4638347797471803941) z) 4634263845411024014
def qN (z : Nat) : Nat := fadd (fmul (fadd (fmul (fadd (fmul (fadd (fmul (fadd z 4627690253511319612) z) 4640010388282866213) z) 4646322940342877755) z) 4647246694406179306) z) 4641049159275471596
def zz (z : Nat) : Nat := fdiv (fmul z (pN z)) (qN z)

theorem xatanZ_eq {z : Nat} (hz : z ≤ Z1) : xatanZ z = N (zz z) ∧ zz z ≤ HALF := by
  have hZ := Z1_fin
  have n0 : (13829429103926125972 : Nat) = N 4606057067071350164 := by decide
  have n1 : (13848613196940411002 : Nat) = N 4625241160085635194 := by decide
  have n2 : (13858350711815275123 : Nat) = N 4634978674960499315 := by decide
  have n3 : (13861719834326579749 : Nat) = N 4638347797471803941 := by decide
  have n4 : (13857635882265799822 : Nat) = N 4634263845411024014 := by decide
  have p1 := horner (u := 4606057067071350164) (c := 4625241160085635194) (U1 := 4606057067071350164) (R := 4625379708186679459) (Nat.le_refl _) hz (by decide) hZ (by decide) (by decide +kernel) (by decide +kernel)
  have pf1 : fadd (fmul (4606057067071350164) z) 4625241160085635194 < INF := Nat.lt_of_le_of_lt p1.2.2 (by decide)
  have p2 := horner (u := fadd (fmul (4606057067071350164) z) 4625241160085635194) (c := 4634978674960499315) (U1 := 4625379708186679459) (R := 4635637712687701738) p1.2.2 hz (by decide) hZ (by decide) (by decide +kernel) (by decide +kernel)
  have pf2 : fadd (fmul (fadd (fmul (4606057067071350164) z) 4625241160085635194) z) 4634978674960499315 < INF := Nat.lt_of_le_of_lt p2.2.2 (by decide)
  have p3 := horner (u := fadd (fmul (fadd (fmul (4606057067071350164) z) 4625241160085635194) z) 4634978674960499315) (c := 4638347797471803941) (U1 := 4635637712687701738) (R := 4640197571261628868) p2.2.2 hz (by decide) hZ (by decide) (by decide +kernel) (by decide +kernel)
  have pf3 : fadd (fmul (fadd (fmul (fadd (fmul (4606057067071350164) z) 4625241160085635194) z) 4634978674960499315) z) 4638347797471803941 < INF := Nat.lt_of_le_of_lt p3.2.2 (by decide)
  have p4 := horner (u := fadd (fmul (fadd (fmul (fadd (fmul (4606057067071350164) z) 4625241160085635194) z) 4634978674960499315) z) 4638347797471803941) (c := 4634263845411024014) (U1 := 4640197571261628868) (R := 4639857105318598469) p3.2.2 hz (by decide) hZ (by decide) (by decide +kernel) (by decide +kernel)
  have pf4 : fadd (fmul (fadd (fmul (fadd (fmul (fadd (fmul (4606057067071350164) z) 4625241160085635194) z) 4634978674960499315) z) 4638347797471803941) z) 4634263845411024014 < INF := Nat.lt_of_le_of_lt p4.2.2 (by decide)
  have q0 : fadd z 4627690253511319612 ≤ 4627848583185719356 := Nat.le_trans (fadd_mono hZ (by decide) hz (Nat.le_refl _)) (by decide +kernel)
  have q1 := horner (u := fadd z 4627690253511319612) (c := 4640010388282866213) (U1 := 4627848583185719356) (R := 4640513499919837417) q0 hz (by decide) hZ (by decide) (by decide +kernel) (by decide +kernel)
  have q2 := horner (u := fadd (fmul (fadd z 4627690253511319612) z) 4640010388282866213) (c := 4646322940342877755) (U1 := 4640513499919837417) (R := 4647906148991495646) q1.2.2 hz (by decide) hZ (by decide) (by decide +kernel) (by decide +kernel)
  have q3 := horner (u := fadd (fmul (fadd (fmul (fadd z 4627690253511319612) z) 4640010388282866213) z) 4646322940342877755) (c := 4647246694406179306) (U1 := 4647906148991495646) (R := 4650121654835804866) q2.2.2 hz (by decide) hZ (by decide) (by decide +kernel) (by decide +kernel)
  have q4 := horner (u := fadd (fmul (fadd (fmul (fadd (fmul (fadd z 4627690253511319612) z) 4640010388282866213) z) 4646322940342877755) z) 4647246694406179306) (c := 4641049159275471596) (U1 := 4650121654835804866) (R := 4648809623443752392) q3.2.2 hz (by decide) hZ (by decide) (by decide +kernel) (by decide +kernel)
  have hzf : z < INF := by omega
  have hp : pN z ≤ 4639857105318598469 := p4.2.2
  have hq : 4641049159275471596 ≤ qN z := q4.2.1
  have hqf : qN z < INF := Nat.lt_of_le_of_lt q4.2.2 (by decide)
  have hm : fmul z (pN z) ≤ 4636060141785522734 := Nat.le_trans (fmul_mono hZ (by decide) hz hp) (by decide +kernel)
  have hmf : fmul z (pN z) < INF := Nat.lt_of_le_of_lt hm (by decide)
  constructor
  · unfold xatanZ
    rw [n0, n1, n2, n3, n4, fmul_NP (by decide) hzf, fadd_NN p1.1 (by decide), fmul_NP pf1 hzf, fadd_NN p2.1 (by decide), fmul_NP pf2 hzf, fadd_NN p3.1 (by decide), fmul_NP pf3 hzf, fadd_NN p4.1 (by decide)]
    show fdiv (fmul z (N (pN z))) (qN z) = _
    rw [fmul_PN hzf (show pN z < INF from pf4), fdiv_NP hmf hqf (Nat.lt_of_lt_of_le (by decide) hq)]
    rfl
  · exact Nat.le_trans (fdiv_mono (b' := 4641049159275471596) (by decide) hqf (by decide) hm hq) (by decide +kernel)

theorem X1_fin : X1 < INF := by decide

/-- The rational function at a positive number up to 3/4: between 0 and it. -/
theorem xatan_eq {a : Nat} (ha : a ≤ X1) : fmul a a ≤ Z1 ∧ xatanF a = fsub a (fmul a (zz (fmul a a))) ∧ fmul a (zz (fmul a a)) ≤ a := by
  have hX := X1_fin
  have haf : a < INF := by omega
  have hz : fmul a a ≤ Z1 := Nat.le_trans (fmul_mono hX hX ha ha) (by decide +kernel)
  obtain ⟨h1, h2⟩ := xatanZ_eq hz
  have hH : HALF < INF := by decide
  have hzf : zz (fmul a a) < INF := by omega
  have hle : fmul a (zz (fmul a a)) ≤ a := by
    by_cases h0 : a = 0
    · subst h0
      have := fmul_mono (a := 0) (a' := 0) (by decide) hH (Nat.le_refl 0) h2
      have e : fmul 0 HALF = 0 := by decide +kernel
      omega
    · exact Nat.le_of_lt (fmul_half_lt haf (by omega) h2)
  refine ⟨hz, ?_, hle⟩
  unfold xatanF
  rw [h1, fmul_PN haf hzf, fadd_NP (by omega) haf]

theorem xatan_le {a : Nat} (ha : a ≤ X1) : xatanF a ≤ a := by
  obtain ⟨_, h, hle⟩ := xatan_eq ha
  have hX := X1_fin
  rw [h]; exact fsub_le (by omega) hle

theorem xatan_pos {a : Nat} (ha : a ≤ X1) (h0 : 0 < a) : 0 < xatanF a := by
  obtain ⟨hz, h, hle⟩ := xatan_eq ha
  have hX := X1_fin
  obtain ⟨_, h2⟩ := xatanZ_eq hz
  rw [h]; exact fsub_pos (by omega) (fmul_half_lt (by omega) h0 h2)

theorem xatan_neg {a : Nat} (ha : a ≤ X1) (h0 : 0 < a) : xatanF (N a) = N (xatanF a) := by
  obtain ⟨hz, h, hle⟩ := xatan_eq ha
  have hX := X1_fin
  have haf : a < INF := by omega
  obtain ⟨h1, h2⟩ := xatanZ_eq hz
  have hH : HALF < INF := by decide
  have hlt := fmul_half_lt haf h0 h2
  rw [h]
  unfold xatanF
  rw [fmul_NN haf haf, h1, fmul_NN haf (by omega), fadd_PN (by omega) haf, fsub_lt_neg haf hlt]

theorem xatan_zero : xatanF 0 = 0 := by decide +kernel

def X0 : Nat := 4604119971053405471
def TAN : Nat := 4612618744449965542
/-- Above the middle piece's values, below Pi/2. -/
def MID : Nat := 4609659398595071181

/-- The middle piece. -/
theorem satan_mid {a : Nat} (h1 : X0 < a) (h2 : a ≤ TAN) :
    4603241769126068224 ≤ fadd (fadd 4605249457297304856 (xatanF (fdiv (fsub a one) (fadd a one)))) 4359948597267291143 ∧
      fadd (fadd 4605249457297304856 (xatanF (fdiv (fsub a one) (fadd a one)))) 4359948597267291143 ≤ MID := by
  have hT : TAN < INF := by decide
  have hO := ONE_lt
  have haf : a < INF := by omega
  rw [one_eq]
  have hd1 : fadd a ONE ≤ fadd TAN ONE := fadd_mono hT hO h2 (Nat.le_refl _)
  have hdf : fadd a ONE < INF := Nat.lt_of_le_of_lt hd1 (by decide +kernel)
  by_cases hc : ONE ≤ a
  · -- above 1
    have hd2 : fadd ONE ONE ≤ fadd a ONE := fadd_mono haf hO hc (Nat.le_refl _)
    have hn : fsub a ONE ≤ fsub TAN ONE := fsub_mono hT hc h2 (Nat.le_refl _)
    have ht : fdiv (fsub a ONE) (fadd a ONE) ≤ X1 :=
      Nat.le_trans (fdiv_mono (a' := fsub TAN ONE) (b' := fadd ONE ONE) (by decide +kernel) hdf (by decide +kernel) hn hd2) (by decide +kernel)
    have hv := xatan_le ht
    have hX := X1_fin
    have hs : fadd 4605249457297304856 (xatanF (fdiv (fsub a ONE) (fadd a ONE))) ≤ fadd 4605249457297304856 X1 := fadd_mono (by decide) hX (Nat.le_refl _) (by omega)
    have hsf : fadd 4605249457297304856 (xatanF (fdiv (fsub a ONE) (fadd a ONE))) < INF := Nat.lt_of_le_of_lt hs (by decide +kernel)
    have hg := fadd_ge (a := 4605249457297304856) (by decide) (show xatanF (fdiv (fsub a ONE) (fadd a ONE)) < INF by omega)
    constructor
    · exact Nat.le_trans (Nat.le_trans (by decide) hg) (fadd_ge hsf (by decide))
    · exact Nat.le_trans (fadd_mono (a' := fadd 4605249457297304856 X1) (by decide +kernel) (by decide) hs (Nat.le_refl _)) (by decide +kernel)
  · -- below 1
    have hc' : a < ONE := by omega
    have hX0 : fsub ONE a ≤ fsub ONE X0 := fsub_mono hO (by omega) (Nat.le_refl _) (by omega)
    have hnf : fsub ONE a < INF := Nat.lt_of_le_of_lt hX0 (by decide +kernel)
    have hd2 : fadd X0 ONE ≤ fadd a ONE := fadd_mono haf hO (by omega) (Nat.le_refl _)
    have hdp : 0 < fadd a ONE := Nat.lt_of_lt_of_le (by decide +kernel) hd2
    rw [fsub_lt_neg hO hc', fdiv_NP hnf hdf hdp]
    have ht : fdiv (fsub ONE a) (fadd a ONE) ≤ 4597000000000000000 :=
      Nat.le_trans (fdiv_mono (a' := fsub ONE X0) (b' := fadd X0 ONE) (by decide +kernel) hdf (by decide +kernel) hX0 hd2) (by decide +kernel)
    have hX1 : (4597000000000000000 : Nat) ≤ X1 := by decide
    have hX := X1_fin
    generalize fdiv (fsub ONE a) (fadd a ONE) = t at *
    have key : ∃ v, v ≤ 4597000000000000000 ∧ fadd 4605249457297304856 (xatanF (N t)) = fsub 4605249457297304856 v := by
      by_cases h0 : t = 0
      · subst h0; exact ⟨0, by decide, by decide +kernel⟩
      · have := xatan_le (show t ≤ X1 by omega)
        exact ⟨xatanF t, by omega, by rw [xatan_neg (by omega) (by omega), fadd_PN (by decide) (by omega)]⟩
    obtain ⟨v, hv, he⟩ := key
    rw [he]
    have hlo : fsub 4605249457297304856 4597000000000000000 ≤ fsub 4605249457297304856 v := fsub_mono (by decide) (by decide) (Nat.le_refl _) hv
    have hhi : fsub 4605249457297304856 v ≤ 4605249457297304856 := fsub_le (by decide) (by omega)
    have hsf : fsub 4605249457297304856 v < INF := Nat.lt_of_le_of_lt hhi (by decide)
    constructor
    · exact Nat.le_trans (Nat.le_trans (by decide +kernel) hlo) (fadd_ge hsf (by decide))
    · exact Nat.le_trans (fadd_mono (a' := 4605249457297304856) (by decide) (by decide) hhi (Nat.le_refl _)) (by decide +kernel)

/-- The last piece. -/
theorem satan_far {a : Nat} (h1 : TAN < a) (h2 : a ≤ INF) :
    4603241769126068224 ≤ fadd (fsub 4609753056924675352 (xatanF (fdiv one a))) 4364452196894661639 ∧
      fadd (fsub 4609753056924675352 (xatanF (fdiv one a))) 4364452196894661639 ≤ 4609753056924675352 := by
  have hO := ONE_lt
  have hT : TAN < INF := by decide
  rw [one_eq]
  have ht : fdiv ONE a ≤ X1 := by
    by_cases hI : a = INF
    · subst hI; decide +kernel
    · exact Nat.le_trans (fdiv_mono (a' := ONE) (b' := TAN) hO (by omega) (by decide) (Nat.le_refl _) (by omega)) (by decide +kernel)
  have hv := xatan_le ht
  have hX : X1 < 4609753056924675352 := by decide
  have hs : fsub 4609753056924675352 (xatanF (fdiv ONE a)) ≤ 4609753056924675352 := fsub_le (by decide) (by omega)
  have hs2 : fsub 4609753056924675352 X1 ≤ fsub 4609753056924675352 (xatanF (fdiv ONE a)) := fsub_mono (by decide) (by omega) (Nat.le_refl _) (by omega)
  have hsf : fsub 4609753056924675352 (xatanF (fdiv ONE a)) < INF := Nat.lt_of_le_of_lt hs (by decide)
  constructor
  · exact Nat.le_trans (Nat.le_trans (by decide +kernel) hs2) (fadd_ge hsf (by decide))
  · exact Nat.le_trans (fadd_mono (a' := 4609753056924675352) (by decide) (by decide) hs (Nat.le_refl _)) (by decide +kernel)

theorem satan_split {a : Nat} (h : a ≤ INF) : satanF a = if a ≤ X0 then xatanF a
    else if TAN < a then fadd (fsub 4609753056924675352 (xatanF (fdiv one a))) 4364452196894661639
    else fadd (fadd 4605249457297304856 (xatanF (fdiv (fsub a one) (fadd a one)))) 4359948597267291143 := by
  unfold satanF
  have e1 := fle_pos false a X0 h (by decide)
  have e2 := fgt_pos false a TAN h (by decide)
  rw [word_false] at e1 e2
  rw [show fle a 4604119971053405471 = fle a X0 from rfl, show fgt a 4612618744449965542 = fgt a TAN from rfl, e1, e2]
  simp

theorem satan_pos {a : Nat} (h : a ≤ INF) (h0 : 0 < a) : 0 < satanF a := by
  rw [satan_split h]
  have hX : X0 ≤ X1 := by decide
  split
  · exact xatan_pos (by omega) h0
  · split
    · exact Nat.lt_of_lt_of_le (by decide) (satan_far (by omega) h).1
    · exact Nat.lt_of_lt_of_le (by decide) (satan_mid (by omega) (by omega)).1

theorem satan_le {a : Nat} (h : a ≤ INF) : satanF a ≤ cHalf := by
  rw [satan_split h]
  have hX : X0 ≤ X1 := by decide
  have hXH : X0 ≤ cHalf := by decide
  split
  · have := xatan_le (show a ≤ X1 by omega); omega
  · split
    · exact (satan_far (by omega) h).2
    · exact Nat.le_trans (satan_mid (by omega) (by omega)).2 (by decide)

theorem satan_zero : satanF 0 = 0 := by decide +kernel

/-- Up to tan (3 Pi / 8) the result is less than Pi/2. -/
theorem satan_lt {a : Nat} (h : a ≤ TAN) : satanF a < cHalf := by
  have hT : TAN < INF := by decide
  rw [satan_split (by omega)]
  have hX : X0 ≤ X1 := by decide
  have hXH : X0 < cHalf := by decide
  split
  · have := xatan_le (show a ≤ X1 by omega); omega
  · rw [if_neg (by omega)]
    exact Nat.lt_of_le_of_lt (satan_mid (by omega) (by omega)).2 (by decide)

/-- The arc tangent, sign and size. -/
theorem atan_word (s : Bool) {a : Nat} (h : a ≤ INF) : atanF (double.word s a) = double.word s (satanF a) := by
  unfold atanF
  rw [feq_zero s a h, fgt_zero s a h]
  by_cases h0 : a = 0
  · subst h0; rw [satan_zero]; simp
  · have h1 : 0 < a := by omega
    have hs := satan_le h
    have hH : cHalf < SGN := by decide
    cases s
    · simp [h0, h1]; rfl
    · rw [fneg_word true a (INF_lt' h)]
      have := fneg_word false (satanF a) (by omega)
      simp [h0]
      exact this

theorem satan_INF {a : Nat} (h : a ≤ INF) : satanF a ≤ INF := Nat.le_trans (satan_le h) (by decide)

theorem atan_nan {x : Nat} (h : nan x = true) : nan (atanF x) = true := by
  have hn : nan (fneg x) = true := by rw [nan_fneg]; exact h
  unfold atanF
  rw [order_nan_feq _ h, order_nan_fgt _ h]
  have key : ∀ y, nan y = true → satanF y = cnan := by
    intro y hy
    unfold satanF
    rw [order_nan_fle _ hy, order_nan_fgt _ hy]
    have e : fsub y one = cnan := by
      obtain ⟨s, t, hr⟩ := nan_read hy
      unfold fsub Format.sub; rw [hr, sum_nan_l]; rfl
    rw [e]
    have e2 : fdiv cnan (fadd y one) = cnan := by
      obtain ⟨s, t, hr⟩ := nan_read nan_cnan
      unfold fdiv Format.div; rw [hr, quotient_nan_l]; rfl
    rw [e2]
    simp only [Bool.false_eq_true, if_false]
    decide +kernel
  simp only [Bool.false_eq_true, if_false]
  rw [key _ hn, nan_fneg]; exact nan_cnan

end Go.Proofs.YtgbdplmpojkklaaDoor
