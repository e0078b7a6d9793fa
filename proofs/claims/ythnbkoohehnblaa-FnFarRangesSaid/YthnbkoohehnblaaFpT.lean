/-
The logarithms are positive and finite where Asinh, Acosh and Atanh call them.
-/
import Derived.Test.YthnbkoohehnblaaFpS
import Derived.Test.YthnbkoohehnblaaFpJ
namespace Go.Proofs.Ythnbkoohehnblaa
open Ieee

theorem sv_fi {n : Nat} (h : n ≤ 2147483648) : sv (fi n) = ((n * U : Nat) : Int) ∧ Fw (fi n) := by
  obtain ⟨h1, h2⟩ := fi_V h
  have hI := INF_lt_SGN
  have := sv_word false (fi n) (by omega)
  rw [word_false] at this
  rw [this, SV_false, h1]
  exact ⟨rfl, false, fi n, h2, (word_false _).symm⟩

theorem ofI_nat {n : Nat} : ofI (n : Int) = fi n := by
  rw [ofI_word]
  have : decide ((n : Int) < 0) = false := by simp
  rw [this, word_false, Int.natAbs_natCast]

/-- A whole number from 1 to 1024. -/
theorem ofI_in {n : Int} (h1 : 1 ≤ n) (h2 : n ≤ 1024) : In (ofI n) 4607182418800017408 4652218415073722368 := by
  obtain ⟨m, rfl⟩ := Int.eq_ofNat_of_zero_le (show 0 ≤ n by omega)
  rw [ofI_nat]
  obtain ⟨e, hf⟩ := sv_fi (n := m) (by omega)
  have e1 : sv 4607182418800017408 = ((1 * U : Nat) : Int) := by decide +kernel
  have e2 : sv 4652218415073722368 = ((1024 * U : Nat) : Int) := by decide +kernel
  refine ⟨hf, ?_, ?_⟩
  · rw [e, e1]; exact Int.ofNat_le.2 (Nat.mul_le_mul_right _ (by omega))
  · rw [e, e2]; exact Int.ofNat_le.2 (Nat.mul_le_mul_right _ (by omega))

theorem In.ofPos {y c d : Nat} (h1 : c ≤ y) (h2 : y ≤ d) (hd : d < INF) : In y c d := by
  have hI := INF_lt_SGN
  have e : ∀ z, z < INF → sv z = V z := fun z hz => sv_word false z (by omega)
  refine ⟨⟨false, y, by omega, (word_false _).symm⟩, ?_, ?_⟩
  · rw [e c (by omega), e y (by omega)]; have := V_le h1; omega
  · rw [e d hd, e y (by omega)]; have := V_le h2; omega

theorem log_in {x : Nat} (h1 : TWO ≤ x) (h2 : x < INF) : In (logF x) 4598175219545276416 4649544402794971136 := by
  have hT : TWO = 4611686018427387904 := rfl
  have hI : INF = 9218868437227405312 := rfl
  have e : logF x = logMain x := by
    unfold logF
    rw [if_neg (by omega), if_neg (by omega), if_neg (by omega)]
  rw [e]
  have hm := Nat.mod_lt x (show 0 < 2 ^ 52 by decide)
  have hn : (1 : Int) ≤ Int.ofNat (x / 2 ^ 52) - 0x3FE ∧ Int.ofNat (x / 2 ^ 52) - 0x3FE ≤ 1024 ∧ 2 ≤ Int.ofNat (x / 2 ^ 52) - 0x3FE := by
    have e52 : (2 : Nat) ^ 52 = 4503599627370496 := by decide
    rw [e52]
    have : Int.ofNat (x / 4503599627370496) = ((x / 4503599627370496 : Nat) : Int) := rfl
    omega
  have hmain : logMain x = logCore (fsub (logK x) (if !flt 0x3FE6A09E667F3BCD (x % 2 ^ 52 + 0x3FE0000000000000) then one else 0))
      (fsub (fmul (x % 2 ^ 52 + 0x3FE0000000000000) (fadd (if !flt 0x3FE6A09E667F3BCD (x % 2 ^ 52 + 0x3FE0000000000000) then one else 0) one)) one) := rfl
  rw [hmain]
  have hk0 : In (logK x) 4611686018427387904 4652218415073722368 := by
    have h := ofI_in hn.1 hn.2.1
    refine ⟨h.1, ?_, h.2.2⟩
    show sv 4611686018427387904 ≤ sv (ofI (Int.ofNat (x / 2 ^ 52) - 0x3FE))
    obtain ⟨m, hm'⟩ := Int.eq_ofNat_of_zero_le (show 0 ≤ Int.ofNat (x / 2 ^ 52) - 0x3FE by omega)
    rw [hm', ofI_nat, (sv_fi (n := m) (by omega)).1]
    have e1 : sv 4611686018427387904 = ((2 * U : Nat) : Int) := by decide +kernel
    rw [e1]; exact Int.ofNat_le.2 (Nat.mul_le_mul_right _ (by omega))
  have e52 : (2 : Nat) ^ 52 = 4503599627370496 := by decide
  rw [e52] at hm
  rw [e52]
  generalize hf1 : x % 4503599627370496 + 0x3FE0000000000000 = f1 at *
  have b1 : 0x3FE0000000000000 ≤ f1 := by omega
  have b2 : f1 ≤ 4607182418800017407 := by omega
  have hfl := flt_word false false 0x3FE6A09E667F3BCD f1 (by decide) (by omega)
  rw [word_false, word_false] at hfl
  have hone : one = 4607182418800017408 := rfl
  by_cases hs : 0x3FE6A09E667F3BCD < f1
  · have ht : flt 0x3FE6A09E667F3BCD f1 = true := by
      rw [hfl]; have := V_lt hs; simp [SV]; omega
    rw [ht]
    simp only [Bool.not_true, Bool.false_eq_true, if_false]
    have e0 : fadd 0 one = 4607182418800017408 := by decide +kernel
    rw [e0, hone]
    have i1 : In f1 4604544271217802189 4607182418800017407 := In.ofPos (by omega) b2 (by decide)
    have i2 : In (fmul f1 4607182418800017408) 4604544271217802189 4607182418800017407 := In_mul i1 (In.const (Fw.of (by decide +kernel))) (Fw.of (by decide +kernel)) (Fw.of (by decide +kernel)) (Fw.of (by decide +kernel)) (Fw.of (by decide +kernel)) (Fw.of (by decide +kernel)) (Fw.of (by decide +kernel)) (by decide +kernel) (by decide +kernel) (by decide +kernel) (by decide +kernel) (by decide +kernel) (by decide +kernel) (by decide +kernel) (by decide +kernel)
    have i3 : In (fsub (fmul f1 4607182418800017408) 4607182418800017408) 13822319951937112166 13591863675404156928 := In_sub i2 (In.const (Fw.of (by decide +kernel))) (Fw.of (by decide +kernel)) (Fw.of (by decide +kernel)) (Fw.of (by decide +kernel)) (Fw.of (by decide +kernel)) (by decide +kernel) (by decide +kernel) (Fw.of (by decide +kernel)) (Fw.of (by decide +kernel))
    have i4 : In (fsub (logK x) 0) 4611686018427387904 4652218415073722368 := In_sub hk0 (In.const (Fw.of (by decide +kernel))) (Fw.of (by decide +kernel)) (Fw.of (by decide +kernel)) (Fw.of (by decide +kernel)) (Fw.of (by decide +kernel)) (by decide +kernel) (by decide +kernel) (Fw.of (by decide +kernel)) (Fw.of (by decide +kernel))
    obtain ⟨y, hy, hin⟩ := log_core (i4.mono (by decide +kernel) (by omega)) (i3.mono (by decide +kernel) (by decide +kernel))
    rw [← hy]; exact hin.mono (by decide +kernel) (by decide +kernel)
  · have ht : flt 0x3FE6A09E667F3BCD f1 = false := by
      rw [hfl]; have := V_le (show f1 ≤ 0x3FE6A09E667F3BCD by omega); simp [SV]; omega
    rw [ht]
    simp only [Bool.not_false, if_true]
    have e0 : fadd one one = 4611686018427387904 := by decide +kernel
    rw [e0, hone]
    have i1 : In f1 4602678819172646912 4604544271217802189 := In.ofPos (by omega) (by omega) (by decide)
    have i2 : In (fmul f1 4611686018427387904) 4607182418800017408 4609047870845172685 := In_mul i1 (In.const (Fw.of (by decide +kernel))) (Fw.of (by decide +kernel)) (Fw.of (by decide +kernel)) (Fw.of (by decide +kernel)) (Fw.of (by decide +kernel)) (Fw.of (by decide +kernel)) (Fw.of (by decide +kernel)) (by decide +kernel) (by decide +kernel) (by decide +kernel) (by decide +kernel) (by decide +kernel) (by decide +kernel) (by decide +kernel) (by decide +kernel)
    have i3 : In (fsub (fmul f1 4611686018427387904) 4607182418800017408) 0 4601133428098527028 := In_sub i2 (In.const (Fw.of (by decide +kernel))) (Fw.of (by decide +kernel)) (Fw.of (by decide +kernel)) (Fw.of (by decide +kernel)) (Fw.of (by decide +kernel)) (by decide +kernel) (by decide +kernel) (Fw.of (by decide +kernel)) (Fw.of (by decide +kernel))
    have i4 : In (fsub (logK x) 4607182418800017408) 4607182418800017408 4652209618980700160 := In_sub hk0 (In.const (Fw.of (by decide +kernel))) (Fw.of (by decide +kernel)) (Fw.of (by decide +kernel)) (Fw.of (by decide +kernel)) (Fw.of (by decide +kernel)) (by decide +kernel) (by decide +kernel) (Fw.of (by decide +kernel)) (Fw.of (by decide +kernel))
    obtain ⟨y, hy, hin⟩ := log_core (i4.mono (by omega) (by decide +kernel)) (i3.mono (by decide +kernel) (by decide +kernel))
    rw [← hy]; exact hin.mono (by decide +kernel) (by decide +kernel)

-- THE CORRECTION TERM OF LOG1P
theorem Rn.err {n r : Nat} (h : Rn n 1 r) (hr : B ≤ r) (hI : r < INF) : 2 * V r ≤ 2 * n + 2 ^ pl r ∧ 2 * n ≤ 2 * V r + 2 ^ pl r ∧ B * 2 ^ pl r ≤ V r := by
  have hB := B_pos
  have h1 := (h.2.2 r hI).1 (Nat.le_refl _)
  have h2 := (h.2.2 (r - 1) (by omega))
  have e1 : M r = 2 * V r + 2 ^ pl r := by unfold M; rw [V_step]; show V r + (V r + 2 ^ pl r) = _; omega
  have e2 : V r = V (r - 1) + 2 ^ pl (r - 1) := by
    have := V_step (r - 1); rw [show r - 1 + 1 = r by omega] at this; exact this
  have e3 : (2 : Nat) ^ pl (r - 1) ≤ 2 ^ pl r := Nat.pow_le_pow_right (by omega) (by unfold pl; have := Nat.div_le_div_right (c := B) (show r - 1 ≤ r by omega); omega)
  have e4 : M (r - 1) = V (r - 1) + V r := by unfold M; rw [show r - 1 + 1 = r by omega]
  refine ⟨?_, ?_, ?_⟩
  · have : ¬ (2 * n < M (r - 1) * 1) := fun hh => by have := h2.2 (.inl hh); omega
    rw [Nat.mul_one] at this; omega
  · rcases h1 with h1 | ⟨h1, _⟩ <;> rw [Nat.mul_one] at h1 <;> omega
  · rw [V_eq]
    refine Nat.mul_le_mul_right _ ?_
    unfold mg; rw [if_neg (by omega)]; omega

theorem V_sub_kB (k : Nat) : ∀ u : Nat, (k + 1) * B ≤ u → 2 ^ k * V (u - k * B) = V u := by
  induction k with
  | zero => intro u _; simp
  | succ n ih =>
    intro u h
    have hB := B_pos
    have e1 : (n + 1 + 1) * B = (n + 1) * B + B := by rw [Nat.add_mul, Nat.one_mul]
    have e2 : (n + 1) * B = n * B + B := by rw [Nat.add_mul, Nat.one_mul]
    have h1 := ih (u - B) (by omega)
    have h2 := V_sub_B (u := u) (by omega)
    rw [show u - (n + 1) * B = u - B - n * B by omega, Nat.pow_succ, Nat.mul_right_comm, h1, Nat.mul_comm]; exact h2


theorem RnS.exact {x : Nat} (h : Fw x) : RnS (Go.Proofs.Ythnbkoohehnblaa.sv x) 1 x := by
  obtain ⟨s, r, hr, rfl⟩ := h
  have hI := INF_lt_SGN
  rw [sv_word s r (by omega)]
  refine ⟨s, r, rfl, ?_, ?_, ?_⟩
  · have e : (SV s r).natAbs = V r := by cases s <;> simp [SV]
    rw [e]; exact Rn.exact r (by omega)
  · cases s
    · intro hz; simp [SV] at hz; omega
    · intro _; rfl
  · cases s
    · intro _; rfl
    · intro hz; simp [SV] at hz; omega
theorem sv_nat {x : Nat} (h : x < INF) : sv x = V x := by
  have hI := INF_lt_SGN
  exact sv_word false x (by omega)
theorem Fw.nat {x : Nat} (h : x < INF) : Fw x := ⟨false, x, h, (word_false _).symm⟩
/-- A rounded number lies between the format's numbers around it. -/
theorem RnS.btw {Z : Int} {y L H : Nat} (h : RnS Z 1 y) (fL : Fw L) (fH : Fw H) (h1 : Go.Proofs.Ythnbkoohehnblaa.sv L ≤ Z) (h2 : Z ≤ Go.Proofs.Ythnbkoohehnblaa.sv H) : In y L H :=
  h.inn (RnS.exact fL) (RnS.exact fH) (by omega) (by omega) fL fH

def A0 : Nat := 4601133428098527026
def P53 : Nat := 4845873199050653696
def W32 : Nat := 4629700416936869888

theorem pow_pl_le {u v : Nat} (h : u ≤ v) : 2 ^ pl u ≤ 2 ^ pl v :=
  Nat.pow_le_pow_right (by omega) (by unfold pl; have := Nat.div_le_div_right (c := B) h; omega)

/-- The correction term is small. -/
theorem l1C_big {a u : Nat} (h2 : a < P53) (hu : u = fadd ONE a) (h3 : TWO ≤ u) : In (fdiv (fsub ONE (fsub u a)) u) 13808036457517940736 4584664420663164928 := by
  have hO := ONE_lt
  have hP : P53 < INF := by decide
  have hT : TWO < INF := by decide
  have hR := fadd_Rn hO (show a < INF by omega)
  rw [← hu] at hR
  have huP : u ≤ P53 := by
    rw [hu]; exact Nat.le_trans (fadd_mono (a' := ONE) (b' := P53 - 1) hO (by omega) (Nat.le_refl _) (by omega)) (by decide +kernel)
  have hua : a ≤ u := by
    rw [hu]
    have := fadd_mono (a := 0) hO (show a < INF by omega) (Nat.zero_le _) (Nat.le_refl a)
    rw [fadd_zero_l (by omega)] at this; exact this
  obtain ⟨e1, e2, _⟩ := hR.err (Nat.le_trans (by decide) h3) (by omega)
  rw [V_ONE] at e1 e2
  have hv := fsub_Rn (show u < INF by omega) hua
  have hle := V_le hua
  by_cases h32 : W32 ≤ u
  · have hp : 2 ^ pl u ≤ 2 * U := Nat.le_trans (pow_pl_le huP) (by decide +kernel)
    have hvT : fsub u a ≤ TWO := hv.mono (Rn.exact TWO (by omega)) (by rw [show V TWO = 2 * U by decide +kernel]; omega)
    have i1 : In (fsub u a) 0 4611686018427387904 := In.ofPos (Nat.zero_le _) hvT (by decide)
    have i2 : In (fsub ONE (fsub u a)) 13830554455654793216 4607182418800017408 := In_sub (In.const (Fw.of (by decide +kernel))) i1 (Fw.of (by decide +kernel)) (Fw.of (by decide +kernel)) (Fw.of (by decide +kernel)) (Fw.of (by decide +kernel)) (by decide +kernel) (by decide +kernel) (Fw.of (by decide +kernel)) (Fw.of (by decide +kernel))
    exact In_div i2 (c := W32) (d := P53) (by decide) h32 huP hP (Fw.of (by decide +kernel)) (Fw.of (by decide +kernel)) (Fw.of (by decide +kernel)) (Fw.of (by decide +kernel)) (by decide +kernel) (by decide +kernel) (by decide +kernel) (by decide +kernel)
  · have hp : 2 ^ pl u ≤ 2 ^ pl (W32 - 1) := pow_pl_le (by omega)
    have hq : 2 ^ pl (W32 - 1) * 281474976710656 = U := by decide +kernel
    have i0 : RnS (V u - V a : Nat) 1 (fsub u a) := ⟨false, _, (word_false _).symm, by rw [Int.natAbs_natCast]; exact hv, fun h => absurd h (Int.not_lt.2 (Int.natCast_nonneg _)), fun _ => rfl⟩
    have i1 : In (fsub u a) 4607182418800017376 4607182418800017424 := by
      refine i0.btw (Fw.of (by decide +kernel)) (Fw.of (by decide +kernel)) ?_ ?_
      · rw [show sv 4607182418800017376 = ((281474976710655 * 2 ^ pl (W32 - 1) : Nat) : Int) by decide +kernel]; omega
      · rw [show sv 4607182418800017424 = ((281474976710657 * 2 ^ pl (W32 - 1) : Nat) : Int) by decide +kernel]; omega
    have i2 : In (fsub ONE (fsub u a)) 13614381673541009408 4391009636686233600 := In_sub (In.const (Fw.of (by decide +kernel))) i1 (Fw.of (by decide +kernel)) (Fw.of (by decide +kernel)) (Fw.of (by decide +kernel)) (Fw.of (by decide +kernel)) (by decide +kernel) (by decide +kernel) (Fw.of (by decide +kernel)) (Fw.of (by decide +kernel))
    exact In_div i2 (c := TWO) (d := W32) (by decide) h3 (by omega) (by decide) (Fw.of (by decide +kernel)) (Fw.of (by decide +kernel)) (Fw.of (by decide +kernel)) (Fw.of (by decide +kernel)) (by decide +kernel) (by decide +kernel) (by decide +kernel) (by decide +kernel)

theorem l1C_low {a u : Nat} (h2 : a < P53) (hu : u = fadd ONE a) (h3 : u < TWO) : In (fdiv (fsub a (fsub u ONE)) u) 13808036457517940736 4584664420663164928 := by
  have hO := ONE_lt
  have hP : P53 < INF := by decide
  have hT : TWO < INF := by decide
  have hR := fadd_Rn hO (show a < INF by omega)
  rw [← hu] at hR
  have hu1 : ONE ≤ u := by rw [hu]; exact fadd_ge hO (by omega)
  obtain ⟨e1, e2, _⟩ := hR.err (Nat.le_trans (by decide) hu1) (by omega)
  rw [V_ONE] at e1 e2
  have hv := fsub_Rn (show u < INF by omega) hu1
  have hle := V_le hu1
  have hp : 2 ^ pl u = 2 ^ pl ONE := Nat.le_antisymm (Nat.le_trans (pow_pl_le (show u ≤ TWO - 1 by omega)) (by decide +kernel)) (pow_pl_le hu1)
  have hpl : pl u = pl ONE := by
    rcases Nat.lt_trichotomy (pl u) (pl ONE) with h | h | h
    · have := Nat.pow_lt_pow_right (a := 2) (by omega) h; omega
    · exact h
    · have := Nat.pow_lt_pow_right (a := 2) (by omega) h; omega
  have hex : V (fsub u ONE) = V u - V ONE := by
    have hm := mg_lt u
    have e3 : V u - V ONE = (mg u - B) * 2 ^ pl u := by
      rw [V_eq u, V_eq ONE, ← hpl, Nat.sub_mul, show mg ONE = B by decide +kernel]
    obtain ⟨r, hr, hb⟩ := repr_of (mg u - B) (pl u) (by omega)
    have hrI : r < INF := by
      have : pl u * B + 2 * B < INF := by rw [hpl]; decide +kernel
      omega
    have : fsub u ONE = r := hv.unique (Rn.exact r (by omega)) (by rw [hr, e3])
    rw [this, hr, e3]
  have hvf : fsub u ONE < INF := Nat.lt_of_le_of_lt (fsub_le (by omega) hu1) (by omega)
  have hq : 2 ^ pl ONE * 4503599627370496 = U := by decide +kernel
  rw [V_ONE] at hex hle
  have i1 : In (fsub a (fsub u ONE)) 13596367275031527424 4372995238176751616 := by
    refine (fsub_RnS (Fw.nat (by omega)) (Fw.nat hvf)).btw (Fw.of (by decide +kernel)) (Fw.of (by decide +kernel)) ?_ ?_
    · rw [sv_nat (show a < INF by omega), sv_nat hvf, hex, show sv 13596367275031527424 = -((2 ^ pl ONE : Nat) : Int) by decide +kernel]; omega
    · rw [sv_nat (show a < INF by omega), sv_nat hvf, hex, show sv 4372995238176751616 = ((2 ^ pl ONE : Nat) : Int) by decide +kernel]; omega
  exact In_div i1 (c := ONE) (d := TWO) (by decide) hu1 (by omega) (by decide) (Fw.of (by decide +kernel)) (Fw.of (by decide +kernel)) (Fw.of (by decide +kernel)) (Fw.of (by decide +kernel)) (by decide +kernel) (by decide +kernel) (by decide +kernel) (by decide +kernel)

theorem l1K_pos {u : Nat} : 0 < l1K u ↔ TWO ≤ u := by
  have hT : TWO = 4611686018427387904 := rfl
  unfold l1K; omega
theorem l1C_in {a : Nat} (h2 : a < P53) : In (l1C (decide (0 < l1K (fadd ONE a))) a (fadd ONE a)) 13808036457517940736 4584664420663164928 := by
  have hP : P53 < INF := by decide
  have hu : fadd ONE a ≤ P53 := Nat.le_trans (fadd_mono (a' := ONE) (b' := P53 - 1) ONE_lt (by omega) (Nat.le_refl _) (by omega)) (by decide +kernel)
  unfold l1C
  have hk := l1K_pos (u := fadd ONE a)
  by_cases h : TWO ≤ fadd ONE a
  · rw [decide_eq_true (hk.2 h)]; exact l1C_big h2 rfl h
  · rw [decide_eq_false (fun hh => h (hk.1 hh))]; exact l1C_low h2 rfl (by omega)

theorem l1M_in {c m : Nat} {k : Int} (hc : In c 13808036457517940736 4584664420663164928) (hm : m < 4503599627370496) (hk0 : 0 ≤ k) (hk1 : k ≤ 1023) (h : 1 ≤ k ∨ 1865452045155277 ≤ m) : In (l1M c m k) 4598175219545276416 4649544402794971136 := by
  unfold l1M
  by_cases hlt : m < 1865452045155277
  · rw [if_pos hlt]
    have hk : (k == 0) = false := by simp; omega
    rw [hk]
    have i1 : In (4607182418800017408 + m) 4607182418800017408 4609047870845172685 := In.ofPos (by omega) (by omega) (by decide)
    have i2 : In (fsub (4607182418800017408 + m) 4607182418800017408) 0 4601133428098527028 := In_sub i1 (In.const (Fw.of (by decide +kernel))) (Fw.of (by decide +kernel)) (Fw.of (by decide +kernel)) (Fw.of (by decide +kernel)) (Fw.of (by decide +kernel)) (by decide +kernel) (by decide +kernel) (Fw.of (by decide +kernel)) (Fw.of (by decide +kernel))
    exact l1T_in _ (ofI_in (by omega) (by omega)) (i2.mono (by decide +kernel) (by decide +kernel)) hc
  · rw [if_neg hlt]
    have hk : (k + 1 == 0) = false := by simp; omega
    rw [hk]
    have i1 : In (4602678819172646912 + m) 4604544271217802189 4607182418800017407 := In.ofPos (by omega) (by omega) (by decide)
    have i2 : In (fsub (4602678819172646912 + m) 4607182418800017408) 13822319951937112166 13591863675404156928 := In_sub i1 (In.const (Fw.of (by decide +kernel))) (Fw.of (by decide +kernel)) (Fw.of (by decide +kernel)) (Fw.of (by decide +kernel)) (Fw.of (by decide +kernel)) (by decide +kernel) (by decide +kernel) (Fw.of (by decide +kernel)) (Fw.of (by decide +kernel))
    exact l1T_in _ (ofI_in (by omega) (by omega)) (i2.mono (by decide +kernel) (by decide +kernel)) hc

theorem fmul_comm {a b : Nat} (ha : a < INF) (hb : b < INF) : fmul a b = fmul b a :=
  (fmul_Rn ha hb).unique (fmul_Rn hb ha) (by rw [Nat.mul_comm (V a)])
theorem fmul_ONE {a : Nat} (ha : a < INF) : fmul a ONE = a := by
  have h := fmul_Rn ha ONE_lt
  rw [V_ONE] at h
  exact h.unique (Rn.exact a (by omega)) (by rw [Nat.mul_one])

theorem l1Q_in {f : Nat} (hf : In f 4476578029606273024 4601134985220384306) : ∃ y, y = l1Q f ∧ In y 0 4607182418800017408 := by
  obtain ⟨v1, e1⟩ : ∃ v, v = fmul 4602678819172646912 f := ⟨_, rfl⟩
  have i1 : In v1 4472074429978902528 4596631385593013810 := by rw [e1]; exact In_mul (In.const (Fw.of (by decide +kernel))) hf (Fw.of (by decide +kernel)) (Fw.of (by decide +kernel)) (Fw.of (by decide +kernel)) (Fw.of (by decide +kernel)) (Fw.of (by decide +kernel)) (Fw.of (by decide +kernel)) (by decide +kernel) (by decide +kernel) (by decide +kernel) (by decide +kernel) (by decide +kernel) (by decide +kernel) (by decide +kernel) (by decide +kernel)
  obtain ⟨v2, e2⟩ : ∃ v, v = fmul v1 f := ⟨_, rfl⟩
  have i2 : In v2 4341470040785158144 4590848565152798519 := by rw [e2]; exact In_mul i1 hf (Fw.of (by decide +kernel)) (Fw.of (by decide +kernel)) (Fw.of (by decide +kernel)) (Fw.of (by decide +kernel)) (Fw.of (by decide +kernel)) (Fw.of (by decide +kernel)) (by decide +kernel) (by decide +kernel) (by decide +kernel) (by decide +kernel) (by decide +kernel) (by decide +kernel) (by decide +kernel) (by decide +kernel)
  obtain ⟨v3, e3⟩ : ∃ v, v = fadd 4611686018427387904 f := ⟨_, rfl⟩
  have i3 : In v3 4611686018431582208 4612618939090197702 := by rw [e3]; exact In_add (In.const (Fw.of (by decide +kernel))) hf (Fw.of (by decide +kernel)) (Fw.of (by decide +kernel)) (Fw.of (by decide +kernel)) (Fw.of (by decide +kernel)) (by decide +kernel) (by decide +kernel) (Fw.of (by decide +kernel)) (Fw.of (by decide +kernel))
  obtain ⟨v4, e4⟩ : ∃ v, v = fdiv f v3 := ⟨_, rfl⟩
  have i4 : In v4 4470528771754473421 4596631385586063009 := by rw [e4]; exact In_div hf (c := 4611686018431582208) (d := 4612618939090197702) (by decide +kernel) (In.pos i3 (by decide +kernel) (by decide +kernel) (by decide +kernel)).1 (In.pos i3 (by decide +kernel) (by decide +kernel) (by decide +kernel)).2 (by decide +kernel) (Fw.of (by decide +kernel)) (Fw.of (by decide +kernel)) (Fw.of (by decide +kernel)) (Fw.of (by decide +kernel)) (by decide +kernel) (by decide +kernel) (by decide +kernel) (by decide +kernel)
  obtain ⟨v5, e5⟩ : ∃ v, v = fmul v4 v4 := ⟨_, rfl⟩
  have i5 : In v5 0 4586344965513909155 := by rw [e5]; exact In_sq i4 (Fw.of (by decide +kernel)) (Fw.of (by decide +kernel)) (Fw.of (by decide +kernel)) (by decide +kernel) (by decide +kernel)
  obtain ⟨v6, e6⟩ : ∃ v, v = fmul v5 4594499633228436036 := ⟨_, rfl⟩
  have i6 : In v6 0 4573971158008873082 := by rw [e6]; exact In_mul i5 (In.const (Fw.of (by decide +kernel))) (Fw.of (by decide +kernel)) (Fw.of (by decide +kernel)) (Fw.of (by decide +kernel)) (Fw.of (by decide +kernel)) (Fw.of (by decide +kernel)) (Fw.of (by decide +kernel)) (by decide +kernel) (by decide +kernel) (by decide +kernel) (by decide +kernel) (by decide +kernel) (by decide +kernel) (by decide +kernel) (by decide +kernel)
  obtain ⟨v7, e7⟩ : ∃ v, v = fadd 4594685411790997151 v6 := ⟨_, rfl⟩
  have i7 : In v7 4594685411790997151 4594914197286471843 := by rw [e7]; exact In_add (In.const (Fw.of (by decide +kernel))) i6 (Fw.of (by decide +kernel)) (Fw.of (by decide +kernel)) (Fw.of (by decide +kernel)) (Fw.of (by decide +kernel)) (by decide +kernel) (by decide +kernel) (Fw.of (by decide +kernel)) (Fw.of (by decide +kernel))
  obtain ⟨v8, e8⟩ : ∃ v, v = fmul v5 v7 := ⟨_, rfl⟩
  have i8 : In v8 0 4574540419098323843 := by rw [e8]; exact In_mul i5 i7 (Fw.of (by decide +kernel)) (Fw.of (by decide +kernel)) (Fw.of (by decide +kernel)) (Fw.of (by decide +kernel)) (Fw.of (by decide +kernel)) (Fw.of (by decide +kernel)) (by decide +kernel) (by decide +kernel) (by decide +kernel) (by decide +kernel) (by decide +kernel) (by decide +kernel) (by decide +kernel) (by decide +kernel)
  obtain ⟨v9, e9⟩ : ∃ v, v = fadd 4595719342595441630 v8 := ⟨_, rfl⟩
  have i9 : In v9 4595719342595441630 4595965917499961658 := by rw [e9]; exact In_add (In.const (Fw.of (by decide +kernel))) i8 (Fw.of (by decide +kernel)) (Fw.of (by decide +kernel)) (Fw.of (by decide +kernel)) (Fw.of (by decide +kernel)) (by decide +kernel) (by decide +kernel) (Fw.of (by decide +kernel)) (Fw.of (by decide +kernel))
  obtain ⟨v10, e10⟩ : ∃ v, v = fmul v5 v9 := ⟨_, rfl⟩
  have i10 : In v10 0 4575820908170697497 := by rw [e10]; exact In_mul i5 i9 (Fw.of (by decide +kernel)) (Fw.of (by decide +kernel)) (Fw.of (by decide +kernel)) (Fw.of (by decide +kernel)) (Fw.of (by decide +kernel)) (Fw.of (by decide +kernel)) (by decide +kernel) (by decide +kernel) (by decide +kernel) (by decide +kernel) (by decide +kernel) (by decide +kernel) (by decide +kernel) (by decide +kernel)
  obtain ⟨v11, e11⟩ : ∃ v, v = fadd 4597174411056806063 v10 := ⟨_, rfl⟩
  have i11 : In v11 4597174411056806063 4597466116456158817 := by rw [e11]; exact In_add (In.const (Fw.of (by decide +kernel))) i10 (Fw.of (by decide +kernel)) (Fw.of (by decide +kernel)) (Fw.of (by decide +kernel)) (Fw.of (by decide +kernel)) (by decide +kernel) (by decide +kernel) (Fw.of (by decide +kernel)) (Fw.of (by decide +kernel))
  obtain ⟨v12, e12⟩ : ∃ v, v = fmul v5 v11 := ⟨_, rfl⟩
  have i12 : In v12 0 4576850911707718941 := by rw [e12]; exact In_mul i5 i11 (Fw.of (by decide +kernel)) (Fw.of (by decide +kernel)) (Fw.of (by decide +kernel)) (Fw.of (by decide +kernel)) (Fw.of (by decide +kernel)) (Fw.of (by decide +kernel)) (by decide +kernel) (by decide +kernel) (by decide +kernel) (by decide +kernel) (by decide +kernel) (by decide +kernel) (by decide +kernel) (by decide +kernel)
  obtain ⟨v13, e13⟩ : ∃ v, v = fadd 4598818590951641945 v12 := ⟨_, rfl⟩
  have i13 : In v13 4598818590951641945 4598996631261850242 := by rw [e13]; exact In_add (In.const (Fw.of (by decide +kernel))) i12 (Fw.of (by decide +kernel)) (Fw.of (by decide +kernel)) (Fw.of (by decide +kernel)) (Fw.of (by decide +kernel)) (by decide +kernel) (by decide +kernel) (Fw.of (by decide +kernel)) (Fw.of (by decide +kernel))
  obtain ⟨v14, e14⟩ : ∃ v, v = fmul v5 v13 := ⟨_, rfl⟩
  have i14 : In v14 0 4578465692618437948 := by rw [e14]; exact In_mul i5 i13 (Fw.of (by decide +kernel)) (Fw.of (by decide +kernel)) (Fw.of (by decide +kernel)) (Fw.of (by decide +kernel)) (Fw.of (by decide +kernel)) (Fw.of (by decide +kernel)) (by decide +kernel) (by decide +kernel) (by decide +kernel) (by decide +kernel) (by decide +kernel) (by decide +kernel) (by decide +kernel) (by decide +kernel)
  obtain ⟨v15, e15⟩ : ∃ v, v = fadd 4600877379321592324 v14 := ⟨_, rfl⟩
  have i15 : In v15 4600877379321592324 4601105881535260590 := by rw [e15]; exact In_add (In.const (Fw.of (by decide +kernel))) i14 (Fw.of (by decide +kernel)) (Fw.of (by decide +kernel)) (Fw.of (by decide +kernel)) (Fw.of (by decide +kernel)) (by decide +kernel) (by decide +kernel) (Fw.of (by decide +kernel)) (Fw.of (by decide +kernel))
  obtain ⟨v16, e16⟩ : ∃ v, v = fmul v5 v15 := ⟨_, rfl⟩
  have i16 : In v16 0 4580761421574266292 := by rw [e16]; exact In_mul i5 i15 (Fw.of (by decide +kernel)) (Fw.of (by decide +kernel)) (Fw.of (by decide +kernel)) (Fw.of (by decide +kernel)) (Fw.of (by decide +kernel)) (Fw.of (by decide +kernel)) (by decide +kernel) (by decide +kernel) (by decide +kernel) (by decide +kernel) (by decide +kernel) (by decide +kernel) (by decide +kernel) (by decide +kernel)
  obtain ⟨v17, e17⟩ : ∃ v, v = fadd 4604180019048437139 v16 := ⟨_, rfl⟩
  have i17 : In v17 4604180019048437139 4604339525303619713 := by rw [e17]; exact In_add (In.const (Fw.of (by decide +kernel))) i16 (Fw.of (by decide +kernel)) (Fw.of (by decide +kernel)) (Fw.of (by decide +kernel)) (Fw.of (by decide +kernel)) (by decide +kernel) (by decide +kernel) (Fw.of (by decide +kernel)) (Fw.of (by decide +kernel))
  obtain ⟨v18, e18⟩ : ∃ v, v = fmul v5 v17 := ⟨_, rfl⟩
  have i18 : In v18 0 4584121774337416664 := by rw [e18]; exact In_mul i5 i17 (Fw.of (by decide +kernel)) (Fw.of (by decide +kernel)) (Fw.of (by decide +kernel)) (Fw.of (by decide +kernel)) (Fw.of (by decide +kernel)) (Fw.of (by decide +kernel)) (by decide +kernel) (by decide +kernel) (by decide +kernel) (by decide +kernel) (by decide +kernel) (by decide +kernel) (by decide +kernel) (by decide +kernel)
  obtain ⟨v19, e19⟩ : ∃ v, v = fadd v2 v18 := ⟨_, rfl⟩
  have i19 : In v19 4341470040785158144 4592964703385046701 := by rw [e19]; exact In_add i2 i18 (Fw.of (by decide +kernel)) (Fw.of (by decide +kernel)) (Fw.of (by decide +kernel)) (Fw.of (by decide +kernel)) (by decide +kernel) (by decide +kernel) (Fw.of (by decide +kernel)) (Fw.of (by decide +kernel))
  obtain ⟨v20, e20⟩ : ∃ v, v = fmul v4 v19 := ⟨_, rfl⟩
  have i20 : In v20 4204816393739614157 4582534835665369895 := by rw [e20]; exact In_mul i4 i19 (Fw.of (by decide +kernel)) (Fw.of (by decide +kernel)) (Fw.of (by decide +kernel)) (Fw.of (by decide +kernel)) (Fw.of (by decide +kernel)) (Fw.of (by decide +kernel)) (by decide +kernel) (by decide +kernel) (by decide +kernel) (by decide +kernel) (by decide +kernel) (by decide +kernel) (by decide +kernel) (by decide +kernel)
  refine ⟨v20, ?_, i20.mono (by decide +kernel) (by decide +kernel)⟩
  subst_vars; rfl

theorem ar1 {h q g m p : Int} (h0 : 0 ≤ h) (hq0 : 0 ≤ q) (hq : q ≤ p) (hp : p = -m) (hg : h ≤ g) : m ≤ h - q ∧ h - q ≤ g := by omega
theorem ar2 {f x g m p2 o l : Int} (hx : x ≤ g) (hm : m ≤ x) (hf : f = 2 * g) (hl : l ≤ g) (fo : f ≤ o) (p : p2 = o - m) : l ≤ f - x ∧ f - x ≤ p2 := by omega
/-- Without an exponent: at least half the number. -/
theorem l1T_y {f : Nat} (K c : Nat) (h1 : 4476578029606273024 ≤ f) (h2 : f ≤ 4601134985220384306) : In (l1T false true f K c) 4472074429978902528 4611686018427387904 := by
  have hI : INF = 9218868437227405312 := rfl
  have hB : B = 4503599627370496 := rfl
  have hfI : f < INF := by omega
  have hO := ONE_lt
  have hOe : ONE = 4607182418800017408 := rfl
  have hHe : HALF = 4602678819172646912 := rfl
  obtain ⟨q, hq, iq⟩ := l1Q_in (In.ofPos h1 h2 (by decide))
  unfold l1T
  simp only [Bool.false_eq_true, if_false, if_true]
  rw [← hq]
  have hG : fmul HALF f = f - B := by rw [fmul_comm (by decide) hfI, fmul_HALF (by omega) hfI]
  have hH : l1H f ≤ f - B := by
    show fmul (fmul HALF f) f ≤ f - B
    rw [hG]
    have := fmul_mono (a := f - B) (b := f) (a' := f - B) (b' := ONE) (by omega) hO (Nat.le_refl _) (by omega)
    rw [fmul_ONE (by omega)] at this; exact this
  have hGV := V_sub_B (show 2 * B ≤ f by omega)
  have hHV := V_le hH
  have sH := sv_nat (show l1H f < INF by omega)
  have sf := sv_nat hfI
  have sG := sv_nat (show f - B < INF by omega)
  have hGI : f - B < INF := by omega
  have fH : Fw (l1H f) := Fw.nat (by omega)
  have q0 : sv 0 = 0 := by decide
  have hq1 := iq.2.1
  rw [q0] at hq1
  have k1 := ar1 (show 0 ≤ sv (l1H f) by rw [sH]; exact Int.natCast_nonneg _) hq1 iq.2.2 (show sv 4607182418800017408 = -(sv 13830554455654793216) by decide +kernel) (show sv (l1H f) ≤ sv (f - B) by rw [sH, sG]; exact Int.ofNat_le.2 hHV)
  have ix : In (fsub (l1H f) q) 13830554455654793216 (f - B) := (fsub_RnS fH iq.1).btw (Fw.of (by decide +kernel)) (Fw.nat hGI) k1.1 k1.2
  have hm2 : 4472074429978902528 ≤ f - B := by omega
  have v1 := V_le hm2
  have s1 := sv_nat (show 4472074429978902528 < INF by decide)
  have hfO := V_le (show f ≤ ONE by omega)
  have k2 := ar2 ix.2.2 ix.2.1 (show sv f = 2 * sv (f - B) by rw [sf, sG, ← hGV]; exact Int.natCast_mul _ _) (show sv 4472074429978902528 ≤ sv (f - B) by rw [s1, sG]; exact Int.ofNat_le.2 v1) (show sv f ≤ (V ONE : Int) by rw [sf]; exact Int.ofNat_le.2 hfO) (show sv 4611686018427387904 = V ONE - sv 13830554455654793216 by decide +kernel)
  exact (fsub_RnS (Fw.nat hfI) ix.1).btw (Fw.of (by decide +kernel)) (Fw.of (by decide +kernel)) k2.1 k2.2

theorem flt_nat {a c : Nat} (ha : a ≤ INF) (hc : c ≤ INF) (h0 : 0 < c) : flt a c = decide (a < c) := by
  have e := flt_pos false a c ha hc h0
  rw [word_false] at e; rw [e]; simp

/-- Log1p of numbers from 2^-28 on. -/
theorem log1p_in {a : Nat} (h1 : NZ ≤ a) (h2 : a < INF) : In (log1pF a) 4472074429978902528 4649544402794971136 := by
  have hI : INF = 9218868437227405312 := rfl
  have hN : NZ = 4481081629233643520 := rfl
  have hOe : ONE = 4607182418800017408 := rfl
  have hTe : TWO = 4611686018427387904 := rfl
  have hP : P53 = 4845873199050653696 := rfl
  have hA : A0 = 4601133428098527026 := rfl
  unfold log1pF
  rw [flt_nat (a := a) (c := 4601133428098527026) (by omega) (by decide) (by decide), flt_nat (a := a) (c := 4476578029606273024) (by omega) (by decide) (by decide),
    flt_nat (a := a) (c := 4845873199050653696) (by omega) (by decide) (by decide)]
  simp only [decide_eq_true_eq]
  by_cases h3 : a < 4601133428098527026
  · rw [if_pos h3, if_neg (by omega)]
    exact (l1T_y 0 0 (by omega) (by omega)).mono (by decide +kernel) (by decide +kernel)
  · rw [if_neg h3]
    by_cases h4 : a < 4845873199050653696
    · rw [if_pos h4]
      have hC := l1C_in (a := a) (by omega)
      have huP : fadd ONE a ≤ P53 := Nat.le_trans (fadd_mono (a' := ONE) (b' := P53 - 1) ONE_lt (by omega) (Nat.le_refl _) (by omega)) (by decide +kernel)
      have hu1 : 4609047854801670541 ≤ fadd ONE a := Nat.le_trans (by decide +kernel) (fadd_mono (a := ONE) (b := A0) ONE_lt (by omega) (Nat.le_refl _) (by omega))
      rw [show (4607182418800017408 : Nat) = ONE from rfl]
      generalize hu : fadd ONE a = u at *
      by_cases hk : 1 ≤ l1K u ∨ 1865452045155277 ≤ u % 4503599627370496
      · exact (l1M_in hC (Nat.mod_lt _ (by decide)) (by unfold l1K; omega) (by unfold l1K; omega) hk).mono (by decide +kernel) (by omega)
      · have hk0 : l1K u = 0 := by unfold l1K at hk ⊢; omega
        have hm : u % 4503599627370496 < 1865452045155277 := by omega
        unfold l1M
        rw [if_pos hm, hk0]
        have hz : (u % 4503599627370496 == 0) = false := by
          simp; unfold l1K at hk0; omega
        rw [hz, show ((0 : Int) == 0) = true from rfl]
        have hw : 4609047854801670541 ≤ 4607182418800017408 + u % 4503599627370496 := by unfold l1K at hk0; omega
        have i1 : In (4607182418800017408 + u % 4503599627370496) 4609047854801670541 4609047870845172685 := In.ofPos hw (by omega) (by decide)
        have i2 : In (fsub (4607182418800017408 + u % 4503599627370496) 4607182418800017408) 4601133363924518452 4601133428098527028 := In_sub i1 (In.const (Fw.of (by decide +kernel))) (Fw.of (by decide +kernel)) (Fw.of (by decide +kernel)) (Fw.of (by decide +kernel)) (Fw.of (by decide +kernel)) (by decide +kernel) (by decide +kernel) (Fw.of (by decide +kernel)) (Fw.of (by decide +kernel))
        obtain ⟨j1, j2⟩ := i2.pos (by decide) (by decide) (by decide)
        exact (l1T_y _ _ (Nat.le_trans (by decide) j1) (Nat.le_trans j2 (by decide))).mono (by omega) (by decide +kernel)
    · rw [if_neg h4]
      have hC : In 0 13808036457517940736 4584664420663164928 := ⟨(Fw.of (by decide +kernel)), (by decide +kernel), (by decide +kernel)⟩
      exact (l1M_in hC (Nat.mod_lt _ (by decide)) (by unfold l1K; omega) (by unfold l1K; omega) (.inl (by unfold l1K; omega))).mono (by decide +kernel) (by omega)

end Go.Proofs.Ythnbkoohehnblaa
