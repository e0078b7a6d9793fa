/-
Whole numbers and powers of 2 as words; Atan2 of numbers scaled alike.
-/
import Derived.Test.YtgbdplmpojkklaaDoorFpH
namespace Go.Proofs.YtgbdplmpojkklaaDoor
open Ieee

/-- 2^k as a word, for k from -1022 to 1023. -/
def powW (k : Int) : Nat := (1023 + k).toNat * 4503599627370496

theorem powW_fin {k : Int} (h1 : -1022 ≤ k) (h2 : k ≤ 1023) : powW k < INF ∧ B ≤ powW k := by
  have hI : INF = 9218868437227405312 := rfl
  have hB : B = 4503599627370496 := rfl
  unfold powW
  omega

theorem V_powW (k : Int) (h1 : -1022 ≤ k) : V (powW k) = 2 ^ (k + 1074).toNat := by
  have hB : B = 4503599627370496 := rfl
  have e : powW k = (k + 1022).toNat * B + B := by unfold powW; rw [hB]; omega
  have hBp := B_pos
  rw [e, V_at _ B (by omega) (fun _ => Nat.le_refl _), B_pow, ← Nat.pow_add]
  congr 1; omega

/-- What 'float64(n)' gives. -/
def ofI (n : Int) : Nat := double.write (.number (n < 0) n.natAbs 0)

/-- Digits that fit stand for a number of the format. -/
theorem repr_of (m p : Nat) (hm : m < 2 * B) : ∃ r, V r = m * 2 ^ p ∧ r ≤ p * B + 2 * B := by
  have hBp := B_pow
  have hB := B_pos
  by_cases h0 : m = 0
  · exact ⟨0, by rw [h0, V_zero, Nat.zero_mul], Nat.zero_le _⟩
  have hlo : 2 ^ m.log2 ≤ m := Nat.log2_self_le h0
  have hhi : m < 2 ^ (m.log2 + 1) := Nat.lt_log2_self
  have hL : m.log2 ≤ 52 := by
    by_cases h : m.log2 ≤ 52
    · exact h
    · have : (2 : Nat) ^ 53 ≤ 2 ^ m.log2 := Nat.pow_le_pow_right (by omega) (by omega)
      have e : (2 : Nat) ^ 53 = 2 * 2 ^ 52 := by decide
      omega
  obtain ⟨c, hc⟩ : ∃ c, min p (52 - m.log2) = c := ⟨_, rfl⟩
  have hcp : c ≤ p := by omega
  have ht1 : m * 2 ^ c < 2 * B := by
    have h1 : m * 2 ^ c < 2 ^ (m.log2 + 1) * 2 ^ c := Nat.mul_lt_mul_of_pos_right hhi (Nat.two_pow_pos _)
    have h2 : (2 : Nat) ^ (m.log2 + 1) * 2 ^ c ≤ 2 * B := by
      rw [hBp, show (2 : Nat) * 2 ^ 52 = 2 ^ 53 by decide, ← Nat.pow_add]; exact Nat.pow_le_pow_right (by omega) (by omega)
    omega
  have ht2 : 0 < p - c → B ≤ m * 2 ^ c := by
    intro h
    have h1 : 2 ^ m.log2 * 2 ^ c ≤ m * 2 ^ c := Nat.mul_le_mul_right _ hlo
    have h2 : B ≤ 2 ^ m.log2 * 2 ^ c := by
      rw [hBp, ← Nat.pow_add]; exact Nat.pow_le_pow_right (by omega) (by omega)
    omega
  refine ⟨(p - c) * B + m * 2 ^ c, ?_, ?_⟩
  · rw [V_at _ _ ht1 ht2, Nat.mul_assoc, ← Nat.pow_add, show c + (p - c) = p by omega]
  · have : (p - c) * B ≤ p * B := Nat.mul_le_mul_right _ (by omega)
    omega

/-- The rung of a whole number. -/
def fi (m : Nat) : Nat := rung m 0

theorem ofI_word (n : Int) : ofI n = double.word (decide (n < 0)) (fi n.natAbs) := nearest_eq _ _ _

theorem fi_V {m : Nat} (hm : m ≤ 2147483648) : V (fi m) = m * U ∧ fi m < INF := by
  have hBp : B = 4503599627370496 := rfl
  have hUE : UE = 1074 := rfl
  obtain ⟨r, hr, hb⟩ := repr_of m UE (by omega)
  have hI : UE * B + 2 * B < INF := by decide
  have h := rung_Rn m 0
  rw [show ((0 : Int) + 1074).toNat = UE by omega, show (-((0 : Int) + 1074)).toNat = 0 by omega] at h
  have : fi m = r := h.unique (Rn.exact r (by omega)) (by rw [hr])
  rw [this]
  exact ⟨hr, by omega⟩

theorem U_big : 4294967296 < U := by decide +kernel

theorem fi_zero {m : Nat} (hm : m ≤ 2147483648) : fi m = 0 ↔ m = 0 := by
  have h := (fi_V hm).1
  have hU := U_pos
  constructor
  · intro e
    rw [e, V_zero] at h
    rcases Nat.mul_eq_zero.1 h.symm with h | h
    · exact h
    · omega
  · intro e; subst e; rfl

/-- A whole number times a power of 2. -/
theorem fi_scaled {m : Nat} {k : Int} (hm : m ≤ 2147483648) (h1 : -900 ≤ k) (h2 : k ≤ 900) :
    V (fmul (fi m) (powW k)) = m * 2 ^ (k + 1074).toNat ∧ fmul (fi m) (powW k) < INF := by
  have hBp : B = 4503599627370496 := rfl
  have hI : INF = 9218868437227405312 := rfl
  obtain ⟨hV, hf⟩ := fi_V hm
  have hp := powW_fin (k := k) (by omega) (by omega)
  obtain ⟨r, hr, hb⟩ := repr_of m (k + 1074).toNat (by omega)
  have hbI : r < INF := by
    have : (k + 1074).toNat * B ≤ 1974 * B := Nat.mul_le_mul_right _ (by omega)
    omega
  have h := fmul_Rn hf hp.1
  have : fmul (fi m) (powW k) = r := by
    refine h.unique (Rn.exact r (by omega)) ?_
    rw [hV, hr, V_powW k (by omega), Nat.mul_one, Nat.mul_right_comm]
  rw [this]
  exact ⟨hr, hbI⟩

theorem fi_scaled_zero {m : Nat} {k : Int} (hm : m ≤ 2147483648) (h1 : -900 ≤ k) (h2 : k ≤ 900) : fmul (fi m) (powW k) = 0 ↔ m = 0 := by
  obtain ⟨hV, _⟩ := fi_scaled hm h1 h2
  constructor
  · intro e
    rw [e, V_zero] at hV
    rcases Nat.mul_eq_zero.1 hV.symm with h | h
    · exact h
    · have := Nat.two_pow_pos (k + 1074).toNat; omega
  · intro e
    apply V_inj
    rw [hV, e, V_zero, Nat.zero_mul]

/-- Atan2 of finite numbers that are not 0 and whose quotient is not lost: the sign of the first, not 0. -/
theorem atan2_key (s t : Bool) {a b : Nat} (haI : a < INF) (hbI : b < INF) (h0 : a ≠ 0) (h1 : b ≠ 0) (hd0 : 0 < fdiv a b) :
    ∃ R, atan2F (double.word s a) (double.word t b) = double.word s R ∧ 0 < R ∧ R ≤ cPi := by
  have ha := Nat.le_of_lt haI
  have hb := Nat.le_of_lt hbI
  have hdw := fdiv_word s t haI hbI (show 0 < b by omega)
  have hd := fdiv_le_INF haI hbI (show 0 < b by omega)
  have h2 : b ≠ INF := by omega
  have h3 : a ≠ INF := by omega
  have hle := satan_le hd
  have hpos := satan_pos hd hd0
  have hH : cHalf < INF := by decide
  have hP : cPi < INF := by decide
  have hHP : cHalf < cPi := by decide
  generalize hA : satanF (fdiv a b) = A at *
  have hq : atanF (fdiv (double.word s a) (double.word t b)) = double.word (s ^^ t) A := by rw [hdw, atan_word _ hd, hA]
  have e1 := atan2F_word s t a b ha hb
  rw [hq] at e1
  cases t with
  | false => exact ⟨A, by rw [e1]; simp [h0, h1, h2, h3], hpos, by omega⟩
  | true =>
    have r1 : fsub cPi A ≤ cPi := fsub_le hP (by omega)
    have r2 : 0 < fsub cPi A := fsub_pos hP (by omega)
    refine ⟨fsub cPi A, ?_, r2, r1⟩
    rw [e1, fle_zero _ A (by omega)]
    cases s with
    | false =>
      simp [h0, h1, h2, h3]
      exact fadd_NP (by omega) hP
    | true =>
      have hA0 : A ≠ 0 := by omega
      simp [h0, h1, h2, h3, hA0]
      rw [word_false, word_N]
      exact fsub_lt_neg hP (by omega)

def scaledF (n m k : Int) : Bool :=
  sameF (atan2F (fmul (ofI n) (powW k)) (fmul (ofI m) (powW k))) (atan2F (ofI n) (ofI m)) && (n == 0 || fne (atan2F (ofI n) (ofI m)) 0)

theorem scaled_plain (n m k : Int) (hn1 : -2147483648 ≤ n) (hn2 : n ≤ 2147483647) (hm1 : -2147483648 ≤ m) (hm2 : m ≤ 2147483647) (hk1 : -900 ≤ k) (hk2 : k ≤ 900) :
    scaledF n m k = true := by
  have hp := powW_fin (k := k) (by omega) (by omega)
  obtain ⟨x, hx, hxn⟩ : ∃ x : Nat, n.natAbs = x ∧ (n = 0 ↔ x = 0) := ⟨n.natAbs, rfl, by omega⟩
  obtain ⟨y, hy, hym⟩ : ∃ y : Nat, m.natAbs = y ∧ (m = 0 ↔ y = 0) := ⟨m.natAbs, rfl, by omega⟩
  have hxl : x ≤ 2147483648 := by omega
  have hyl : y ≤ 2147483648 := by omega
  unfold scaledF
  rw [ofI_word n, ofI_word m, hx, hy]
  generalize decide (n < 0) = s
  generalize decide (m < 0) = t
  obtain ⟨vx, fx⟩ := fi_V hxl
  obtain ⟨vy, fy⟩ := fi_V hyl
  obtain ⟨wx, gx⟩ := fi_scaled hxl hk1 hk2
  obtain ⟨wy, gy⟩ := fi_scaled hyl hk1 hk2
  have zx := fi_zero hxl
  have zy := fi_zero hyl
  have qx := fi_scaled_zero hxl hk1 hk2
  have qy := fi_scaled_zero hyl hk1 hk2
  have m1 : fmul (double.word s (fi x)) (powW k) = double.word s (fmul (fi x) (powW k)) := by
    have := fmul_word s false fx hp.1
    rw [word_false, Bool.xor_false] at this; exact this
  have m2 : fmul (double.word t (fi y)) (powW k) = double.word t (fmul (fi y) (powW k)) := by
    have := fmul_word t false fy hp.1
    rw [word_false, Bool.xor_false] at this; exact this
  rw [m1, m2]
  have hsame : atan2F (double.word s (fmul (fi x) (powW k))) (double.word t (fmul (fi y) (powW k))) = atan2F (double.word s (fi x)) (double.word t (fi y)) := by
    rw [atan2F_word s t _ _ (Nat.le_of_lt gx) (Nat.le_of_lt gy), atan2F_word s t _ _ (Nat.le_of_lt fx) (Nat.le_of_lt fy)]
    by_cases h0 : x = 0
    · rw [if_pos (qx.2 h0), if_pos (zx.2 h0)]
    · rw [if_neg (fun h => h0 (qx.1 h)), if_neg (fun h => h0 (zx.1 h))]
      by_cases h1 : y = 0
      · rw [if_pos (qy.2 h1), if_pos (zy.2 h1)]
      · rw [if_neg (fun h => h1 (qy.1 h)), if_neg (fun h => h1 (zy.1 h))]
        have b0 : 0 < fi y := Nat.pos_of_ne_zero (fun h => h1 (zy.1 h))
        have b0' : 0 < fmul (fi y) (powW k) := Nat.pos_of_ne_zero (fun h => h1 (qy.1 h))
        have hq : fdiv (fmul (fi x) (powW k)) (fmul (fi y) (powW k)) = fdiv (fi x) (fi y) := by
          refine (fdiv_Rn gx gy b0').unique (fdiv_Rn fx fy b0) ?_
          rw [wx, wy, vx, vy]
          generalize 2 ^ (k + 1074).toNat = T
          generalize U = u
          rw [Nat.mul_right_comm x T u, Nat.mul_assoc (x * u) T, Nat.mul_left_comm T y u, Nat.mul_comm T u, Nat.mul_assoc (x * u) u, Nat.mul_left_comm u y T]
        have hd1 : fdiv (double.word s (fmul (fi x) (powW k))) (double.word t (fmul (fi y) (powW k))) = fdiv (double.word s (fi x)) (double.word t (fi y)) := by
          rw [fdiv_word s t gx gy b0', fdiv_word s t fx fy b0, hq]
        have i1 : fmul (fi y) (powW k) ≠ INF := by omega
        have i2 : fi y ≠ INF := by omega
        have i3 : fmul (fi x) (powW k) ≠ INF := by omega
        have i4 : fi x ≠ INF := by omega
        rw [hd1, if_neg i1, if_neg i2, if_neg i3, if_neg i4]
  rw [hsame, sameF_self _ (atan2F_lt _ _)]
  by_cases h0 : n = 0
  · simp [h0]
  · have hx0 : x ≠ 0 := fun h => h0 (hxn.2 h)
    have a0 : fi x ≠ 0 := fun h => hx0 (zx.1 h)
    have key : ∃ R, atan2F (double.word s (fi x)) (double.word t (fi y)) = double.word s R ∧ 0 < R ∧ R ≤ cPi := by
      by_cases h1 : y = 0
      · refine ⟨cHalf, ?_, by decide, by decide⟩
        rw [atan2F_word s t _ _ (Nat.le_of_lt fx) (Nat.le_of_lt fy), if_neg a0, if_pos (zy.2 h1)]
      · have b0 : fi y ≠ 0 := fun h => h1 (zy.1 h)
        refine atan2_key s t fx fy a0 b0 ?_
        have hr := fdiv_Rn fx fy (Nat.pos_of_ne_zero b0)
        by_cases hz : 0 < fdiv (fi x) (fi y)
        · exact hz
        · exfalso
          have h2 := (hr.2.2 0 (by decide)).1 (by omega)
          have hM : M 0 = 1 := by decide
          rw [hM, vx, vy, Nat.one_mul] at h2
          have hU := U_big
          have h3 : y * U < 2 * (x * U * U) := by
            have e1 : y * U ≤ 2147483648 * U := Nat.mul_le_mul_right _ hyl
            have e2 : 2147483648 * U < U * U := Nat.mul_lt_mul_of_pos_right (by omega) U_pos
            have e3 : 1 * U * U ≤ x * U * U := Nat.mul_le_mul_right _ (Nat.mul_le_mul_right _ (by omega))
            rw [Nat.one_mul] at e3
            omega
          rcases h2 with h2 | ⟨h2, _⟩ <;> omega
    obtain ⟨R, hR, hR0, hRP⟩ := key
    have hRI : R ≤ INF := Nat.le_trans hRP (by decide)
    have hne : fne (double.word s R) 0 = true := by
      have := feq_zero s R hRI
      have hR' : R ≠ 0 := by omega
      unfold fne feq at *
      rw [bne, this]; simp [hR']
    rw [hR, hne]; simp

end Go.Proofs.YtgbdplmpojkklaaDoor
