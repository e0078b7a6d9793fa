/-
Plain facts on binary64: the rungs' values, rounding as a test against midpoints. No program in sight.
-/
import Ieee.Arith
namespace Go.Proofs.YtgbdplmpojkklaaDoor
open Ieee

/-- Rungs to one binade, the rung of infinity, the weight of the sign. -/
def B : Nat := 4503599627370496
def INF : Nat := 9218868437227405312
def SGN : Nat := 9223372036854775808

theorem B_pow : B = 2 ^ 52 := by decide
theorem binade_eq : double.binade = B := by decide
theorem infRung_eq : double.infRung = INF := by decide
theorem sgn_eq : double.signWeight = SGN := by decide
theorem least_eq : double.leastPlace = -1074 := by decide
theorem fr_eq : double.fractionBits = 52 := rfl

/-- The value of a rung, in units of 2^-1074. -/
def V (r : Nat) : Nat := if r < B then r else (B + r % B) * 2 ^ (r / B - 1)

theorem B_pos : 0 < B := by decide

theorem V_step (r : Nat) : V (r + 1) = V r + 2 ^ (r / B - 1) := by
  have hB := B_pos
  have hdm := Nat.div_add_mod r B
  have hm := Nat.mod_lt r hB
  unfold V
  by_cases h1 : r + 1 < B
  · have : r / B = 0 := Nat.div_eq_of_lt (by omega)
    rw [if_pos h1, if_pos (by omega), this]
  · rw [if_neg h1]
    by_cases h2 : r < B
    · have e : r + 1 = B := by omega
      have : r / B = 0 := Nat.div_eq_of_lt h2
      rw [if_pos h2, e, this, Nat.mod_self, Nat.div_self hB]; simp; omega
    · rw [if_neg h2]
      have hq : 1 ≤ r / B := (Nat.le_div_iff_mul_le hB).2 (by omega)
      by_cases h3 : r % B + 1 < B
      · have e1 : (r + 1) / B = r / B := by
          rw [show r + 1 = B * (r / B) + (r % B + 1) by omega, Nat.mul_add_div hB, Nat.div_eq_of_lt h3]; rfl
        have e2 : (r + 1) % B = r % B + 1 := by
          rw [show r + 1 = B * (r / B) + (r % B + 1) by omega, Nat.mul_add_mod, Nat.mod_eq_of_lt h3]
        rw [e1, e2, ← Nat.add_assoc, Nat.add_mul (B + r % B) 1, Nat.one_mul]
      · have e3 : r + 1 = B * (r / B + 1) := by rw [Nat.mul_add]; omega
        have e1 : (r + 1) / B = r / B + 1 := by rw [e3, Nat.mul_div_cancel_left _ hB]
        have e2 : (r + 1) % B = 0 := by rw [e3, Nat.mul_mod_right]
        rw [e1, e2]
        obtain ⟨q, hq'⟩ : ∃ q, r / B = q + 1 := ⟨r / B - 1, by omega⟩
        rw [hq']
        have e4 : r % B = B - 1 := by omega
        rw [e4]
        simp only [Nat.add_sub_cancel]
        rw [Nat.pow_succ, show B + (B - 1) = 2 * B - 1 by omega, Nat.add_zero, Nat.mul_comm (2 ^ q) 2, ← Nat.mul_assoc]
        rw [show B * 2 = (2 * B - 1) + 1 by omega, Nat.add_mul, Nat.one_mul]

theorem V_lt_succ (r : Nat) : V r < V (r + 1) := by
  rw [V_step]; have : 0 < 2 ^ (r / B - 1) := Nat.two_pow_pos _; omega

theorem V_lt {a b : Nat} (h : a < b) : V a < V b := by
  induction b with
  | zero => omega
  | succ n ih =>
    have := V_lt_succ n
    by_cases e : a = n
    · subst e; exact this
    · exact Nat.lt_trans (ih (by omega)) this

theorem V_le {a b : Nat} (h : a ≤ b) : V a ≤ V b := by
  by_cases e : a = b
  · subst e; exact Nat.le_refl _
  · exact Nat.le_of_lt (V_lt (by omega))

theorem V_lt_iff {a b : Nat} : V a < V b ↔ a < b := by
  refine ⟨fun h => ?_, V_lt⟩
  by_cases e : a < b
  · exact e
  · have := V_le (show b ≤ a by omega); omega

theorem V_le_iff {a b : Nat} : V a ≤ V b ↔ a ≤ b := by
  refine ⟨fun h => ?_, V_le⟩
  by_cases e : a ≤ b
  · exact e
  · have := V_lt (show b < a by omega); omega

theorem V_inj {a b : Nat} (h : V a = V b) : a = b := by
  have h1 := V_le_iff.1 (Nat.le_of_eq h)
  have h2 := V_le_iff.1 (Nat.le_of_eq h.symm)
  omega

theorem V_zero : V 0 = 0 := by decide

theorem V_pos {a : Nat} (h : 0 < a) : 0 < V a := by have := V_lt h; rw [V_zero] at this; exact this

/-- The value of a rung that lies 't' above the foot of binade 'j'. -/
theorem V_at (j t : Nat) (h1 : t < 2 * B) (h2 : 0 < j → B ≤ t) : V (j * B + t) = t * 2 ^ j := by
  have hB := B_pos
  unfold V
  by_cases h : t < B
  · have : j = 0 := by omega
    subst this
    rw [if_pos (by omega)]; simp
  · have hge : B ≤ j * B + t := by have := Nat.zero_le (j * B); omega
    rw [if_neg (by omega)]
    have e : j * B + t = B * (j + 1) + (t - B) := by rw [Nat.mul_add, Nat.mul_comm]; omega
    rw [e, Nat.mul_add_mod, Nat.mul_add_div hB, Nat.mod_eq_of_lt (by omega), Nat.div_eq_of_lt (show t - B < B by omega)]
    rw [show B + (t - B) = t by omega]; simp

theorem V_at_le (j t : Nat) (h1 : t ≤ 2 * B) (h2 : 0 < j → B ≤ t) : V (j * B + t) = t * 2 ^ j := by
  by_cases h : t < 2 * B
  · exact V_at j t h h2
  · have : t = 2 * B := by omega
    subst this
    have hB := B_pos
    rw [show j * B + 2 * B = (j + 1) * B + B by rw [Nat.add_mul]; omega, V_at (j + 1) B (by omega) (by omega), Nat.pow_succ, Nat.mul_comm 2 B, Nat.mul_assoc, Nat.mul_comm 2]

/-- Twice the midpoint of a rung and the next one. -/
def M (s : Nat) : Nat := V s + V (s + 1)

theorem M_lt {a b : Nat} (h : a < b) : M a < M b := by
  unfold M; have := V_lt h; have := V_lt (show a + 1 < b + 1 by omega); omega

/-- 'r' is the number n / d (in units of 2^-1074) rounded to nearest, ties to even. -/
def Rn (n d r : Nat) : Prop :=
  0 < d ∧ r ≤ INF ∧ ∀ s, s < INF → (r ≤ s ↔ 2 * n < M s * d ∨ (2 * n = M s * d ∧ s % 2 = 0))

theorem Rn.mono {n d r n' d' r' : Nat} (h : Rn n d r) (h' : Rn n' d' r') (hle : n * d' ≤ n' * d) : r ≤ r' := by
  obtain ⟨hd, hr, h⟩ := h
  obtain ⟨hd', hr', h'⟩ := h'
  by_cases hi : r' < INF
  · have h2 := (h' r' hi).1 (Nat.le_refl _)
    refine (h r' hi).2 ?_
    -- compare
    have key : 2 * n * d' ≤ 2 * n' * d := by rw [Nat.mul_assoc, Nat.mul_assoc]; exact Nat.mul_le_mul_left 2 hle
    rcases h2 with h2 | ⟨h2, he⟩
    · left
      have a1 : 2 * n' * d < M r' * d' * d := Nat.mul_lt_mul_of_pos_right h2 hd
      have a2 : 2 * n * d' < M r' * d * d' := by
        rw [Nat.mul_assoc (M r'), Nat.mul_comm d d', ← Nat.mul_assoc]; omega
      exact Nat.lt_of_mul_lt_mul_right a2
    · have a1 : 2 * n' * d = M r' * d * d' := by rw [h2, Nat.mul_assoc, Nat.mul_comm d' d, ← Nat.mul_assoc]
      have a2 : 2 * n * d' ≤ M r' * d * d' := by omega
      have a3 : 2 * n ≤ M r' * d := Nat.le_of_mul_le_mul_right a2 hd'
      by_cases e : 2 * n = M r' * d
      · exact .inr ⟨e, he⟩
      · left; omega
  · omega

theorem Rn.unique {n d r n' d' r' : Nat} (h : Rn n d r) (h' : Rn n' d' r') (he : n * d' = n' * d) : r = r' :=
  Nat.le_antisymm (h.mono h' (Nat.le_of_eq he)) (h'.mono h (Nat.le_of_eq he.symm))

/-- A number of the format is its own rounding. -/
theorem Rn.exact (r : Nat) (h : r ≤ INF) : Rn (V r) 1 r := by
  refine ⟨Nat.one_pos, h, fun s hs => ⟨fun hle => ?_, fun hc => ?_⟩⟩
  · left; unfold M; have := V_le hle; have := V_lt_succ s; omega
  · by_cases e : r ≤ s
    · exact e
    · exfalso
      have h1 := V_le (show s + 1 ≤ r by omega)
      have h2 := V_lt_succ s
      unfold M at hc
      rcases hc with hc | ⟨hc, _⟩ <;> omega

/-- Rounding to even of n / 2^drop as a test. -/
theorem cut_le (neg : Bool) (n drop t : Nat) :
    Toward.even.cut neg n drop ≤ t ↔ 2 * n < (2 * t + 1) * 2 ^ drop ∨ (2 * n = (2 * t + 1) * 2 ^ drop ∧ t % 2 = 0) := by
  have hpow : 1 <<< min drop (n.log2 + 2) = 2 ^ min drop (n.log2 + 2) := by rw [Nat.shiftLeft_eq, Nat.one_mul]
  unfold Toward.cut
  simp only [hpow]
  by_cases hd : drop ≤ n.log2 + 2
  · rw [Nat.min_eq_left hd]
    generalize hD : 2 ^ drop = D
    have hDp : 0 < D := by rw [← hD]; exact Nat.two_pow_pos _
    have hn := Nat.div_add_mod n D
    have hr := Nat.mod_lt n hDp
    generalize n / D = low at *
    generalize n % D = rest at *
    rcases Nat.lt_trichotomy t low with h | h | h
    · have h1 : D * (t + 1) ≤ D * low := Nat.mul_le_mul_left D h
      rw [Nat.mul_add] at h1
      have h2 : (2 * t + 1) * D = 2 * (D * t) + D := by rw [Nat.add_mul, Nat.mul_assoc, Nat.mul_comm t D]; omega
      rw [h2]
      constructor
      · intro h; omega
      · intro h; omega
    · subst h
      have h2 : (2 * t + 1) * D = 2 * (D * t) + D := by rw [Nat.add_mul, Nat.mul_assoc, Nat.mul_comm t D]; omega
      rw [h2]
      by_cases c1 : D < 2 * rest
      · simp [c1]; omega
      · by_cases c2 : D = 2 * rest
        · have c3 : decide (D < 2 * rest) = false := by simp [c1]
          have c4 : (D == 2 * rest) = true := by simp [c2]
          rcases Nat.mod_two_eq_zero_or_one t with h0 | h0
          · have : (t % 2 == 1) = false := by simp [h0]
            simp only [c3, c4, this]; simp; right; omega
          · have : (t % 2 == 1) = true := by simp [h0]
            simp only [c3, c4, this]; simp; omega
        · have c3 : decide (D < 2 * rest) = false := by simp [c1]
          have c4 : (D == 2 * rest) = false := by simp [c2]
          simp only [c3, c4]; simp; left; omega
    · have h1 : D * (low + 1) ≤ D * t := Nat.mul_le_mul_left D h
      rw [Nat.mul_add] at h1
      have h2 : (2 * t + 1) * D = 2 * (D * t) + D := by rw [Nat.add_mul, Nat.mul_assoc, Nat.mul_comm t D]; omega
      rw [h2]
      have hb : ∀ b : Bool, b.toNat ≤ 1 := fun b => by cases b <;> decide
      have := hb ((decide (D < 2 * rest)) || (D == 2 * rest && low % 2 == 1))
      constructor
      · intro _; left; omega
      · intro _; omega
  · rw [Nat.min_eq_right (by omega)]
    have hlt : n < 2 ^ (n.log2 + 1) := Nat.lt_log2_self
    have hG : (2 : Nat) ^ (n.log2 + 2) = 2 * 2 ^ (n.log2 + 1) := by rw [show n.log2 + 2 = (n.log2 + 1) + 1 by omega, Nat.pow_succ]; omega
    have hGD : (2 : Nat) ^ (n.log2 + 2) ≤ 2 ^ drop := Nat.pow_le_pow_right (by omega) (by omega)
    rw [hG] at *
    generalize (2 : Nat) ^ (n.log2 + 1) = g at *
    generalize (2 : Nat) ^ drop = D at *
    rw [Nat.div_eq_of_lt (by omega), Nat.mod_eq_of_lt (by omega)]
    have c1 : decide (2 * g < 2 * n) = false := by simp; omega
    have c2 : (2 * g == 2 * n) = false := by simp; omega
    simp only [c1, c2]
    simp
    left
    have : 1 * D ≤ (2 * t + 1) * D := Nat.mul_le_mul_right D (by omega)
    omega

end Go.Proofs.YtgbdplmpojkklaaDoor
