import Derived.Test.YtgbdplmpojkklaaDoorFpC
namespace Go.Proofs.YtgbdplmpojkklaaDoor
open Ieee

/-- The tests of a rounding of Q * 2^e at s, when the true number lies strictly between (Q-1) and (Q+1) (Q odd), are those of the true number. -/
theorem sticky_side (f p q s A : Nat) (hA : A = 2 ^ (p + 1)) (hf : 2 ^ 53 ≤ f) :
    M s * 2 ^ q ≤ 2 * f * A ∨ (2 * f + 2) * A ≤ M s * 2 ^ q := by
  rw [M_eq]
  have hm := mg_lt s
  have hBp := B_pow
  by_cases h : p + 2 ≤ pl s + q
  · -- a multiple of 2 A
    obtain ⟨k, hk⟩ : ∃ k, pl s + q = p + 2 + k := ⟨pl s + q - (p + 2), by omega⟩
    have e : (2 * mg s + 1) * 2 ^ pl s * 2 ^ q = (2 * mg s + 1) * 2 ^ k * (2 * A) := by
      rw [hA, Nat.mul_assoc, ← Nat.pow_add, hk, show p + 2 + k = k + ((p + 1) + 1) by omega, Nat.pow_add, ← Nat.mul_assoc, Nat.pow_succ 2 (p + 1), Nat.mul_comm (2 ^ (p + 1)) 2]
    rw [e]
    have hAp : 0 < A := by rw [hA]; exact Nat.two_pow_pos _
    generalize (2 * mg s + 1) * 2 ^ k = c
    by_cases hc : c ≤ f
    · left
      have := Nat.mul_le_mul_right (2 * A) hc
      rw [Nat.mul_comm 2 f, Nat.mul_assoc]; exact this
    · right
      have := Nat.mul_le_mul_right (2 * A) (show f + 1 ≤ c by omega)
      rw [show 2 * f + 2 = (f + 1) * 2 by omega, Nat.mul_assoc]; exact this
  · left
    have h1 : 2 ^ pl s * 2 ^ q ≤ A := by
      rw [hA, ← Nat.pow_add]; exact Nat.pow_le_pow_right (by omega) (by omega)
    rw [Nat.mul_assoc]
    have h2 : 2 * mg s + 1 ≤ 2 * f := by
      have h54 : (2 : Nat) ^ 53 = 2 * 2 ^ 52 := by decide
      omega
    exact Nat.mul_le_mul h2 h1

theorem pw1 (m a b c d : Nat) : 2 * (m * 2 ^ a * 2 ^ b) * 2 ^ c * 2 ^ d = m * 2 ^ (1 + (a + b + c) + d) := by
  simp only [Nat.pow_add, Nat.pow_one]
  generalize 2 ^ a = x; generalize 2 ^ b = y; generalize 2 ^ c = z; generalize 2 ^ d = w
  simp only [Nat.mul_assoc, Nat.mul_comm, Nat.mul_left_comm]
theorem pw2 (m a b p : Nat) : m * 2 ^ a * 2 * 2 ^ (p + 1) * (2 ^ b * 2 ^ a) = m * 2 ^ (1 + (b + a + 1 + p) + a) := by
  simp only [Nat.pow_add, Nat.pow_one]
  generalize 2 ^ a = x; generalize 2 ^ b = y; generalize 2 ^ p = z
  simp only [Nat.mul_assoc, Nat.mul_comm, Nat.mul_left_comm]
theorem ac3 (a b c d : Nat) : a * (b * c) * d = a * d * b * c := by rw [← Nat.mul_assoc, Nat.mul_right_comm, Nat.mul_right_comm a b d]
theorem ac4 (a b c : Nat) : a * b * 2 * c = 2 * b * c * a := by simp only [Nat.mul_assoc, Nat.mul_comm, Nat.mul_left_comm]

theorem div_fin (s t : Bool) (a b : Nat) (ha : a < INF) (hb : b < INF) (hb0 : 0 < b) :
    ∃ r, double.div (double.word s a) (double.word t b) = some (double.word (s ^^ t) r) ∧ Rn (V a * U) (V b) r := by
  have hIS := INF_lt_SGN
  have hUE : UE = 1074 := rfl
  unfold Format.div
  rw [read_word s a (by omega), read_word t b (by omega), dat_fin ha, dat_fin hb]
  have hn0 : mg b ≠ 0 := fun h => by rw [mg_zero] at h; omega
  simp only [Datum.quotient, if_neg hn0, Option.map_some, Format.write, nearest_eq]
  refine ⟨_, rfl, ?_⟩
  rw [show double.fractionBits + 2 = 54 from rfl]
  by_cases ha0 : a = 0
  · -- nought over something
    have hm0 : mg a = 0 := mg_zero.2 ha0
    rw [hm0]
    have : V a = 0 := by rw [ha0]; exact V_zero
    rw [this, Nat.zero_mul]
    have e0 : 2 * (0 <<< (54 + (mg b).log2 - Nat.log2 0) / mg b) + (0 <<< (54 + (mg b).log2 - Nat.log2 0) % mg b != 0).toNat = 0 := by
      simp
    rw [e0]
    refine (rung_Rn _ _).congr (V_pos hb0) ?_
    simp
  · have hm0 : mg a ≠ 0 := fun h => ha0 (mg_zero.1 h)
    have hVa := V_eq a
    have hVb := V_eq b
    have hlm : (mg a).log2 = (mg a).log2 := rfl
    have hlo : 2 ^ (mg a).log2 ≤ mg a := Nat.log2_self_le hm0
    have hhi : mg b < 2 ^ ((mg b).log2 + 1) := Nat.lt_log2_self
    have hnp : 0 < mg b := by omega
    obtain ⟨more, hmore⟩ : ∃ more, 54 + (mg b).log2 - (mg a).log2 = more := ⟨_, rfl⟩
    rw [hmore]
    have hmm : 54 + (mg b).log2 ≤ (mg a).log2 + more := by omega
    rw [Nat.shiftLeft_eq]
    generalize hdd : mg a * 2 ^ more = dd
    have hf : 2 ^ 53 ≤ dd / mg b := by
      rw [Nat.le_div_iff_mul_le hnp]
      have h1 : 2 ^ 53 * mg b ≤ 2 ^ 53 * 2 ^ ((mg b).log2 + 1) := Nat.mul_le_mul_left _ (by omega)
      have h2 : (2 : Nat) ^ 53 * 2 ^ ((mg b).log2 + 1) ≤ 2 ^ ((mg a).log2 + more) := by
        rw [← Nat.pow_add]; exact Nat.pow_le_pow_right (by omega) (by omega)
      have h3 : 2 ^ ((mg a).log2 + more) ≤ dd := by
        rw [← hdd, Nat.pow_add]; exact Nat.mul_le_mul_right _ hlo
      omega
    have hdm := Nat.div_add_mod dd (mg b)
    have hml := Nat.mod_lt dd hnp
    generalize dd / mg b = f at *
    generalize dd % mg b = rho at *
    obtain ⟨hd1, hr, hR⟩ := rung_Rn (2 * f + (rho != 0).toNat) (-1074 + (pl a : Int) - (-1074 + (pl b : Int)) - (more : Int) - 1)
    generalize hrr : rung (2 * f + (rho != 0).toNat) (-1074 + (pl a : Int) - (-1074 + (pl b : Int)) - (more : Int) - 1) = r at *
    generalize hp : (-1074 + (pl a : Int) - (-1074 + (pl b : Int)) - (more : Int) - 1 + 1074).toNat = p at *
    generalize hq : (-(-1074 + (pl a : Int) - (-1074 + (pl b : Int)) - (more : Int) - 1 + 1074)).toNat = q at *
    have hpq : pl a + UE + q = pl b + more + 1 + p := by omega
    refine ⟨V_pos hb0, hr, fun s' hs' => ?_⟩
    rw [hR s' hs']
    -- both sides against C / A
    obtain ⟨A, hA⟩ : ∃ A, A = 2 ^ (p + 1) := ⟨_, rfl⟩
    have hAp : 0 < A := by rw [hA]; exact Nat.two_pow_pos _
    have hC := sticky_side f p q s' A hA hf
    have eL : 2 * ((2 * f + (rho != 0).toNat) * 2 ^ p) = (2 * f + (rho != 0).toNat) * A := by
      rw [hA, Nat.pow_succ, Nat.mul_comm (2 ^ p) 2, ← Nat.mul_assoc, ← Nat.mul_assoc, Nat.mul_comm 2]
    rw [eL]
    -- the true quotient: 2 * V a * U * (2^q * 2^more) = 2 * dd * A * 2^pl b * 2^more ...
    have eT : 2 * (V a * U) * 2 ^ q * 2 ^ more = dd * 2 * A * (2 ^ pl b * 2 ^ more) := by
      rw [hVa, ← hdd, hA]
      unfold U
      rw [pw1, pw2, hpq]
    have eT' : 2 * (V a * U) * 2 ^ q = dd * 2 * A * 2 ^ pl b := by
      rw [← Nat.mul_assoc _ (2 ^ pl b)] at eT
      exact Nat.eq_of_mul_eq_mul_right (Nat.two_pow_pos _) eT
    have hqp : 0 < 2 ^ q := Nat.two_pow_pos _
    have hbp : 0 < 2 ^ pl b := Nat.two_pow_pos _
    have hlt : 2 * (V a * U) < M s' * V b ↔ dd * 2 * A < M s' * 2 ^ q * mg b := by
      rw [← Nat.mul_lt_mul_right hqp, eT', hVb]
      rw [show M s' * (mg b * 2 ^ pl b) * 2 ^ q = M s' * 2 ^ q * mg b * 2 ^ pl b from ac3 _ _ _ _]
      exact Nat.mul_lt_mul_right hbp
    have heq : 2 * (V a * U) = M s' * V b ↔ dd * 2 * A = M s' * 2 ^ q * mg b := by
      constructor
      · intro h
        have h1 : dd * 2 * A * 2 ^ pl b = M s' * 2 ^ q * mg b * 2 ^ pl b := by
          rw [← eT', h, hVb]; exact ac3 _ _ _ _
        exact Nat.eq_of_mul_eq_mul_right hbp h1
      · intro h
        have h1 : 2 * (V a * U) * 2 ^ q = M s' * V b * 2 ^ q := by
          rw [eT', h, hVb]; exact (ac3 _ _ _ _).symm
        exact Nat.eq_of_mul_eq_mul_right hqp h1
    rw [hlt, heq]
    generalize M s' * 2 ^ q = C at *
    have edd : dd * 2 * A = (2 * f * A) * mg b + 2 * rho * A := by
      rw [← hdm, Nat.add_mul, Nat.add_mul, Nat.mul_comm rho 2]
      rw [ac4]
    rw [edd]
    by_cases hz : rho = 0
    · subst hz
      simp only [bne_self_eq_false, Bool.toNat_false, Nat.add_zero, Nat.mul_zero, Nat.zero_mul]
      rw [Nat.mul_lt_mul_right hnp]
      constructor
      · rintro (h | ⟨h, h'⟩)
        · exact .inl h
        · exact .inr ⟨by rw [h], h'⟩
      · rintro (h | ⟨h, h'⟩)
        · exact .inl h
        · exact .inr ⟨Nat.eq_of_mul_eq_mul_right hnp h, h'⟩
    · have e1 : (rho != 0).toNat = 1 := by simp [hz]
      rw [e1]
      have hrp : 0 < 2 * rho * A := Nat.mul_pos (by omega) hAp
      have hrl : 2 * rho * A < 2 * A * mg b := by
        rw [Nat.mul_assoc, Nat.mul_assoc, Nat.mul_comm A]
        exact (Nat.mul_lt_mul_left (by omega)).2 ((Nat.mul_lt_mul_right hAp).2 hml)
      have e2 : (2 * f + 1) * A = 2 * f * A + A := by rw [Nat.add_mul, Nat.one_mul]
      have e3 : (2 * f + 2) * A = 2 * f * A + 2 * A := by rw [Nat.add_mul]
      rw [e2]
      rw [e3] at hC
      rcases hC with hC | hC
      · have h1 : C * mg b ≤ 2 * f * A * mg b := Nat.mul_le_mul_right _ hC
        constructor
        · rintro (h | ⟨h, _⟩) <;> omega
        · rintro (h | ⟨h, _⟩) <;> omega
      · have h1 : (2 * f * A + 2 * A) * mg b ≤ C * mg b := Nat.mul_le_mul_right _ hC
        rw [Nat.add_mul] at h1
        exact ⟨fun _ => .inl (by omega), fun _ => .inl (by omega)⟩

end Go.Proofs.YtgbdplmpojkklaaDoor
