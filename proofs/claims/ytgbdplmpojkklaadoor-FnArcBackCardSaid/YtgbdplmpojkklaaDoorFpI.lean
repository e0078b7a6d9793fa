/-
The square root: the true root rounded; it grows with its argument.
-/
import Derived.Test.YtgbdplmpojkklaaDoorFpG
namespace Go.Proofs.YtgbdplmpojkklaaDoor
open Ieee

theorem sq_lt {a b : Nat} : a * a < b * b ↔ a < b := by
  constructor
  · intro h
    by_cases hh : a < b
    · exact hh
    · have := Nat.mul_le_mul (show b ≤ a by omega) (show b ≤ a by omega); omega
  · intro h; exact Nat.mul_lt_mul_of_lt_of_le h (Nat.le_of_lt h) (by omega)
theorem sq_le {a b : Nat} : a * a ≤ b * b ↔ a ≤ b := by
  have := @sq_lt b a
  omega
theorem sq_eq {a b : Nat} : a * a = b * b ↔ a = b := by
  have h1 := @sq_lt a b
  have h2 := @sq_lt b a
  omega

theorem rootFrom_spec (n : Nat) : ∀ (todo root : Nat), root * root ≤ n → n < (root + 2 ^ todo) * (root + 2 ^ todo) →
    Datum.rootFrom n todo root * Datum.rootFrom n todo root ≤ n ∧ n < (Datum.rootFrom n todo root + 1) * (Datum.rootFrom n todo root + 1)
  | 0, root, h1, h2 => ⟨h1, h2⟩
  | todo + 1, root, h1, h2 => by
    unfold Datum.rootFrom
    simp only [Nat.shiftLeft_eq, Nat.one_mul]
    have e : root + 2 ^ (todo + 1) = root + 2 ^ todo + 2 ^ todo := by rw [Nat.pow_succ]; omega
    rw [e] at h2
    split
    · next h => exact rootFrom_spec n todo _ h h2
    · next h => exact rootFrom_spec n todo _ h1 (by omega)

/-- 'r' is the root of N (units: 2^-1074) rounded to nearest, ties to even. -/
def RnSq (n r : Nat) : Prop := r ≤ INF ∧ ∀ s, s < INF → (r ≤ s ↔ 4 * n < M s * M s ∨ (4 * n = M s * M s ∧ s % 2 = 0))

theorem RnSq.mono {n r n' r' : Nat} (h : RnSq n r) (h' : RnSq n' r') (hle : n ≤ n') : r ≤ r' := by
  by_cases hi : r' < INF
  · have h2 := (h'.2 r' hi).1 (Nat.le_refl _)
    refine (h.2 r' hi).2 ?_
    rcases h2 with h2 | ⟨h2, he⟩
    · left; omega
    · by_cases e : 4 * n = M r' * M r'
      · exact .inr ⟨e, he⟩
      · left; omega
  · have := h.1; omega

theorem sq_scale (x y : Nat) : x * y * (x * y) = x * x * (y * y) := by
  rw [Nat.mul_assoc, Nat.mul_left_comm y x y, ← Nat.mul_assoc]

theorem pw3 (m p u k : Nat) : m * 2 ^ p * 2 ^ u * 2 ^ k = m * 2 ^ k * 2 ^ (p + u) := by
  rw [Nat.pow_add]
  generalize 2 ^ p = x; generalize 2 ^ u = y; generalize 2 ^ k = z
  rw [Nat.mul_assoc, Nat.mul_assoc, Nat.mul_assoc, Nat.mul_comm z, ← Nat.mul_assoc x y z]

theorem sqrt_fin {a : Nat} (ha : a < INF) (h0 : 0 < a) : ∃ r, double.sqrt a = some r ∧ RnSq (V a * U) r := by
  have hIS := INF_lt_SGN
  have hUE : UE = 1074 := rfl
  have hrd := read_word false a (by omega)
  rw [word_false, dat_fin ha] at hrd
  unfold Format.sqrt
  rw [hrd]
  have hm0 : mg a ≠ 0 := fun h => by rw [mg_zero] at h; omega
  simp only [Datum.root, if_neg hm0, Bool.false_eq_true, if_false, Option.map_some, Format.write, nearest_eq]
  rw [show double.fractionBits + 2 = 54 from rfl]
  refine ⟨_, rfl, ?_⟩
  rw [word_false]
  have hV := V_eq a
  obtain ⟨m0, hm0'⟩ : ∃ m0, 2 * 54 - (mg a).log2 = m0 := ⟨_, rfl⟩
  rw [hm0']
  obtain ⟨par, hpar⟩ : ∃ par : Nat, ((-1074 + (pl a : Int) - (m0 : Int)) % 2).toNat = par := ⟨_, rfl⟩
  rw [hpar]
  obtain ⟨more, hmore⟩ : ∃ more, m0 + par = more := ⟨_, rfl⟩
  rw [hmore, Nat.shiftLeft_eq]
  obtain ⟨h, hh⟩ : ∃ h : Int, -1074 + (pl a : Int) - (more : Int) = 2 * h := ⟨(-1074 + (pl a : Int) - (more : Int)) / 2, by omega⟩
  rw [hh, show 2 * h / 2 = h by omega]
  have hlo : 2 ^ (mg a).log2 ≤ mg a := Nat.log2_self_le hm0
  have hbig : 2 ^ 108 ≤ mg a * 2 ^ more := by
    have h1 : 2 ^ ((mg a).log2 + more) ≤ mg a * 2 ^ more := by rw [Nat.pow_add]; exact Nat.mul_le_mul_right _ hlo
    have h2 : (2 : Nat) ^ 108 ≤ 2 ^ ((mg a).log2 + more) := Nat.pow_le_pow_right (by omega) (by omega)
    omega
  obtain ⟨n, hn⟩ : ∃ n, mg a * 2 ^ more = n := ⟨_, rfl⟩
  have hVU : V a * U * 2 ^ more = n * 2 ^ (pl a + UE) := by
    rw [hV, ← hn]; unfold U; exact pw3 _ _ _ _
  rw [hn] at hbig ⊢
  have hn0 : n ≠ 0 := by have : 0 < 2 ^ 108 := by decide
                         omega
  have hstart : n < (0 + 2 ^ (n.log2 / 2 + 1)) * (0 + 2 ^ (n.log2 / 2 + 1)) := by
    rw [Nat.zero_add, ← Nat.pow_add]
    have h1 : n < 2 ^ (n.log2 + 1) := Nat.lt_log2_self
    have h2 : (2 : Nat) ^ (n.log2 + 1) ≤ 2 ^ (n.log2 / 2 + 1 + (n.log2 / 2 + 1)) := Nat.pow_le_pow_right (by omega) (by omega)
    omega
  obtain ⟨w1, w2⟩ := rootFrom_spec n (n.log2 / 2 + 1) 0 (Nat.zero_le _) hstart
  generalize Datum.rootFrom n (n.log2 / 2 + 1) 0 = wh at *
  have hf : 2 ^ 53 ≤ wh := by
    have h1 : (2 : Nat) ^ 54 * 2 ^ 54 < (wh + 1) * (wh + 1) := by
      have e : (2 : Nat) ^ 54 * 2 ^ 54 = 2 ^ 108 := by decide
      omega
    have h2 := sq_lt.1 h1
    have h3 : (2 : Nat) ^ 54 = 2 * 2 ^ 53 := by decide
    omega
  obtain ⟨hd1, hr, hR⟩ := rung_Rn (2 * wh + (wh * wh != n).toNat) (h - 1)
  generalize rung (2 * wh + (wh * wh != n).toNat) (h - 1) = r at *
  generalize hp : (h - 1 + 1074).toNat = p at *
  generalize hq : (-(h - 1 + 1074)).toNat = q at *
  refine ⟨hr, fun s hs => ?_⟩
  rw [hR s hs]
  obtain ⟨A, hA⟩ : ∃ A, A = 2 ^ (p + 1) := ⟨_, rfl⟩
  have hAp : 0 < A := by rw [hA]; exact Nat.two_pow_pos _
  have hC := sticky_side wh p q s A hA hf
  have eL : 2 * ((2 * wh + (wh * wh != n).toNat) * 2 ^ p) = (2 * wh + (wh * wh != n).toNat) * A := by
    rw [hA, Nat.pow_succ, Nat.mul_comm (2 ^ p) 2, ← Nat.mul_assoc, ← Nat.mul_assoc, Nat.mul_comm 2]
  rw [eL]
  -- the true root: 4 V U 2^(2q) = 4 n A A
  have hpw : pl a + UE + 2 * q = 2 * (p + 1) + more := by omega
  have eT : V a * U * (2 ^ q * 2 ^ q) = n * (A * A) := by
    have h1 : V a * U * (2 ^ q * 2 ^ q) * 2 ^ more = n * (A * A) * 2 ^ more := by
      rw [Nat.mul_right_comm, hVU, hA, ← Nat.pow_add, ← Nat.pow_add, Nat.mul_assoc, ← Nat.pow_add, Nat.mul_assoc, ← Nat.pow_add]
      congr 2; omega
    exact Nat.eq_of_mul_eq_mul_right (Nat.two_pow_pos _) h1
  have hqp : 0 < 2 ^ q * 2 ^ q := Nat.mul_pos (Nat.two_pow_pos _) (Nat.two_pow_pos _)
  have eC : M s * M s * (2 ^ q * 2 ^ q) = M s * 2 ^ q * (M s * 2 ^ q) := (sq_scale _ _).symm
  have hlt : 4 * (V a * U) < M s * M s ↔ 4 * (n * (A * A)) < M s * 2 ^ q * (M s * 2 ^ q) := by
    rw [← Nat.mul_lt_mul_right hqp, Nat.mul_assoc 4, eT, eC]
  have heq : 4 * (V a * U) = M s * M s ↔ 4 * (n * (A * A)) = M s * 2 ^ q * (M s * 2 ^ q) := by
    constructor
    · intro h1
      have : 4 * (V a * U) * (2 ^ q * 2 ^ q) = M s * M s * (2 ^ q * 2 ^ q) := by rw [h1]
      rw [Nat.mul_assoc 4, eT, eC] at this; exact this
    · intro h1
      have : 4 * (V a * U) * (2 ^ q * 2 ^ q) = M s * M s * (2 ^ q * 2 ^ q) := by rw [Nat.mul_assoc 4, eT, eC]; exact h1
      exact Nat.eq_of_mul_eq_mul_right hqp this
  rw [hlt, heq]
  generalize M s * 2 ^ q = C at *
  have e4 : ∀ k, 4 * (k * k * (A * A)) = (2 * k * A) * (2 * k * A) := by
    intro k
    rw [sq_scale (2 * k) A, sq_scale 2 k, ← Nat.mul_assoc, Nat.mul_assoc 4]
  by_cases hz : wh * wh = n
  · have e1 : (wh * wh != n).toNat = 0 := by simp [hz]
    rw [e1, Nat.add_zero, ← hz, e4, sq_lt, sq_eq]
  · have e1 : (wh * wh != n).toNat = 1 := by simp [hz]
    rw [e1]
    have hAA : 0 < A * A := Nat.mul_pos hAp hAp
    have g1 : wh * wh * (A * A) < n * (A * A) := Nat.mul_lt_mul_of_pos_right (by omega) hAA
    have g2 : n * (A * A) < (wh + 1) * (wh + 1) * (A * A) := Nat.mul_lt_mul_of_pos_right w2 hAA
    have g3 := e4 wh
    have g4 := e4 (wh + 1)
    have e2 : (2 * wh + 1) * A = 2 * wh * A + A := by rw [Nat.add_mul, Nat.one_mul]
    have e3 : 2 * (wh + 1) * A = (2 * wh + 2) * A := by rw [Nat.mul_add]
    rw [e3] at g4
    rw [e2]
    rcases hC with hC | hC
    · have k1 := sq_le.2 hC
      constructor
      · rintro (h1 | ⟨h1, _⟩) <;> omega
      · rintro (h1 | ⟨h1, _⟩) <;> omega
    · have k1 := sq_le.2 hC
      have e5 : (2 * wh + 2) * A = 2 * wh * A + 2 * A := by rw [Nat.add_mul]
      exact ⟨fun _ => .inl (by omega), fun _ => .inl (by omega)⟩

theorem fsqrt_RnSq {a : Nat} (ha : a < INF) (h0 : 0 < a) : RnSq (V a * U) (fsqrt a) := by
  obtain ⟨r, h, hr⟩ := sqrt_fin ha h0
  unfold fsqrt; rw [h]; exact hr

theorem fsqrt_zero : fsqrt 0 = 0 := by decide +kernel

theorem fsqrt_mono {a b : Nat} (hb : b < INF) (h : a ≤ b) : fsqrt a ≤ fsqrt b := by
  by_cases h0 : a = 0
  · subst h0; rw [fsqrt_zero]; exact Nat.zero_le _
  · exact (fsqrt_RnSq (by omega) (by omega)).mono (fsqrt_RnSq hb (by omega)) (Nat.mul_le_mul_right _ (V_le h))

end Go.Proofs.YtgbdplmpojkklaaDoor
