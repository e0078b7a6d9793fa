import Derived.Test.YtgbdplmpojkklaaDoorFpA
namespace Go.Proofs.YtgbdplmpojkklaaDoor
open Ieee

theorem cut_neg (neg : Bool) (n drop : Nat) : Toward.even.cut neg n drop = Toward.even.cut false n drop := rfl

/-- The rung nearest to m * 2^e. -/
def rung (m : Nat) (e : Int) : Nat :=
  if m = 0 then 0 else
  min ((max (e + m.log2 - 52) (-1074) + 1074).toNat * B +
    Toward.even.cut false (m <<< (e - max (e + m.log2 - 52) (-1074)).toNat) (max (e + m.log2 - 52) (-1074) - e).toNat) INF

theorem nearest_eq (neg : Bool) (m : Nat) (e : Int) : double.nearest neg m e = double.word neg (rung m e) := by
  unfold Format.nearest rung
  rw [least_eq, binade_eq, infRung_eq, fr_eq]
  by_cases h : m = 0
  · simp [h]
  · simp only [if_neg h]
    rfl

theorem min_le_of_lt {x i s : Nat} (h : s < i) : min x i ≤ s ↔ x ≤ s := by omega

theorem pow_split (a b c d : Nat) (m : Nat) (h : a + b = c + d) : m * 2 ^ a * 2 ^ b = m * 2 ^ c * 2 ^ d := by
  rw [Nat.mul_assoc, ← Nat.pow_add, h, Nat.pow_add, Nat.mul_assoc]

theorem rung_Rn (m : Nat) (e : Int) : Rn (m * 2 ^ (e + 1074).toNat) (2 ^ (-(e + 1074)).toNat) (rung m e) := by
  unfold rung
  by_cases h0 : m = 0
  · rw [if_pos h0, h0, Nat.zero_mul]
    refine ⟨Nat.two_pow_pos _, Nat.zero_le _, fun s _ => ⟨fun _ => .inl ?_, fun _ => Nat.zero_le _⟩⟩
    have : 0 < M s := by unfold M; have := V_lt_succ s; omega
    exact Nat.mul_pos this (Nat.two_pow_pos _)
  · rw [if_neg h0]
    have hlo : 2 ^ m.log2 ≤ m := Nat.log2_self_le h0
    have hhi : m < 2 ^ (m.log2 + 1) := Nat.lt_log2_self
    generalize hL : m.log2 = L at *
    generalize hlast : max (e + (L : Int) - 52) (-1074) = last
    have hl1 : -1074 ≤ last := by omega
    have hl2 : e + L - 52 ≤ last := by omega
    have hl3 : last = -1074 ∨ last = e + L - 52 := by omega
    clear hlast hL
    obtain ⟨j, hj⟩ : ∃ j : Nat, last = (j : Int) - 1074 := ⟨(last + 1074).toNat, by omega⟩
    subst hj
    rw [show ((j : Int) - 1074 + 1074).toNat = j by omega]
    generalize hu : (e - ((j : Int) - 1074)).toNat = up
    generalize hdr : ((j : Int) - 1074 - e).toNat = drop
    generalize hp : (e + 1074).toNat = p
    generalize hq : (-(e + 1074)).toNat = q
    rw [Nat.shiftLeft_eq]
    have hsum : p + drop = up + (j + q) := by omega
    have hc := fun t => cut_le false (m * 2 ^ up) drop t
    generalize hk : Toward.even.cut false (m * 2 ^ up) drop = kept at *
    have heq : m * 2 ^ p * 2 ^ drop = m * 2 ^ up * (2 ^ j * 2 ^ q) := by
      rw [← Nat.pow_add]; exact pow_split _ _ _ _ _ hsum
    -- the upper end
    have hup : m * 2 ^ p < 2 * B * 2 ^ j * 2 ^ q := by
      have a1 : m * 2 ^ p < 2 ^ (L + 1) * 2 ^ p := Nat.mul_lt_mul_of_pos_right hhi (Nat.two_pow_pos _)
      have a2 : 2 ^ (L + 1) * 2 ^ p ≤ 2 * B * 2 ^ j * 2 ^ q := by
        rw [B_pow, show (2 : Nat) * 2 ^ 52 = 2 ^ 53 by decide, ← Nat.pow_add, ← Nat.pow_add, ← Nat.pow_add]
        exact Nat.pow_le_pow_right (by omega) (by omega)
      omega
    have hlow : 0 < j → B * 2 ^ j * 2 ^ q ≤ m * 2 ^ p := by
      intro hj
      have a1 : 2 ^ L * 2 ^ p ≤ m * 2 ^ p := Nat.mul_le_mul_right _ hlo
      have a2 : B * 2 ^ j * 2 ^ q ≤ 2 ^ L * 2 ^ p := by
        rw [B_pow, ← Nat.pow_add, ← Nat.pow_add, ← Nat.pow_add]
        exact Nat.pow_le_pow_right (by omega) (by omega)
      omega
    have hDp : 0 < 2 ^ drop := Nat.two_pow_pos _
    have hJp : 0 < 2 ^ j := Nat.two_pow_pos _
    have hQp : 0 < 2 ^ q := Nat.two_pow_pos _
    generalize (2 : Nat) ^ drop = D at *
    generalize hX : m * 2 ^ p = X at *
    generalize hN : m * 2 ^ up = N at *
    generalize hJQ : (2 : Nat) ^ j * 2 ^ q = E at *
    have hEp : 0 < E := by rw [← hJQ]; exact Nat.mul_pos hJp hQp
    -- the test of the cut, in X
    have hc' : ∀ t, kept ≤ t ↔ 2 * X < (2 * t + 1) * E ∨ (2 * X = (2 * t + 1) * E ∧ t % 2 = 0) := by
      intro t
      rw [hc t]
      have e1 : 2 * N < (2 * t + 1) * D ↔ 2 * X < (2 * t + 1) * E := by
        constructor
        · intro h
          have h1 : 2 * N * E < (2 * t + 1) * D * E := Nat.mul_lt_mul_of_pos_right h hEp
          have h2 : 2 * X * D = 2 * N * E := by rw [Nat.mul_assoc, heq, Nat.mul_assoc]
          have h3 : 2 * X * D < (2 * t + 1) * E * D := by rw [h2, Nat.mul_assoc _ E D, Nat.mul_comm E D, ← Nat.mul_assoc]; exact h1
          exact Nat.lt_of_mul_lt_mul_right h3
        · intro h
          have h1 : 2 * X * D < (2 * t + 1) * E * D := Nat.mul_lt_mul_of_pos_right h hDp
          have h2 : 2 * X * D = 2 * N * E := by rw [Nat.mul_assoc, heq, Nat.mul_assoc]
          have h3 : 2 * N * E < (2 * t + 1) * D * E := by rw [← h2, Nat.mul_assoc _ D E, Nat.mul_comm D E, ← Nat.mul_assoc]; exact h1
          exact Nat.lt_of_mul_lt_mul_right h3
      have e2 : 2 * N = (2 * t + 1) * D ↔ 2 * X = (2 * t + 1) * E := by
        constructor
        · intro h
          have h2 : 2 * X * D = 2 * N * E := by rw [Nat.mul_assoc, heq, Nat.mul_assoc]
          rw [h, Nat.mul_assoc _ D E, Nat.mul_comm D E, ← Nat.mul_assoc] at h2
          exact Nat.eq_of_mul_eq_mul_right hDp h2
        · intro h
          have h2 : 2 * X * D = 2 * N * E := by rw [Nat.mul_assoc, heq, Nat.mul_assoc]
          rw [h, Nat.mul_assoc _ E D, Nat.mul_comm E D, ← Nat.mul_assoc] at h2
          exact (Nat.eq_of_mul_eq_mul_right hEp h2).symm
      rw [e1, e2]
    have hB := B_pos
    have hup' : X < 2 * B * E := by rw [← hJQ, ← Nat.mul_assoc]; exact hup
    have hlow' : 0 < j → B * E ≤ X := by intro h; rw [← hJQ, ← Nat.mul_assoc]; exact hlow h
    have hk2 : kept ≤ 2 * B := by
      rw [hc']; left
      have : (2 * (2 * B) + 1) * E = 2 * (2 * B * E) + E := by rw [Nat.add_mul, Nat.one_mul, Nat.mul_assoc]
      omega
    have hk1 : 0 < j → B ≤ kept := by
      intro h
      by_cases hh : B ≤ kept
      · exact hh
      · exfalso
        have h1 : kept ≤ B - 1 := by omega
        rw [hc'] at h1
        have h2 := hlow' h
        have h3 : (2 * (B - 1) + 1) * E ≤ 2 * (B * E) - E := by
          rw [show 2 * (B - 1) + 1 = 2 * B - 1 by omega, Nat.sub_mul, Nat.one_mul, Nat.mul_assoc]; exact Nat.le_refl _
        have h4 : E ≤ B * E := Nat.le_mul_of_pos_left _ hB
        omega
    refine ⟨hQp, Nat.min_le_right _ _, fun s hs => ?_⟩
    rw [min_le_of_lt hs]
    generalize INF = I at *
    -- where s lies
    by_cases hs1 : j * B + 2 * B ≤ s
    · refine ⟨fun _ => .inl ?_, fun _ => by omega⟩
      have a1 := V_le hs1
      rw [V_at_le j (2 * B) (Nat.le_refl _) (by omega)] at a1
      have a2 := V_lt_succ s
      have a3 : 2 * (2 * B * 2 ^ j) < M s := by unfold M; omega
      have a4 : 2 * (2 * B * 2 ^ j) * 2 ^ q ≤ M s * 2 ^ q := Nat.mul_le_mul_right _ (by omega)
      have a5 : 2 * (2 * B * 2 ^ j) * 2 ^ q = 2 * (2 * B * E) := by rw [← hJQ, Nat.mul_assoc, Nat.mul_assoc (2 * B)]
      omega
    · by_cases hs2 : j * B + kept ≤ s ∨ ¬ (0 < j) ∨ j * B + B ≤ s
      · -- within the binade
        have hs3 : j * B ≤ s ∧ (0 < j → j * B + B ≤ s) := by
          rcases hs2 with h | h | h
          · exact ⟨by omega, fun hj => by have := hk1 hj; omega⟩
          · have : j = 0 := by omega
            subst this; exact ⟨by omega, fun h => by omega⟩
          · exact ⟨by omega, fun _ => h⟩
        obtain ⟨t, ht⟩ : ∃ t, s = j * B + t := ⟨s - j * B, by omega⟩
        subst ht
        have ht1 : t < 2 * B := by omega
        have ht2 : 0 < j → B ≤ t := fun h => by have := hs3.2 h; omega
        have hM : M (j * B + t) = (2 * t + 1) * 2 ^ j := by
          unfold M
          rw [V_at j t ht1 ht2, Nat.add_assoc, V_at_le j (t + 1) (by omega) (fun h => by have := ht2 h; omega), ← Nat.add_mul]
          exact congrArg (· * 2 ^ j) (by omega)
        have hpar : (j * B + t) % 2 = t % 2 := by
          have : B = 2 * 2251799813685248 := by decide
          rw [this, ← Nat.mul_assoc, Nat.mul_comm j 2, Nat.mul_assoc, Nat.mul_add_mod]
        rw [hM, hpar, Nat.mul_assoc, hJQ, ← hc' t]
        omega
      · have hj : 0 < j := by omega
        have hs4 : s + 1 ≤ j * B + B := by omega
        have hk := hk1 hj
        refine ⟨fun h => by omega, fun h => ?_⟩
        exfalso
        have a1 := V_le hs4
        rw [V_at j B (by omega) (fun _ => Nat.le_refl _)] at a1
        have a2 := V_lt_succ s
        have a3 : M s < 2 * (B * 2 ^ j) := by unfold M; omega
        have a4 : M s * 2 ^ q < 2 * (B * 2 ^ j) * 2 ^ q := Nat.mul_lt_mul_of_pos_right a3 hQp
        have a5 : 2 * (B * 2 ^ j) * 2 ^ q = 2 * (B * E) := by rw [← hJQ, Nat.mul_assoc, Nat.mul_assoc B]
        have a6 := hlow' hj
        omega

end Go.Proofs.YtgbdplmpojkklaaDoor
