import Derived.Test.YtgbdplmpojkklaaDoorFpB
namespace Go.Proofs.YtgbdplmpojkklaaDoor
open Ieee

theorem Rn.congr {n d r n' d' : Nat} (h : Rn n d r) (hd' : 0 < d') (he : n * d' = n' * d) : Rn n' d' r := by
  obtain ⟨hd, hr, h⟩ := h
  refine ⟨hd', hr, fun s hs => ?_⟩
  rw [h s hs]
  have key : 2 * n * d' = 2 * n' * d := by rw [Nat.mul_assoc, Nat.mul_assoc, he]
  have e1 : 2 * n < M s * d ↔ 2 * n' < M s * d' := by
    constructor
    · intro h1
      have h2 : 2 * n * d' < M s * d * d' := Nat.mul_lt_mul_of_pos_right h1 hd'
      rw [key, Nat.mul_assoc _ d d', Nat.mul_comm d d', ← Nat.mul_assoc] at h2
      exact Nat.lt_of_mul_lt_mul_right h2
    · intro h1
      have h2 : 2 * n' * d < M s * d' * d := Nat.mul_lt_mul_of_pos_right h1 hd
      rw [← key, Nat.mul_assoc _ d' d, Nat.mul_comm d' d, ← Nat.mul_assoc] at h2
      exact Nat.lt_of_mul_lt_mul_right h2
  have e2 : 2 * n = M s * d ↔ 2 * n' = M s * d' := by
    constructor
    · intro h1
      have h2 : 2 * n' * d = M s * d' * d := by rw [← key, h1, Nat.mul_assoc, Nat.mul_comm d d', ← Nat.mul_assoc]
      exact Nat.eq_of_mul_eq_mul_right hd h2
    · intro h1
      have h2 : 2 * n * d' = M s * d * d' := by rw [key, h1, Nat.mul_assoc, Nat.mul_comm d' d, ← Nat.mul_assoc]
      exact Nat.eq_of_mul_eq_mul_right hd' h2
  rw [e1, e2]

/-- A finite rung's digits and place. -/
def mg (r : Nat) : Nat := if r < B then r else B + r % B
def pl (r : Nat) : Nat := r / B - 1

theorem mg_lt (r : Nat) : mg r < 2 * B := by
  have := Nat.mod_lt r B_pos; unfold mg; split <;> omega

theorem V_eq (r : Nat) : V r = mg r * 2 ^ pl r := by
  unfold V mg pl
  split
  · next h => rw [Nat.div_eq_of_lt h]; simp
  · rfl

theorem M_eq (s : Nat) : M s = (2 * mg s + 1) * 2 ^ pl s := by
  unfold M
  rw [V_step, V_eq]
  show mg s * 2 ^ pl s + (mg s * 2 ^ pl s + 2 ^ pl s) = _
  rw [Nat.add_mul, Nat.mul_assoc]; omega

theorem mg_zero {r : Nat} : mg r = 0 ↔ r = 0 := by
  have := B_pos; unfold mg; split <;> omega

def dat (s : Bool) (r : Nat) : Datum :=
  if r < INF then .number s (mg r) (-1074 + (pl r : Int)) else if r = INF then .infinity s else .nan s (r - INF)

theorem word_mod (s : Bool) (r : Nat) (h : r < SGN) : double.word s r % SGN = r := by
  unfold Format.word; rw [sgn_eq]
  cases s
  · simp [Nat.mod_eq_of_lt h]
  · simp [Nat.mod_eq_of_lt h]

theorem word_sgn (s : Bool) (r : Nat) (h : r < SGN) : (double.word s r / SGN % 2 == 1) = s := by
  unfold Format.word; rw [sgn_eq]
  have : 0 < SGN := by decide
  cases s
  · simp [Nat.div_eq_of_lt h]
  · simp [Nat.add_div_left _ this, Nat.div_eq_of_lt h]

theorem read_word (s : Bool) (r : Nat) (h : r < SGN) : double.read (double.word s r) = dat s r := by
  unfold Format.read
  simp only [sgn_eq, binade_eq, infRung_eq, least_eq, word_mod s r h, word_sgn s r h]
  unfold dat mg pl
  have hBI : B < INF := by decide
  by_cases h1 : r < B
  · rw [if_pos h1, if_pos (by omega), if_pos h1, Nat.div_eq_of_lt h1]; rfl
  · rw [if_neg h1, if_neg h1]

theorem dat_fin {s : Bool} {r : Nat} (h : r < INF) : dat s r = .number s (mg r) (-1074 + (pl r : Int)) := by unfold dat; rw [if_pos h]

theorem INF_lt_SGN : INF < SGN := by decide

/-- Every word below 2^64 is a sign and a rung. -/
theorem word_split (x : Nat) (h : x < 2 * SGN) : ∃ s r, r < SGN ∧ x = double.word s r := by
  by_cases h1 : x < SGN
  · exact ⟨false, x, h1, rfl⟩
  · refine ⟨true, x - SGN, by omega, ?_⟩
    unfold Format.word; rw [sgn_eq]; simp; omega

/-- The signed value. -/
def SV (s : Bool) (r : Nat) : Int := if s then -(V r : Int) else (V r : Int)

theorem signed_eq (s : Bool) (r up b : Nat) (h : pl r = up + b) : signed s (mg r) up * (2 : Int) ^ b = SV s r := by
  unfold signed SV
  rw [V_eq, h, Nat.shiftLeft_eq, Nat.pow_add]
  cases s
  · simp; rw [Int.mul_assoc]
  · simp; rw [← Int.mul_assoc]; exact Int.neg_mul _ _

theorem natAbs_mul_pow (z : Int) (b : Nat) : (z * (2 : Int) ^ b).natAbs = z.natAbs * 2 ^ b := by
  rw [Int.natAbs_mul, Int.natAbs_pow]; rfl

theorem mul_pow_zero (z : Int) (b : Nat) : z * (2 : Int) ^ b = 0 ↔ z = 0 := by
  have h2 : (0 : Int) < 2 ^ b := Int.pow_pos (by decide)
  constructor
  · intro h
    rcases Int.mul_eq_zero.1 h with h | h
    · exact h
    · omega
  · intro h; rw [h, Int.zero_mul]

theorem mul_pow_neg (z : Int) (b : Nat) : z * (2 : Int) ^ b < 0 ↔ z < 0 := by
  have h2 : (0 : Int) < 2 ^ b := Int.pow_pos (by decide)
  constructor
  · intro h
    by_cases hz : z < 0
    · exact hz
    · have := Int.mul_nonneg (show 0 ≤ z by omega) (Int.le_of_lt h2); omega
  · intro h; exact Int.mul_neg_of_neg_of_pos h h2

theorem add_fin (s t : Bool) (a b : Nat) (ha : a < INF) (hb : b < INF) :
    ∃ r, double.add (double.word s a) (double.word t b) = some (double.word (if SV s a + SV t b = 0 then s && t else decide (SV s a + SV t b < 0)) r) ∧
      Rn (SV s a + SV t b).natAbs 1 r := by
  have hIS := INF_lt_SGN
  unfold Format.add
  rw [read_word s a (by omega), read_word t b (by omega), dat_fin ha, dat_fin hb]
  obtain ⟨c, hc⟩ : ∃ c : Nat, min (pl a) (pl b) = c := ⟨_, rfl⟩
  have hmin : min (-1074 + (pl a : Int)) (-1074 + (pl b : Int)) = -1074 + (c : Int) := by omega
  simp only [Datum.sum, hmin, Option.map_some, Format.write, nearest_eq]
  rw [show (-1074 + (pl a : Int) - (-1074 + (c : Int))).toNat = pl a - c by omega, show (-1074 + (pl b : Int) - (-1074 + (c : Int))).toNat = pl b - c by omega]
  have e1 := signed_eq s a (pl a - c) c (by omega)
  have e2 := signed_eq t b (pl b - c) c (by omega)
  generalize signed s (mg a) (pl a - c) = A at *
  generalize signed t (mg b) (pl b - c) = C at *
  have e3 : (A + C) * (2 : Int) ^ c = SV s a + SV t b := by rw [Int.add_mul, e1, e2]
  refine ⟨rung (A + C).natAbs (-1074 + (c : Int)), ?_, ?_⟩
  · congr 2
    rw [← e3]
    by_cases hz : A + C = 0
    · rw [if_pos hz, if_pos ((mul_pow_zero _ _).2 hz)]
    · rw [if_neg hz, if_neg (fun h => hz ((mul_pow_zero _ _).1 h))]
      exact decide_eq_decide.2 (mul_pow_neg _ _).symm
  · have h := rung_Rn (A + C).natAbs (-1074 + (c : Int))
    rw [show (-1074 + (c : Int) + 1074).toNat = c by omega, show (-(-1074 + (c : Int) + 1074)).toNat = 0 by omega] at h
    rw [← e3, natAbs_mul_pow]
    exact h

theorem sub_fin (s t : Bool) (a b : Nat) (ha : a < INF) (hb : b < INF) :
    double.sub (double.word s a) (double.word t b) = double.add (double.word s a) (double.word (!t) b) := by
  have hIS := INF_lt_SGN
  unfold Format.sub Format.add
  rw [read_word s a (by omega), read_word t b (by omega), read_word (!t) b (by omega), dat_fin ha, dat_fin hb, dat_fin hb]
  rfl

/-- The units to one: 2^1074. -/
def UE : Nat := 1074
def U : Nat := 2 ^ UE
theorem U_pos : 0 < U := Nat.two_pow_pos _

theorem mul_fin (s t : Bool) (a b : Nat) (ha : a < INF) (hb : b < INF) :
    ∃ r, double.mul (double.word s a) (double.word t b) = some (double.word (s ^^ t) r) ∧ Rn (V a * V b) U r := by
  have hIS := INF_lt_SGN
  have hUE : UE = 1074 := rfl
  unfold U
  unfold Format.mul
  rw [read_word s a (by omega), read_word t b (by omega), dat_fin ha, dat_fin hb]
  simp only [Datum.product, Option.map_some, Format.write, nearest_eq]
  refine ⟨_, rfl, ?_⟩
  refine (rung_Rn _ _).congr (Nat.two_pow_pos _) ?_
  rw [V_eq, V_eq]
  have h : (-1074 + (pl a : Int) + (-1074 + (pl b : Int)) + 1074).toNat + UE = pl a + pl b + (-(-1074 + (pl a : Int) + (-1074 + (pl b : Int)) + 1074)).toNat := by omega
  rw [pow_split _ _ _ _ _ h, Nat.pow_add, Nat.mul_assoc (mg a) (2 ^ pl a), ← Nat.mul_assoc (2 ^ pl a), Nat.mul_comm (2 ^ pl a) (mg b), Nat.mul_assoc (mg b), ← Nat.mul_assoc (mg a)]

/-- The order of signed values. -/
theorem order_fin (s t : Bool) (a b : Nat) (ha : a < INF) (hb : b < INF) :
    double.order (double.word s a) (double.word t b) = some (compare (SV s a) (SV t b)) := by
  have hIS := INF_lt_SGN
  unfold Format.order
  rw [read_word s a (by omega), read_word t b (by omega), dat_fin ha, dat_fin hb]
  obtain ⟨c, hc⟩ : ∃ c : Nat, min (pl a) (pl b) = c := ⟨_, rfl⟩
  have hmin : min (-1074 + (pl a : Int)) (-1074 + (pl b : Int)) = -1074 + (c : Int) := by omega
  simp only [Datum.order, hmin]
  rw [show (-1074 + (pl a : Int) - (-1074 + (c : Int))).toNat = pl a - c by omega, show (-1074 + (pl b : Int) - (-1074 + (c : Int))).toNat = pl b - c by omega]
  have e1 := signed_eq s a (pl a - c) c (by omega)
  have e2 := signed_eq t b (pl b - c) c (by omega)
  generalize signed s (mg a) (pl a - c) = A at *
  generalize signed t (mg b) (pl b - c) = C at *
  rw [← e1, ← e2]
  have h2 : (0 : Int) < 2 ^ c := Int.pow_pos (by decide)
  congr 1
  simp only [compare, compareOfLessAndEq]
  have h3 : A * 2 ^ c < C * 2 ^ c ↔ A < C := Int.mul_lt_mul_right h2
  have h4 : A * 2 ^ c = C * 2 ^ c ↔ A = C := Int.mul_eq_mul_right_iff (by omega)
  simp only [h3, h4]

end Go.Proofs.YtgbdplmpojkklaaDoor
