/-
The reductions' whole numbers, in plain terms.
-/
import Derived.Test.YtgbdplmpojkklaaDoorFpX
namespace Go.Proofs.YtgbdplmpojkklaaDoor
open Ieee

theorem uand1 (n : Nat) : uand n 1 = n % 2 := Nat.and_two_pow_sub_one_eq_mod n 1
theorem uand7 (n : Nat) : uand n 7 = n % 8 := Nat.and_two_pow_sub_one_eq_mod n 3
theorem uand2 (n : Nat) : uand n 2 = n / 2 % 2 * 2 := by
  have h1 : (n &&& 2) % 2 ^ 2 = n % 2 ^ 2 &&& 2 % 2 ^ 2 := Nat.and_mod_two_pow
  have h2 : n &&& 2 ≤ 2 := Nat.and_le_right
  rw [Nat.mod_eq_of_lt (show n &&& 2 < 2 ^ 2 by omega)] at h1
  show n &&& 2 = _
  rw [h1]
  have h3 : n % 2 ^ 2 = n % 4 := rfl
  rw [h3]
  have h4 : n % 4 = 0 ∨ n % 4 = 1 ∨ n % 4 = 2 ∨ n % 4 = 3 := by omega
  rcases h4 with e | e | e | e
  · rw [e, show n / 2 % 2 = 0 by omega]; rfl
  · rw [e, show n / 2 % 2 = 0 by omega]; rfl
  · rw [e, show n / 2 % 2 = 1 by omega]; rfl
  · rw [e, show n / 2 % 2 = 1 by omega]; rfl

theorem trJ0_lt (x : Nat) : trJ0 x < 8 := by
  have h : trHi x < 18446744073709551616 := Nat.mod_lt _ (by decide)
  unfold trJ0 ushr
  rw [show min 61 64 = 61 by decide]
  omega
def ev8 (j : Nat) : Prop := j = 0 ∨ j = 2 ∨ j = 4 ∨ j = 6
theorem trJ_ev (x : Nat) : ev8 (trJ x) := by
  have h := trJ0_lt x
  unfold trJ
  rw [uand1, uand7]
  unfold uadd ev8
  split <;> omega
theorem smK_ev (r : Nat) : smK r % 2 = 0 := by
  unfold smK
  rw [uand1]
  unfold uadd
  split <;> omega
theorem redJ_ev (r : Nat) : ev8 (redJ r) := by
  unfold redJ
  split
  · exact trJ_ev r
  · have := smK_ev r
    rw [uand7]; unfold ev8; omega
/-- Tan's test and the octant. -/
theorem redT_iff (r : Nat) : uand (redT r) 2 = 2 ↔ redJ r % 4 = 2 := by
  rw [uand2]
  unfold redT redJ
  split
  · have := trJ_ev r
    unfold ev8 at this; omega
  · have := smK_ev r
    rw [uand7]; omega

/-- Cutting off towards 0. -/
theorem zcut (neg : Bool) (n drop : Nat) : Toward.zero.cut neg n drop = n / 2 ^ drop := by
  have hpow : 1 <<< min drop (n.log2 + 2) = 2 ^ min drop (n.log2 + 2) := by rw [Nat.shiftLeft_eq, Nat.one_mul]
  unfold Toward.cut
  simp only [hpow]
  by_cases hd : drop ≤ n.log2 + 2
  · rw [Nat.min_eq_left hd]; simp
  · rw [Nat.min_eq_right (by omega)]
    have hlt : n < 2 ^ (n.log2 + 1) := Nat.lt_log2_self
    have h1 : (2 : Nat) ^ (n.log2 + 1) ≤ 2 ^ (n.log2 + 2) := Nat.pow_le_pow_right (by omega) (by omega)
    have h2 : (2 : Nat) ^ (n.log2 + 2) ≤ 2 ^ drop := Nat.pow_le_pow_right (by omega) (by omega)
    rw [Nat.div_eq_of_lt (show n < 2 ^ (n.log2 + 2) by omega), Nat.div_eq_of_lt (show n < 2 ^ drop by omega)]; simp

theorem toInt_fin {m : Nat} (h : m < INF) : (double.read m).toInt .zero = some ((truncF m : Nat) : Int) := by
  have hIS := INF_lt_SGN
  have hUE : UE = 1074 := rfl
  have hrd := read_word false m (by omega)
  rw [word_false, dat_fin h] at hrd
  rw [hrd]
  unfold Datum.toInt Datum.integral
  simp only [zcut]
  rw [Nat.shiftLeft_eq]
  have e : mg m * 2 ^ (-1074 + (pl m : Int)).toNat / 2 ^ (-(-1074 + (pl m : Int))).toNat = truncF m := by
    unfold truncF U
    rw [V_eq]
    by_cases hp : 1074 ≤ pl m
    · rw [show (-(-1074 + (pl m : Int))).toNat = 0 by omega, show (-1074 + (pl m : Int)).toNat = pl m - UE by omega, Nat.pow_zero, Nat.div_one]
      rw [show mg m * 2 ^ pl m = mg m * 2 ^ (pl m - UE) * 2 ^ UE by rw [Nat.mul_assoc, ← Nat.pow_add]; congr 2; omega]
      exact (Nat.mul_div_cancel _ (Nat.two_pow_pos _)).symm
    · rw [show (-1074 + (pl m : Int)).toNat = 0 by omega, show (-(-1074 + (pl m : Int))).toNat = UE - pl m by omega, Nat.pow_zero, Nat.mul_one]
      rw [show (2 : Nat) ^ UE = 2 ^ (UE - pl m) * 2 ^ pl m by rw [← Nat.pow_add]; congr 1; omega]
      exact (Nat.mul_div_mul_right _ _ (Nat.two_pow_pos _)).symm
  rw [e]
  simp [signed]

def M4PI : Nat := 4608412980311869571
theorem small_mul {r : Nat} (h : r < TH29) : fmul r M4PI < INF ∧ truncF (fmul r M4PI) < 1073741824 := by
  have hT : TH29 < INF := by decide
  have h1 : fmul r M4PI ≤ fmul TH29 M4PI := fmul_mono hT (by decide) (Nat.le_of_lt h) (Nat.le_refl _)
  have h2 : fmul TH29 M4PI < INF := by decide +kernel
  refine ⟨by omega, ?_⟩
  have h3 := V_le h1
  have h4 : V (fmul TH29 M4PI) < 1073741824 * U := by decide +kernel
  unfold truncF
  exact (Nat.div_lt_iff_lt_mul U_pos).2 (by omega)

theorem fge_TH {r : Nat} (h : r ≤ INF) : fge r TH29 = decide (TH29 ≤ r) := by
  have e := fge_pos false r TH29 h (by decide) (by decide)
  rw [word_false] at e; rw [e]; simp

end Go.Proofs.YtgbdplmpojkklaaDoor
