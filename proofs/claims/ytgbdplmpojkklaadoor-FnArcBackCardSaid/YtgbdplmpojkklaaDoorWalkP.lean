/-
The reference's Power: exact powers of 2.
-/
import Derived.Test.YtgbdplmpojkklaaDoorWalkT
import Derived.Test.YtgbdplmpojkklaaDoorFpK
import Derived.Lib.Hide
namespace Go.Proofs.YtgbdplmpojkklaaDoor
open Go.RowKit

theorem pow_mul_two {k : Int} (h1 : -1022 ≤ k) (h2 : k ≤ 1022) : Ieee.double.mul (powW k) 4611686018427387904 = some (powW (k + 1)) := by
  have hf := powW_fin h1 (by omega)
  have hf' := powW_fin (k := k + 1) (by omega) (by omega)
  obtain ⟨r, h, hr⟩ := mul_fin false false (powW k) 4611686018427387904 hf.1 (by decide)
  rw [word_false, word_false] at h
  rw [h]
  congr 1
  show r = _
  refine hr.unique (Rn.exact (powW (k + 1)) (by omega)) ?_
  have e2 : V 4611686018427387904 = 2 * U := by decide +kernel
  rw [e2, V_powW k h1, V_powW (k + 1) (by omega), show (k + 1 + 1074).toNat = (k + 1074).toNat + 1 by omega, Nat.pow_succ, Nat.mul_one, Nat.mul_assoc]

theorem pow_div_two {k : Int} (h1 : -1021 ≤ k) (h2 : k ≤ 1023) : Ieee.double.div (powW k) 4611686018427387904 = some (powW (k - 1)) := by
  have hf := powW_fin (k := k) (by omega) h2
  have hf' := powW_fin (k := k - 1) (by omega) (by omega)
  obtain ⟨r, h, hr⟩ := div_fin false false (powW k) 4611686018427387904 hf.1 (by decide) (by decide)
  rw [word_false, word_false] at h
  rw [h]
  congr 1
  show r = _
  refine hr.unique (Rn.exact (powW (k - 1)) (by omega)) ?_
  have e2 : V 4611686018427387904 = 2 * U := by decide +kernel
  rw [e2, V_powW k (by omega), V_powW (k - 1) (by omega), show (k + 1074).toNat = (k - 1 + 1074).toNat + 1 by omega, Nat.pow_succ, Nat.mul_one, Nat.mul_assoc]

theorem wpList_fval {P : Program} {ops : Array Oper} {rest : List Oper} {o : Oper} {a : Act} {w : World} {Q : Exit → Act → World → Prop}
    (hgd : Region.wanted o (yielded ops a.tmps) = true) (op : BinOp) (t t' : TypeId) (x y : Operand)
    (ho : o.op = .binOp op t x y t') (hop : (arOf op).isSome = true) (bx b r : Nat) (hx : a.eval x = .float .f64 bx) (hy : a.eval y = .float .f64 b) (hv : floatBits op .f64 bx b = some r)
    (h : wpList P ops Q rest (a.put o.dst (.float .f64 r)) w) : wpList P ops Q (o :: rest) a w := by
  refine wpList_wanted hgd fun K hK => ?_
  have hq : ∀ w : World, (eqGuard op t x y (.float .f64 bx) (.float .f64 b)).run P w = .ok () w := by
    intro w; cases op <;> first | rfl | cases hop
  unfold Oper.wp execOp
  simp only [ho, hx, hy, Sem.run_bind, hq, Result.andThen_ok]
  rw [run_float_arith w op t .f64 bx b r hv]
  exact hK _ _ h

theorem num_sub (k j : Nat) (h : j < k) : ((k - j : Nat) : Int) - 1 = ((k - (j + 1) : Nat) : Int) := by omega

set_option maxHeartbeats 1000000 in
theorem c_power_pos (k : Nat) (hk : k ≤ 1000) (w0 w : World) (hs : St w0 w) : Calls Tryd.prog 15 #[.int .i64 k] w (RF (powW k) w0) := by
  go_enter Tryd.func15, Tryd.ntmps15
  go_wp2
  go_loop [0, 3] (fun kv xv => ∃ j : Nat, j ≤ k ∧ kv = .int .i64 ((k - j : Nat) : Int) ∧ xv = .float .f64 (powW j)) (fun kv _ => (intOf kv).toNat)
  case atStart => exact ⟨0, Nat.zero_le _, rfl, rfl⟩
  case round =>
    obtain ⟨j, hj, rfl, rfl⟩ := hrel
    by_cases hlt : j < k
    · have hp := Lib.hid (pow_mul_two (k := j) (by omega) (by omega))
      have h1 : 0 < k - j := by omega
      have h1' : (0 : Int) < ((k - j : Nat) : Int) := by omega
      go_wp2_with (refine wpList_fval rfl _ _ _ _ _ rfl rfl _ _ _ rfl rfl hp.out ?_)
      go_round
      case rel => exact ⟨j + 1, by omega, by congr 1; omega, by congr 1⟩
      case measure => simp [intOf]; omega
    · obtain rfl : j = k := by omega
      have hz : (j - j : Nat) = 0 := by omega
      rw [hz]
      go_wp2
      refine wp_loop_once ?_
      go_wp2
      go_ret
      exact ⟨_, rfl, .inl rfl, hs⟩

set_option maxHeartbeats 1000000 in
theorem c_power_neg (k : Nat) (hk : k ≤ 1000) (w0 w : World) (hs : St w0 w) : Calls Tryd.prog 15 #[.int .i64 (-(k : Int))] w (RF (powW (-(k : Int))) w0) := by
  have hn : ¬ (0 : Int) < -(k : Int) := by omega
  go_enter Tryd.func15, Tryd.ntmps15
  go_wp2
  refine wp_loop_once ?_
  go_wp2
  go_loop [0, 3] (fun kv xv => ∃ j : Nat, j ≤ k ∧ kv = .int .i64 (-((k - j : Nat) : Int)) ∧ xv = .float .f64 (powW (-(j : Int)))) (fun kv _ => (-(intOf kv)).toNat)
  case atStart => exact ⟨0, Nat.zero_le _, rfl, rfl⟩
  case round =>
    obtain ⟨j, hj, rfl, rfl⟩ := hrel
    by_cases hlt : j < k
    · have hp := Lib.hid (pow_div_two (k := -(j : Int)) (by omega) (by omega))
      have h1 : 0 < k - j := by omega
      have h1' : (0 : Int) < ((k - j : Nat) : Int) := by omega
      have h2' : -((k - j : Nat) : Int) < 0 := by omega
      go_wp2_with (refine wpList_fval rfl _ _ _ _ _ rfl rfl _ _ _ rfl rfl hp.out ?_)
      go_round
      case rel => exact ⟨j + 1, by omega, by congr 1; omega, by congr 2; omega⟩
      case measure => simp [intOf]; omega
    · obtain rfl : j = k := by omega
      have hz : (j - j : Nat) = 0 := by omega
      rw [hz]
      go_wp2
      go_ret
      exact ⟨_, rfl, .inl rfl, hs⟩

/-- Power of a small exponent. -/
theorem c_power (k : Int) (h1 : -1000 ≤ k) (h2 : k ≤ 1000) (w0 w : World) (hs : St w0 w) : Calls Tryd.prog 15 #[.int .i64 k] w (RF (powW k) w0) := by
  by_cases h : 0 ≤ k
  · obtain ⟨n, rfl⟩ := Int.eq_ofNat_of_zero_le h
    exact c_power_pos n (by omega) w0 w hs
  · obtain ⟨n, hn⟩ := Int.eq_ofNat_of_zero_le (show 0 ≤ -k by omega)
    obtain rfl : k = -(n : Int) := by omega
    exact c_power_neg n (by omega) w0 w hs

end Go.Proofs.YtgbdplmpojkklaaDoor
