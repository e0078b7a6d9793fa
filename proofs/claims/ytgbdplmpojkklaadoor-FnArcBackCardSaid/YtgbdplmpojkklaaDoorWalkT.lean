/-
Contracts of the functions that look at a float's bits, of the root, and what rests on them.
-/
import Derived.Test.YtgbdplmpojkklaaDoorWalkS
import Derived.Test.YtgbdplmpojkklaaDoorFpE
import Derived.Lib.Hide
namespace Go.Proofs.YtgbdplmpojkklaaDoor
open Go.RowKit

/-- A word of 64 bits. -/
def W64 (x : Nat) : Prop := x < 18446744073709551616

theorem ext_bits (x : Nat) (w : World) : (callFunc 71 #[.float .f64 x]).run Tryd.prog w = .ok (.value (.int .u64 x)) w := by
  rw [run_callFunc_extern Tryd.func71 (by kernel_rfl) (by kernel_rfl) (by kernel_rfl) (e := Extern.MathFloatBits.float64bits) (by kernel_rfl)]
  rfl
theorem ext_frombits (n : Int) (w : World) : (callFunc 70 #[.int .u64 n]).run Tryd.prog w = .ok (.value (.float .f64 n.toNat)) w := by
  rw [run_callFunc_extern Tryd.func70 (by kernel_rfl) (by kernel_rfl) (by kernel_rfl) (e := Extern.MathFloatBits.float64frombits) (by kernel_rfl)]
  rfl

theorem andNot_top (x : Nat) (h : W64 x) : bits .andNot .u64 (x : Int) 9223372036854775808 = ((absF x : Nat) : Int) := by
  have h1 := u64_andNot_nat x 9223372036854775808 h (by decide)
  rw [show ((9223372036854775808 : Nat) : Int) = 9223372036854775808 from rfl] at h1
  rw [h1]
  have e : (18446744073709551615 - 9223372036854775808 : Nat) = 2 ^ 63 - 1 := by decide
  rw [e, Nat.and_two_pow_sub_one_eq_mod]
  rfl

theorem and_top (x : Nat) (h : W64 x) : bits .and .u64 (x : Int) 9223372036854775808 = ((if signF x then 9223372036854775808 else 0 : Nat) : Int) := by
  have h1 := bits_and_u64_nat x 9223372036854775808 h (by decide)
  rw [show ((9223372036854775808 : Nat) : Int) = 9223372036854775808 from rfl] at h1
  rw [h1]
  congr 1
  unfold W64 at h
  have e : (9223372036854775808 : Nat) = 2 ^ 63 := by decide
  unfold signF
  rw [e]
  apply Nat.eq_of_testBit_eq
  intro i
  rw [Nat.testBit_and, Nat.testBit_two_pow]
  by_cases hs : 2 ^ 63 ≤ x
  · simp only [hs, decide_true, if_true, Nat.testBit_two_pow]
    by_cases hi : 63 = i
    · subst hi
      have h2 : x / 2 ^ 63 = 1 := by omega
      rw [Nat.testBit_eq_decide_div_mod_eq, h2]; rfl
    · simp [hi]
  · simp only [hs, decide_false]
    by_cases hi : 63 = i
    · subst hi
      rw [Nat.testBit_lt_two_pow (show x < 2 ^ 63 by omega)]; simp
    · simp [hi]

theorem or_top (a : Nat) (ha : a < 9223372036854775808) (s : Bool) : bits .or .u64 (a : Int) ((if s then 9223372036854775808 else 0 : Nat) : Int) = ((if s then 9223372036854775808 + a else a : Nat) : Int) := by
  rw [bits_or_u64_nat a _ (by omega) (by cases s <;> decide)]
  congr 1
  cases s
  · simp
  · have e : (9223372036854775808 : Nat) = 2 ^ 63 := by decide
    simp only [if_true]
    rw [Nat.or_comm, e, ← Nat.two_pow_add_eq_or_of_lt (show a < 2 ^ 63 by omega) 1, Nat.mul_one]

theorem absF_lt (x : Nat) : absF x < 9223372036854775808 := Nat.mod_lt _ (by decide)

theorem nan_absF (x : Nat) : nan (absF x) = nan x := by
  rw [nan_of_rung, nan_of_rung]; unfold absF; rw [Nat.mod_mod]

theorem E_W64 {x y : Nat} (h : E x y) (hy : W64 y) : W64 x := by
  rcases h with rfl | ⟨_, _, h⟩
  · exact hy
  · exact h

set_option maxHeartbeats 400000 in
theorem c_abs (x0 e0 : Nat) (h0 : E x0 e0) (hl : W64 e0) (w0 w : World) (hs : St w0 w) : Calls Tryd.prog 66 #[.float .f64 x0] w (RF (absF e0) w0) := by
  have e1 := ext_bits
  have e2 := ext_frombits
  have e3 := Lib.hid (andNot_top x0 (E_W64 h0 hl))
  go_enter Tryd.func66, Tryd.ntmps66
  go_wp2
  go_ret
  refine ⟨_, rfl, ?_, hs⟩
  rw [e3.out, Int.toNat_natCast]
  rcases h0 with rfl | ⟨h1, h2, h3⟩
  · exact E.refl _
  · exact .inr ⟨by rw [nan_absF]; exact h1, by rw [nan_absF]; exact h2, by have := absF_lt x0; omega⟩

set_option maxHeartbeats 400000 in
theorem c_nan (w0 w : World) (hs : St w0 w) : Calls Tryd.prog 59 #[] w (RF cnan w0) := by
  have e2 := ext_frombits
  go_enter Tryd.func59, Tryd.ntmps59
  go_wp2
  go_ret
  exact ⟨_, rfl, .inl rfl, hs⟩

theorem ext_sqrt (x0 e0 : Nat) (h0 : E x0 e0) (w0 w : World) (hs : St w0 w) : ∃ r w', (callFunc 77 #[.float .f64 x0]).run Tryd.prog w = .ok (.value (.float .f64 r)) w' ∧ E r (fsqrt e0) ∧ St w0 w' := by
  have hc : Ieee.double.sqrt x0 = Ieee.double.sqrt e0 := by
    rcases h0 with rfl | ⟨h1, h2, _⟩
    · rfl
    · rw [sqrt_nan h1, sqrt_nan h2]
  rw [run_callFunc_extern Tryd.func77 (by kernel_rfl) (by kernel_rfl) (by kernel_rfl) (e := Extern.MathSqrt.sqrt) (by kernel_rfl)]
  have hdef : Extern.MathSqrt.sqrt #[.float .f64 x0] = (match FloatKind.f64.format.sqrt x0 with
    | some r => pure (.float .f64 r)
    | none => do pure (.float .f64 (← choose (.nanBits .f64 x0 x0)))) := rfl
  cases hb : Ieee.double.sqrt x0 with
  | some r =>
    have h1 : FloatKind.f64.format.sqrt x0 = some r := hb
    refine ⟨r, w, by rw [hdef, h1]; rfl, .inl ?_, hs⟩
    unfold fsqrt; rw [← hc, hb]; rfl
  | none =>
    have h1 : FloatKind.f64.format.sqrt x0 = none := hb
    refine ⟨(Question.nanBits .f64 x0 x0).cut (w.tape w.drawn (.nanBits .f64 x0 x0)), w.drew, by rw [hdef, h1]; rfl, .inr ⟨(nan_cut _ _ _).1, ?_, (nan_cut _ _ _).2⟩, hs.drew⟩
    unfold fsqrt; rw [← hc, hb]; exact nan_cnan

set_option maxHeartbeats 400000 in
theorem c_sqrt (x0 e0 : Nat) (h0 : E x0 e0) (w0 w : World) (hs : St w0 w) : Calls Tryd.prog 64 #[.float .f64 x0] w (RF (fsqrt e0) w0) := by
  obtain ⟨r, w', hrun, hr, hs'⟩ := ext_sqrt x0 e0 h0 w0 w hs
  go_enter Tryd.func64, Tryd.ntmps64
  go_wp2
  go_ret
  exact ⟨_, rfl, hr, hs'⟩

set_option maxHeartbeats 400000 in
theorem c_infa (x0 e0 : Nat) (h0 : E x0 e0) (hl : W64 e0) (w0 w : World) (hs : St w0 w) : Calls Tryd.prog 58 #[.float .f64 x0, .int .i64 0] w (RB (infA e0) w0) := by
  go_enter Tryd.func58, Tryd.ntmps58
  go_wp2_with (first | (go_at_call 66; refine (c_abs _ _ (by first | assumption | exact E.refl _) (by assumption) _ _ (by assumption)).mono ?_; rintro e w' ⟨r, rfl, hr, hs⟩) | (refine wpList_fcmp rfl _ _ _ _ _ rfl _ rfl _ _ rfl rfl _ _ (by first | assumption | exact E.refl _) (by first | assumption | exact E.refl _) (fun hb => ?_) (fun hb => ?_) <;> (try first | exact Bool.noConfusion ((hb.symm.trans (by assumption)) : true = false) | exact Bool.noConfusion ((hb.symm.trans (by assumption)) : false = true))))
  all_goals (go_ret; first | exact ⟨.inl ⟨(by simp [infA, *]), rfl⟩, (by assumption)⟩ | exact ⟨.inr ⟨(by simp [infA, *]), rfl⟩, (by assumption)⟩)

set_option maxHeartbeats 400000 in
theorem c_infp (x0 e0 : Nat) (h0 : E x0 e0) (w0 w : World) (hs : St w0 w) : Calls Tryd.prog 58 #[.float .f64 x0, .int .i64 1] w (RB (infP e0) w0) := by
  go_enter Tryd.func58, Tryd.ntmps58
  go_wp2_with (first | (refine wpList_fcmp rfl _ _ _ _ _ rfl _ rfl _ _ rfl rfl _ _ (by first | assumption | exact E.refl _) (by first | assumption | exact E.refl _) (fun hb => ?_) (fun hb => ?_) <;> (try first | exact Bool.noConfusion ((hb.symm.trans (by assumption)) : true = false) | exact Bool.noConfusion ((hb.symm.trans (by assumption)) : false = true))))
  all_goals (go_ret; first | exact ⟨.inl ⟨(by simp [infP, *]), rfl⟩, (by assumption)⟩ | exact ⟨.inr ⟨(by simp [infP, *]), rfl⟩, (by assumption)⟩)

set_option maxHeartbeats 1000000 in
theorem c_asin0 (x0 e0 : Nat) (h0 : E x0 e0)  (w0 w : World) (hs : St w0 w) : Calls Tryd.prog 42 #[.float .f64 x0] w (RF (asinF e0) w0) := by
  go_enter Tryd.func42, Tryd.ntmps42
  go_wp2_with (first | (refine wpList_fop rfl _ _ _ _ _ rfl _ rfl _ _ rfl rfl _ _ (by first | assumption | exact E.refl _) (by first | assumption | exact E.refl _) _ (by assumption) ?_; intro r w' hr hs) | (refine wpList_fcmp rfl _ _ _ _ _ rfl _ rfl _ _ rfl rfl _ _ (by first | assumption | exact E.refl _) (by first | assumption | exact E.refl _) (fun hb => ?_) (fun hb => ?_) <;> (try first | exact Bool.noConfusion ((hb.symm.trans (by assumption)) : true = false) | exact Bool.noConfusion ((hb.symm.trans (by assumption)) : false = true))) | (refine wpList_fneg rfl _ _ rfl _ rfl _ (by first | assumption | exact E.refl _) ?_; intro r hr) | (go_at_call 59; refine (c_nan   _ _ (by assumption)).mono ?_; rintro e w' ⟨r, rfl, hr, hs⟩) | (go_at_call 64; refine (c_sqrt _ _ (by first | assumption | exact E.refl _)  _ _ (by assumption)).mono ?_; rintro e w' ⟨r, rfl, hr, hs⟩) | (go_at_call 65; refine (c_satan _ _ (by first | assumption | exact E.refl _)  _ _ (by assumption)).mono ?_; rintro e w' ⟨r, rfl, hr, hs⟩))
  all_goals (go_ret; exact ⟨_, rfl, (by first | assumption | (simp [asinF, asinA, one, *]; done)), (by assumption)⟩)

set_option maxHeartbeats 400000 in
theorem c_asin1 (x0 e0 : Nat) (h0 : E x0 e0)  (w0 w : World) (hs : St w0 w) : Calls Tryd.prog 30 #[.float .f64 x0] w (RF (asinF e0) w0) := by
  go_enter Tryd.func30, Tryd.ntmps30
  go_wp2_with (first | (refine wpList_fop rfl _ _ _ _ _ rfl _ rfl _ _ rfl rfl _ _ (by first | assumption | exact E.refl _) (by first | assumption | exact E.refl _) _ (by assumption) ?_; intro r w' hr hs) | (refine wpList_fcmp rfl _ _ _ _ _ rfl _ rfl _ _ rfl rfl _ _ (by first | assumption | exact E.refl _) (by first | assumption | exact E.refl _) (fun hb => ?_) (fun hb => ?_) <;> (try first | exact Bool.noConfusion ((hb.symm.trans (by assumption)) : true = false) | exact Bool.noConfusion ((hb.symm.trans (by assumption)) : false = true))) | (refine wpList_fneg rfl _ _ rfl _ rfl _ (by first | assumption | exact E.refl _) ?_; intro r hr) | (go_at_call 42; refine (c_asin0 _ _ (by first | assumption | exact E.refl _)  _ _ (by assumption)).mono ?_; rintro e w' ⟨r, rfl, hr, hs⟩))
  all_goals (go_ret; exact ⟨_, rfl, (by first | assumption | (simp [asinF, *]; done)), (by assumption)⟩)

set_option maxHeartbeats 400000 in
theorem c_asin (x0 e0 : Nat) (h0 : E x0 e0)  (w0 w : World) (hs : St w0 w) : Calls Tryd.prog 16 #[.float .f64 x0] w (RF (asinF e0) w0) := by
  go_enter Tryd.func16, Tryd.ntmps16
  go_wp2_with (first | (refine wpList_fop rfl _ _ _ _ _ rfl _ rfl _ _ rfl rfl _ _ (by first | assumption | exact E.refl _) (by first | assumption | exact E.refl _) _ (by assumption) ?_; intro r w' hr hs) | (refine wpList_fcmp rfl _ _ _ _ _ rfl _ rfl _ _ rfl rfl _ _ (by first | assumption | exact E.refl _) (by first | assumption | exact E.refl _) (fun hb => ?_) (fun hb => ?_) <;> (try first | exact Bool.noConfusion ((hb.symm.trans (by assumption)) : true = false) | exact Bool.noConfusion ((hb.symm.trans (by assumption)) : false = true))) | (refine wpList_fneg rfl _ _ rfl _ rfl _ (by first | assumption | exact E.refl _) ?_; intro r hr) | (go_at_call 30; refine (c_asin1 _ _ (by first | assumption | exact E.refl _)  _ _ (by assumption)).mono ?_; rintro e w' ⟨r, rfl, hr, hs⟩))
  all_goals (go_ret; exact ⟨_, rfl, (by first | assumption | (simp [asinF, *]; done)), (by assumption)⟩)

set_option maxHeartbeats 400000 in
theorem c_acos0 (x0 e0 : Nat) (h0 : E x0 e0)  (w0 w : World) (hs : St w0 w) : Calls Tryd.prog 50 #[.float .f64 x0] w (RF (acosF e0) w0) := by
  go_enter Tryd.func50, Tryd.ntmps50
  go_wp2_with (first | (refine wpList_fop rfl _ _ _ _ _ rfl _ rfl _ _ rfl rfl _ _ (by first | assumption | exact E.refl _) (by first | assumption | exact E.refl _) _ (by assumption) ?_; intro r w' hr hs) | (refine wpList_fcmp rfl _ _ _ _ _ rfl _ rfl _ _ rfl rfl _ _ (by first | assumption | exact E.refl _) (by first | assumption | exact E.refl _) (fun hb => ?_) (fun hb => ?_) <;> (try first | exact Bool.noConfusion ((hb.symm.trans (by assumption)) : true = false) | exact Bool.noConfusion ((hb.symm.trans (by assumption)) : false = true))) | (refine wpList_fneg rfl _ _ rfl _ rfl _ (by first | assumption | exact E.refl _) ?_; intro r hr) | (go_at_call 30; refine (c_asin1 _ _ (by first | assumption | exact E.refl _)  _ _ (by assumption)).mono ?_; rintro e w' ⟨r, rfl, hr, hs⟩))
  all_goals (go_ret; exact ⟨_, rfl, (by first | assumption | (simp [acosF, *]; done)), (by assumption)⟩)

set_option maxHeartbeats 400000 in
theorem c_acos1 (x0 e0 : Nat) (h0 : E x0 e0)  (w0 w : World) (hs : St w0 w) : Calls Tryd.prog 34 #[.float .f64 x0] w (RF (acosF e0) w0) := by
  go_enter Tryd.func34, Tryd.ntmps34
  go_wp2_with (first | (refine wpList_fop rfl _ _ _ _ _ rfl _ rfl _ _ rfl rfl _ _ (by first | assumption | exact E.refl _) (by first | assumption | exact E.refl _) _ (by assumption) ?_; intro r w' hr hs) | (refine wpList_fcmp rfl _ _ _ _ _ rfl _ rfl _ _ rfl rfl _ _ (by first | assumption | exact E.refl _) (by first | assumption | exact E.refl _) (fun hb => ?_) (fun hb => ?_) <;> (try first | exact Bool.noConfusion ((hb.symm.trans (by assumption)) : true = false) | exact Bool.noConfusion ((hb.symm.trans (by assumption)) : false = true))) | (refine wpList_fneg rfl _ _ rfl _ rfl _ (by first | assumption | exact E.refl _) ?_; intro r hr) | (go_at_call 50; refine (c_acos0 _ _ (by first | assumption | exact E.refl _)  _ _ (by assumption)).mono ?_; rintro e w' ⟨r, rfl, hr, hs⟩))
  all_goals (go_ret; exact ⟨_, rfl, (by first | assumption | (simp [acosF, *]; done)), (by assumption)⟩)

set_option maxHeartbeats 400000 in
theorem c_acos (x0 e0 : Nat) (h0 : E x0 e0)  (w0 w : World) (hs : St w0 w) : Calls Tryd.prog 20 #[.float .f64 x0] w (RF (acosF e0) w0) := by
  go_enter Tryd.func20, Tryd.ntmps20
  go_wp2_with (first | (refine wpList_fop rfl _ _ _ _ _ rfl _ rfl _ _ rfl rfl _ _ (by first | assumption | exact E.refl _) (by first | assumption | exact E.refl _) _ (by assumption) ?_; intro r w' hr hs) | (refine wpList_fcmp rfl _ _ _ _ _ rfl _ rfl _ _ rfl rfl _ _ (by first | assumption | exact E.refl _) (by first | assumption | exact E.refl _) (fun hb => ?_) (fun hb => ?_) <;> (try first | exact Bool.noConfusion ((hb.symm.trans (by assumption)) : true = false) | exact Bool.noConfusion ((hb.symm.trans (by assumption)) : false = true))) | (refine wpList_fneg rfl _ _ rfl _ rfl _ (by first | assumption | exact E.refl _) ?_; intro r hr) | (go_at_call 34; refine (c_acos1 _ _ (by first | assumption | exact E.refl _)  _ _ (by assumption)).mono ?_; rintro e w' ⟨r, rfl, hr, hs⟩))
  all_goals (go_ret; exact ⟨_, rfl, (by first | assumption | (simp [acosF, *]; done)), (by assumption)⟩)


end Go.Proofs.YtgbdplmpojkklaaDoor
