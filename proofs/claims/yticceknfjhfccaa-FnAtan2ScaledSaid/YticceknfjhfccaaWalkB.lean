/-
Contracts of the functions that look at a float's bits, of the root, and of Asin, Acos, Atan2.
-/
import Derived.Test.YticceknfjhfccaaWalkA
import Derived.Test.YticceknfjhfccaaFpE
import Derived.Lib.Hide
namespace Go.Proofs.Yticceknfjhfccaa
open Go.RowKit

/-- A word of 64 bits. -/
def W64 (x : Nat) : Prop := x < 18446744073709551616

theorem ext_bits (x : Nat) (w : World) : (callFunc 58 #[.float .f64 x]).run Try.prog w = .ok (.value (.int .u64 x)) w := by
  rw [run_callFunc_extern Try.func58 (by kernel_rfl) (by kernel_rfl) (by kernel_rfl) (e := Extern.MathFloatBits.float64bits) (by kernel_rfl)]
  rfl
theorem ext_frombits (n : Int) (w : World) : (callFunc 57 #[.int .u64 n]).run Try.prog w = .ok (.value (.float .f64 n.toNat)) w := by
  rw [run_callFunc_extern Try.func57 (by kernel_rfl) (by kernel_rfl) (by kernel_rfl) (e := Extern.MathFloatBits.float64frombits) (by kernel_rfl)]
  rfl

theorem andNot_top (x : Nat) (h : W64 x) : bits .andNot .u64 (x : Int) 9223372036854775808 = ((absF x : Nat) : Int) := by
  have h1 := u64_andNot_nat x 9223372036854775808 h (by decide)
  rw [show ((9223372036854775808 : Nat) : Int) = 9223372036854775808 from rfl] at h1
  rw [h1]
  have e : (18446744073709551615 - 9223372036854775808 : Nat) = 2 ^ 63 - 1 := by decide
  rw [e, Nat.and_two_pow_sub_one_eq_mod]
  rfl

theorem and_top (x : Nat) (h : W64 x) : bits .and .u64 (x : Int) 9223372036854775808 = ((if signF x then 9223372036854775808 else 0 : Nat) : Int) := by
  have h1 := bits_and_u64_nat x 9223372036854775808 h (by decide)
  rw [show ((9223372036854775808 : Nat) : Int) = 9223372036854775808 from rfl] at h1
  rw [h1]
  congr 1
  unfold W64 at h
  have e : (9223372036854775808 : Nat) = 2 ^ 63 := by decide
  unfold signF
  rw [e]
  apply Nat.eq_of_testBit_eq
  intro i
  rw [Nat.testBit_and, Nat.testBit_two_pow]
  by_cases hs : 2 ^ 63 ≤ x
  · simp only [hs, decide_true, if_true, Nat.testBit_two_pow]
    by_cases hi : 63 = i
    · subst hi
      have h2 : x / 2 ^ 63 = 1 := by omega
      rw [Nat.testBit_eq_decide_div_mod_eq, h2]; rfl
    · simp [hi]
  · simp only [hs, decide_false]
    by_cases hi : 63 = i
    · subst hi
      rw [Nat.testBit_lt_two_pow (show x < 2 ^ 63 by omega)]; simp
    · simp [hi]

theorem or_top (a : Nat) (ha : a < 9223372036854775808) (s : Bool) : bits .or .u64 (a : Int) ((if s then 9223372036854775808 else 0 : Nat) : Int) = ((if s then 9223372036854775808 + a else a : Nat) : Int) := by
  rw [bits_or_u64_nat a _ (by omega) (by cases s <;> decide)]
  congr 1
  cases s
  · simp
  · have e : (9223372036854775808 : Nat) = 2 ^ 63 := by decide
    simp only [if_true]
    rw [Nat.or_comm, e, ← Nat.two_pow_add_eq_or_of_lt (show a < 2 ^ 63 by omega) 1, Nat.mul_one]

theorem absF_lt (x : Nat) : absF x < 9223372036854775808 := Nat.mod_lt _ (by decide)

theorem nan_absF (x : Nat) : nan (absF x) = nan x := by
  rw [nan_of_rung, nan_of_rung]; unfold absF; rw [Nat.mod_mod]

theorem E_W64 {x y : Nat} (h : E x y) (hy : W64 y) : W64 x := by
  rcases h with rfl | ⟨_, _, h⟩
  · exact hy
  · exact h

set_option maxHeartbeats 400000 in
theorem c_abs (x0 e0 : Nat) (h0 : E x0 e0) (hl : W64 e0) (w0 w : World) (hs : St w0 w) : Calls Try.prog 59 #[.float .f64 x0] w (RF (absF e0) w0) := by
  have e1 := ext_bits
  have e2 := ext_frombits
  have e3 := Lib.hid (andNot_top x0 (E_W64 h0 hl))
  go_enter Try.func59, Try.ntmps59
  go_wp2
  go_ret
  refine ⟨_, rfl, ?_, hs⟩
  rw [e3.out, Int.toNat_natCast]
  rcases h0 with rfl | ⟨h1, h2, h3⟩
  · exact E.refl _
  · exact .inr ⟨by rw [nan_absF]; exact h1, by rw [nan_absF]; exact h2, by have := absF_lt x0; omega⟩

set_option maxHeartbeats 400000 in
theorem c_sign (x0 e0 : Nat) (h0 : E x0 e0) (hn : isNanF e0 = false) (hl : W64 e0) (w0 w : World) (hs : St w0 w) : Calls Try.prog 52 #[.float .f64 x0] w (RB (signF e0) w0) := by
  obtain rfl : x0 = e0 := h0.eq (by rw [← isNanF_eq e0 hl]; exact hn)
  have hw : (decide (wrap64 (x0 : Int) < 0)) = signF x0 := by
    unfold W64 at hl
    unfold wrap64 signF
    exact decide_eq_decide.2 (by omega)
  have e1 := ext_bits
  have e3 := Lib.hid hw
  clear hw hn h0
  go_enter Try.func52, Try.ntmps52
  go_wp2
  go_ret
  have e4 := e3.out
  cases hb : signF x0 with
  | true => exact ⟨.inl ⟨rfl, by show Ending.returned (.bool (decide (wrap64 (x0 : Int) < 0))) = _; rw [e4, hb]⟩, hs⟩
  | false => exact ⟨.inr ⟨rfl, by show Ending.returned (.bool (decide (wrap64 (x0 : Int) < 0))) = _; rw [e4, hb]⟩, hs⟩

set_option maxHeartbeats 400000 in
theorem c_copy (c : Nat) (hc : c < 18446744073709551616) (x0 e0 : Nat) (h0 : E x0 e0) (hn : isNanF e0 = false) (hl : W64 e0) (w0 w : World) (hs : St w0 w) : Calls Try.prog 53 #[.float .f64 c, .float .f64 x0] w (RF (copyF c e0) w0) := by
  obtain rfl : x0 = e0 := h0.eq (by rw [← isNanF_eq e0 hl]; exact hn)
  have hw : (bits BinOp.or IntKind.u64 (bits BinOp.andNot IntKind.u64 (c : Int) 9223372036854775808) (bits BinOp.and IntKind.u64 (x0 : Int) 9223372036854775808)).toNat = copyF c x0 := by
    rw [andNot_top c hc, and_top x0 hl, or_top _ (absF_lt c), Int.toNat_natCast]
    unfold copyF; cases signF x0 <;> rfl
  have e1 := ext_bits
  have e2 := ext_frombits
  have e3 := Lib.hid hw
  clear hw hn h0 hc
  go_enter Try.func53, Try.ntmps53
  go_wp2
  go_ret
  exact ⟨_, rfl, .inl e3.out, hs⟩

set_option maxHeartbeats 400000 in
theorem c_nan (w0 w : World) (hs : St w0 w) : Calls Try.prog 51 #[] w (RF cnan w0) := by
  have e2 := ext_frombits
  go_enter Try.func51, Try.ntmps51
  go_wp2
  go_ret
  exact ⟨_, rfl, .inl rfl, hs⟩

theorem ext_sqrt (x0 e0 : Nat) (h0 : E x0 e0) (w0 w : World) (hs : St w0 w) : ∃ r w', (callFunc 60 #[.float .f64 x0]).run Try.prog w = .ok (.value (.float .f64 r)) w' ∧ E r (fsqrt e0) ∧ St w0 w' := by
  have hc : Ieee.double.sqrt x0 = Ieee.double.sqrt e0 := by
    rcases h0 with rfl | ⟨h1, h2, _⟩
    · rfl
    · rw [sqrt_nan h1, sqrt_nan h2]
  rw [run_callFunc_extern Try.func60 (by kernel_rfl) (by kernel_rfl) (by kernel_rfl) (e := Extern.MathSqrt.sqrt) (by kernel_rfl)]
  have hdef : Extern.MathSqrt.sqrt #[.float .f64 x0] = (match FloatKind.f64.format.sqrt x0 with
    | some r => pure (.float .f64 r)
    | none => do pure (.float .f64 (← choose (.nanBits .f64 x0 x0)))) := rfl
  cases hb : Ieee.double.sqrt x0 with
  | some r =>
    have h1 : FloatKind.f64.format.sqrt x0 = some r := hb
    refine ⟨r, w, by rw [hdef, h1]; rfl, .inl ?_, hs⟩
    unfold fsqrt; rw [← hc, hb]; rfl
  | none =>
    have h1 : FloatKind.f64.format.sqrt x0 = none := hb
    refine ⟨(Question.nanBits .f64 x0 x0).cut (w.tape w.drawn (.nanBits .f64 x0 x0)), w.drew, by rw [hdef, h1]; rfl, .inr ⟨(nan_cut _ _ _).1, ?_, (nan_cut _ _ _).2⟩, hs.drew⟩
    unfold fsqrt; rw [← hc, hb]; exact nan_cnan

set_option maxHeartbeats 400000 in
theorem c_sqrt (x0 e0 : Nat) (h0 : E x0 e0) (w0 w : World) (hs : St w0 w) : Calls Try.prog 55 #[.float .f64 x0] w (RF (fsqrt e0) w0) := by
  obtain ⟨r, w', hrun, hr, hs'⟩ := ext_sqrt x0 e0 h0 w0 w hs
  go_enter Try.func55, Try.ntmps55
  go_wp2
  go_ret
  exact ⟨_, rfl, hr, hs'⟩

set_option maxHeartbeats 400000 in
theorem c_infa (x0 e0 : Nat) (h0 : E x0 e0) (hl : W64 e0) (w0 w : World) (hs : St w0 w) : Calls Try.prog 54 #[.float .f64 x0, .int .i64 0] w (RB (infA e0) w0) := by
  go_enter Try.func54, Try.ntmps54
  go_wp2_with (first | (go_at_call 59; refine (c_abs _ _ (by first | assumption | exact E.refl _) (by assumption) _ _ (by assumption)).mono ?_; rintro e w' ⟨r, rfl, hr, hs⟩) | (refine wpList_fcmp rfl _ _ _ _ _ rfl _ rfl _ _ rfl rfl _ _ (by first | assumption | exact E.refl _) (by first | assumption | exact E.refl _) (fun hb => ?_) (fun hb => ?_) <;> (try first | exact Bool.noConfusion ((hb.symm.trans (by assumption)) : true = false) | exact Bool.noConfusion ((hb.symm.trans (by assumption)) : false = true))))
  all_goals (go_ret; first | exact ⟨.inl ⟨(by simp [infA, *]), rfl⟩, (by assumption)⟩ | exact ⟨.inr ⟨(by simp [infA, *]), rfl⟩, (by assumption)⟩)

set_option maxHeartbeats 400000 in
theorem c_infp (x0 e0 : Nat) (h0 : E x0 e0) (w0 w : World) (hs : St w0 w) : Calls Try.prog 54 #[.float .f64 x0, .int .i64 1] w (RB (infP e0) w0) := by
  go_enter Try.func54, Try.ntmps54
  go_wp2_with (first | (refine wpList_fcmp rfl _ _ _ _ _ rfl _ rfl _ _ rfl rfl _ _ (by first | assumption | exact E.refl _) (by first | assumption | exact E.refl _) (fun hb => ?_) (fun hb => ?_) <;> (try first | exact Bool.noConfusion ((hb.symm.trans (by assumption)) : true = false) | exact Bool.noConfusion ((hb.symm.trans (by assumption)) : false = true))))
  all_goals (go_ret; first | exact ⟨.inl ⟨(by simp [infP, *]), rfl⟩, (by assumption)⟩ | exact ⟨.inr ⟨(by simp [infP, *]), rfl⟩, (by assumption)⟩)

set_option maxHeartbeats 1000000 in
theorem c_asin0 (x0 e0 : Nat) (h0 : E x0 e0)  (w0 w : World) (hs : St w0 w) : Calls Try.prog 46 #[.float .f64 x0] w (RF (asinF e0) w0) := by
  go_enter Try.func46, Try.ntmps46
  go_wp2_with (first | (refine wpList_fop rfl _ _ _ _ _ rfl _ rfl _ _ rfl rfl _ _ (by first | assumption | exact E.refl _) (by first | assumption | exact E.refl _) _ (by assumption) ?_; intro r w' hr hs) | (refine wpList_fcmp rfl _ _ _ _ _ rfl _ rfl _ _ rfl rfl _ _ (by first | assumption | exact E.refl _) (by first | assumption | exact E.refl _) (fun hb => ?_) (fun hb => ?_) <;> (try first | exact Bool.noConfusion ((hb.symm.trans (by assumption)) : true = false) | exact Bool.noConfusion ((hb.symm.trans (by assumption)) : false = true))) | (refine wpList_fneg rfl _ _ rfl _ rfl _ (by first | assumption | exact E.refl _) ?_; intro r hr) | (go_at_call 51; refine (c_nan   _ _ (by assumption)).mono ?_; rintro e w' ⟨r, rfl, hr, hs⟩) | (go_at_call 55; refine (c_sqrt _ _ (by first | assumption | exact E.refl _)  _ _ (by assumption)).mono ?_; rintro e w' ⟨r, rfl, hr, hs⟩) | (go_at_call 49; refine (c_satan _ _ (by first | assumption | exact E.refl _)  _ _ (by assumption)).mono ?_; rintro e w' ⟨r, rfl, hr, hs⟩))
  all_goals (go_ret; exact ⟨_, rfl, (by first | assumption | (simp [asinF, asinA, one, *]; done)), (by assumption)⟩)

set_option maxHeartbeats 400000 in
theorem c_asin1 (x0 e0 : Nat) (h0 : E x0 e0)  (w0 w : World) (hs : St w0 w) : Calls Try.prog 38 #[.float .f64 x0] w (RF (asinF e0) w0) := by
  go_enter Try.func38, Try.ntmps38
  go_wp2_with (first | (refine wpList_fop rfl _ _ _ _ _ rfl _ rfl _ _ rfl rfl _ _ (by first | assumption | exact E.refl _) (by first | assumption | exact E.refl _) _ (by assumption) ?_; intro r w' hr hs) | (refine wpList_fcmp rfl _ _ _ _ _ rfl _ rfl _ _ rfl rfl _ _ (by first | assumption | exact E.refl _) (by first | assumption | exact E.refl _) (fun hb => ?_) (fun hb => ?_) <;> (try first | exact Bool.noConfusion ((hb.symm.trans (by assumption)) : true = false) | exact Bool.noConfusion ((hb.symm.trans (by assumption)) : false = true))) | (refine wpList_fneg rfl _ _ rfl _ rfl _ (by first | assumption | exact E.refl _) ?_; intro r hr) | (go_at_call 46; refine (c_asin0 _ _ (by first | assumption | exact E.refl _)  _ _ (by assumption)).mono ?_; rintro e w' ⟨r, rfl, hr, hs⟩))
  all_goals (go_ret; exact ⟨_, rfl, (by first | assumption | (simp [asinF, *]; done)), (by assumption)⟩)

set_option maxHeartbeats 400000 in
theorem c_asin (x0 e0 : Nat) (h0 : E x0 e0)  (w0 w : World) (hs : St w0 w) : Calls Try.prog 31 #[.float .f64 x0] w (RF (asinF e0) w0) := by
  go_enter Try.func31, Try.ntmps31
  go_wp2_with (first | (refine wpList_fop rfl _ _ _ _ _ rfl _ rfl _ _ rfl rfl _ _ (by first | assumption | exact E.refl _) (by first | assumption | exact E.refl _) _ (by assumption) ?_; intro r w' hr hs) | (refine wpList_fcmp rfl _ _ _ _ _ rfl _ rfl _ _ rfl rfl _ _ (by first | assumption | exact E.refl _) (by first | assumption | exact E.refl _) (fun hb => ?_) (fun hb => ?_) <;> (try first | exact Bool.noConfusion ((hb.symm.trans (by assumption)) : true = false) | exact Bool.noConfusion ((hb.symm.trans (by assumption)) : false = true))) | (refine wpList_fneg rfl _ _ rfl _ rfl _ (by first | assumption | exact E.refl _) ?_; intro r hr) | (go_at_call 38; refine (c_asin1 _ _ (by first | assumption | exact E.refl _)  _ _ (by assumption)).mono ?_; rintro e w' ⟨r, rfl, hr, hs⟩))
  all_goals (go_ret; exact ⟨_, rfl, (by first | assumption | (simp [asinF, *]; done)), (by assumption)⟩)

set_option maxHeartbeats 400000 in
theorem c_acos0 (x0 e0 : Nat) (h0 : E x0 e0)  (w0 w : World) (hs : St w0 w) : Calls Try.prog 48 #[.float .f64 x0] w (RF (acosF e0) w0) := by
  go_enter Try.func48, Try.ntmps48
  go_wp2_with (first | (refine wpList_fop rfl _ _ _ _ _ rfl _ rfl _ _ rfl rfl _ _ (by first | assumption | exact E.refl _) (by first | assumption | exact E.refl _) _ (by assumption) ?_; intro r w' hr hs) | (refine wpList_fcmp rfl _ _ _ _ _ rfl _ rfl _ _ rfl rfl _ _ (by first | assumption | exact E.refl _) (by first | assumption | exact E.refl _) (fun hb => ?_) (fun hb => ?_) <;> (try first | exact Bool.noConfusion ((hb.symm.trans (by assumption)) : true = false) | exact Bool.noConfusion ((hb.symm.trans (by assumption)) : false = true))) | (refine wpList_fneg rfl _ _ rfl _ rfl _ (by first | assumption | exact E.refl _) ?_; intro r hr) | (go_at_call 38; refine (c_asin1 _ _ (by first | assumption | exact E.refl _)  _ _ (by assumption)).mono ?_; rintro e w' ⟨r, rfl, hr, hs⟩))
  all_goals (go_ret; exact ⟨_, rfl, (by first | assumption | (simp [acosF, *]; done)), (by assumption)⟩)

set_option maxHeartbeats 400000 in
theorem c_acos1 (x0 e0 : Nat) (h0 : E x0 e0)  (w0 w : World) (hs : St w0 w) : Calls Try.prog 39 #[.float .f64 x0] w (RF (acosF e0) w0) := by
  go_enter Try.func39, Try.ntmps39
  go_wp2_with (first | (refine wpList_fop rfl _ _ _ _ _ rfl _ rfl _ _ rfl rfl _ _ (by first | assumption | exact E.refl _) (by first | assumption | exact E.refl _) _ (by assumption) ?_; intro r w' hr hs) | (refine wpList_fcmp rfl _ _ _ _ _ rfl _ rfl _ _ rfl rfl _ _ (by first | assumption | exact E.refl _) (by first | assumption | exact E.refl _) (fun hb => ?_) (fun hb => ?_) <;> (try first | exact Bool.noConfusion ((hb.symm.trans (by assumption)) : true = false) | exact Bool.noConfusion ((hb.symm.trans (by assumption)) : false = true))) | (refine wpList_fneg rfl _ _ rfl _ rfl _ (by first | assumption | exact E.refl _) ?_; intro r hr) | (go_at_call 48; refine (c_acos0 _ _ (by first | assumption | exact E.refl _)  _ _ (by assumption)).mono ?_; rintro e w' ⟨r, rfl, hr, hs⟩))
  all_goals (go_ret; exact ⟨_, rfl, (by first | assumption | (simp [acosF, *]; done)), (by assumption)⟩)

set_option maxHeartbeats 400000 in
theorem c_acos (x0 e0 : Nat) (h0 : E x0 e0)  (w0 w : World) (hs : St w0 w) : Calls Try.prog 33 #[.float .f64 x0] w (RF (acosF e0) w0) := by
  go_enter Try.func33, Try.ntmps33
  go_wp2_with (first | (refine wpList_fop rfl _ _ _ _ _ rfl _ rfl _ _ rfl rfl _ _ (by first | assumption | exact E.refl _) (by first | assumption | exact E.refl _) _ (by assumption) ?_; intro r w' hr hs) | (refine wpList_fcmp rfl _ _ _ _ _ rfl _ rfl _ _ rfl rfl _ _ (by first | assumption | exact E.refl _) (by first | assumption | exact E.refl _) (fun hb => ?_) (fun hb => ?_) <;> (try first | exact Bool.noConfusion ((hb.symm.trans (by assumption)) : true = false) | exact Bool.noConfusion ((hb.symm.trans (by assumption)) : false = true))) | (refine wpList_fneg rfl _ _ rfl _ rfl _ (by first | assumption | exact E.refl _) ?_; intro r hr) | (go_at_call 39; refine (c_acos1 _ _ (by first | assumption | exact E.refl _)  _ _ (by assumption)).mono ?_; rintro e w' ⟨r, rfl, hr, hs⟩))
  all_goals (go_ret; exact ⟨_, rfl, (by first | assumption | (simp [acosF, *]; done)), (by assumption)⟩)

set_option maxHeartbeats 2000000 in
theorem c_atan20 (x0 e0 : Nat) (h0 : E x0 e0) (x1 e1 : Nat) (h1 : E x1 e1) (hl0 : W64 e0) (hl1 : W64 e1) (w0 w : World) (hs : St w0 w) : Calls Try.prog 44 #[.float .f64 x0, .float .f64 x1] w (RF (atan2F e0 e1) w0) := by
  go_enter Try.func44, Try.ntmps44
  go_wp2_with (first | (go_at_call 53; refine (c_copy _ (by decide +kernel) _ _ (by first | assumption | exact E.refl _) (by assumption) (by assumption) _ _ (by assumption)).mono ?_; rintro e w' ⟨r, rfl, hr, hs⟩) | (go_at_call 54; (with_reducible refine (c_infa _ _ (by first | assumption | exact E.refl _) (by assumption) _ _ (by assumption)).mono ?_); rintro e w' ⟨⟨hb, rfl⟩ | ⟨hb, rfl⟩, hs⟩ <;> (try first | exact Bool.noConfusion ((hb.symm.trans (by assumption)) : true = false) | exact Bool.noConfusion ((hb.symm.trans (by assumption)) : false = true))) | (go_at_call 54; (with_reducible refine (c_infp _ _ (by first | assumption | exact E.refl _) _ _ (by assumption)).mono ?_); rintro e w' ⟨⟨hb, rfl⟩ | ⟨hb, rfl⟩, hs⟩ <;> (try first | exact Bool.noConfusion ((hb.symm.trans (by assumption)) : true = false) | exact Bool.noConfusion ((hb.symm.trans (by assumption)) : false = true))) | (refine wpList_fop rfl _ _ _ _ _ rfl _ rfl _ _ rfl rfl _ _ (by first | assumption | exact E.refl _) (by first | assumption | exact E.refl _) _ (by assumption) ?_; intro r w' hr hs) | (refine wpList_fcmp rfl _ _ _ _ _ rfl _ rfl _ _ rfl rfl _ _ (by first | assumption | exact E.refl _) (by first | assumption | exact E.refl _) (fun hb => ?_) (fun hb => ?_) <;> (try first | exact Bool.noConfusion ((hb.symm.trans (by assumption)) : true = false) | exact Bool.noConfusion ((hb.symm.trans (by assumption)) : false = true))) | (refine wpList_fneg rfl _ _ rfl _ rfl _ (by first | assumption | exact E.refl _) ?_; intro r hr) | (go_at_call 50; refine (c_misnan _ _ (by first | assumption | exact E.refl _)  _ _ (by assumption)).mono ?_; rintro e w' ⟨⟨hb, rfl⟩ | ⟨hb, rfl⟩, hs⟩ <;> (try first | exact Bool.noConfusion ((hb.symm.trans (by assumption)) : true = false) | exact Bool.noConfusion ((hb.symm.trans (by assumption)) : false = true))) | (go_at_call 51; refine (c_nan   _ _ (by assumption)).mono ?_; rintro e w' ⟨r, rfl, hr, hs⟩) | (go_at_call 52; refine (c_sign _ _ (by first | assumption | exact E.refl _) (by assumption) (by assumption) _ _ (by assumption)).mono ?_; rintro e w' ⟨⟨hb, rfl⟩ | ⟨hb, rfl⟩, hs⟩ <;> (try first | exact Bool.noConfusion ((hb.symm.trans (by assumption)) : true = false) | exact Bool.noConfusion ((hb.symm.trans (by assumption)) : false = true))) | (go_at_call 35; refine (c_atan1 _ _ (by first | assumption | exact E.refl _)  _ _ (by assumption)).mono ?_; rintro e w' ⟨r, rfl, hr, hs⟩))
  all_goals (go_ret; exact ⟨_, rfl, (by first | assumption | (simp [atan2F, *]; done)), (by assumption)⟩)

set_option maxHeartbeats 400000 in
theorem c_atan21 (x0 e0 : Nat) (h0 : E x0 e0) (x1 e1 : Nat) (h1 : E x1 e1) (hl0 : W64 e0) (hl1 : W64 e1) (w0 w : World) (hs : St w0 w) : Calls Try.prog 37 #[.float .f64 x0, .float .f64 x1] w (RF (atan2F e0 e1) w0) := by
  go_enter Try.func37, Try.ntmps37
  go_wp2_with (first | (refine wpList_fop rfl _ _ _ _ _ rfl _ rfl _ _ rfl rfl _ _ (by first | assumption | exact E.refl _) (by first | assumption | exact E.refl _) _ (by assumption) ?_; intro r w' hr hs) | (refine wpList_fcmp rfl _ _ _ _ _ rfl _ rfl _ _ rfl rfl _ _ (by first | assumption | exact E.refl _) (by first | assumption | exact E.refl _) (fun hb => ?_) (fun hb => ?_) <;> (try first | exact Bool.noConfusion ((hb.symm.trans (by assumption)) : true = false) | exact Bool.noConfusion ((hb.symm.trans (by assumption)) : false = true))) | (refine wpList_fneg rfl _ _ rfl _ rfl _ (by first | assumption | exact E.refl _) ?_; intro r hr) | (go_at_call 44; refine (c_atan20 _ _ (by first | assumption | exact E.refl _) _ _ (by first | assumption | exact E.refl _) (by assumption) (by assumption) _ _ (by assumption)).mono ?_; rintro e w' ⟨r, rfl, hr, hs⟩))
  all_goals (go_ret; exact ⟨_, rfl, (by first | assumption | (simp [atan2F, *]; done)), (by assumption)⟩)

set_option maxHeartbeats 400000 in
theorem c_atan2 (x0 e0 : Nat) (h0 : E x0 e0) (x1 e1 : Nat) (h1 : E x1 e1) (hl0 : W64 e0) (hl1 : W64 e1) (w0 w : World) (hs : St w0 w) : Calls Try.prog 20 #[.float .f64 x0, .float .f64 x1] w (RF (atan2F e0 e1) w0) := by
  go_enter Try.func20, Try.ntmps20
  go_wp2_with (first | (refine wpList_fop rfl _ _ _ _ _ rfl _ rfl _ _ rfl rfl _ _ (by first | assumption | exact E.refl _) (by first | assumption | exact E.refl _) _ (by assumption) ?_; intro r w' hr hs) | (refine wpList_fcmp rfl _ _ _ _ _ rfl _ rfl _ _ rfl rfl _ _ (by first | assumption | exact E.refl _) (by first | assumption | exact E.refl _) (fun hb => ?_) (fun hb => ?_) <;> (try first | exact Bool.noConfusion ((hb.symm.trans (by assumption)) : true = false) | exact Bool.noConfusion ((hb.symm.trans (by assumption)) : false = true))) | (refine wpList_fneg rfl _ _ rfl _ rfl _ (by first | assumption | exact E.refl _) ?_; intro r hr) | (go_at_call 37; refine (c_atan21 _ _ (by first | assumption | exact E.refl _) _ _ (by first | assumption | exact E.refl _) (by assumption) (by assumption) _ _ (by assumption)).mono ?_; rintro e w' ⟨r, rfl, hr, hs⟩))
  all_goals (go_ret; exact ⟨_, rfl, (by first | assumption | (simp [atan2F, *]; done)), (by assumption)⟩)

end Go.Proofs.Yticceknfjhfccaa
