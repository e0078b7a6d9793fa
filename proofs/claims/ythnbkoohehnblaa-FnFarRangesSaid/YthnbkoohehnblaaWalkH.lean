/-
Operations on integers with known results; Log1p of every positive finite number.
-/
import Derived.Test.YthnbkoohehnblaaWalkG1
import Derived.Test.YthnbkoohehnblaaFpQ
import Derived.Test.YthnbkoohehnblaaWalkG2
import Derived.Test.YthnbkoohehnblaaWalkG3
namespace Go.Proofs.Ythnbkoohehnblaa
open Go.RowKit

section
variable {P : Program}
theorem kn_guard (op : BinOp) (t : TypeId) (x y : Operand) (ki kj : IntKind) (p q : Int) (w : World) : (eqGuard op t x y (.int ki p) (.int kj q)).run P w = .ok () w := by
  cases op <;> rfl

theorem kn_shr (u s : Nat) (hs : s ≤ 64) : Known P .shr (.int .u64 u) (.int .u64 s) (.int .u64 ((u / 2 ^ s : Nat) : Int)) := by
  intro t x y w
  refine ⟨kn_guard _ _ _ _ _ _ _ _ _, ?_⟩
  have h1 : ¬ ((s : Int) < 0) := by omega
  have h2 : min s 64 = s := by omega
  simp only [binOp, Op.shift, if_neg h1, Int.toNat_natCast, IntKind.bits, h2]
  show Result.ok (Value.int .u64 ((u : Int).fdiv (2 ^ s))) w = _
  congr 2
  rw [Int.fdiv_eq_ediv_of_nonneg _ (Int.le_of_lt (Int.pow_pos (by decide)))]
  simp

theorem kn_cmp_lss (k : IntKind) (p q : Int) (b : Bool) (h : decide (p < q) = b) : Known P .lss (.int k p) (.int k q) (.bool b) := by
  intro t x y w
  refine ⟨kn_guard _ _ _ _ _ _ _ _ _, ?_⟩
  simp [binOp, Op.intCmp, h]
theorem kn_cmp_gtr (k : IntKind) (p q : Int) (b : Bool) (h : decide (q < p) = b) : Known P .gtr (.int k p) (.int k q) (.bool b) := by
  intro t x y w
  refine ⟨kn_guard _ _ _ _ _ _ _ _ _, ?_⟩
  simp [binOp, Op.intCmp, h]
theorem kn_cmp_eql (k : IntKind) (p q : Int) (b : Bool) (h : (p == q) = b) : Known P .eql (.int k p) (.int k q) (.bool b) := by
  intro t x y w
  refine ⟨kn_guard _ _ _ _ _ _ _ _ _, ?_⟩
  simp [binOp, Op.intCmp, h]
theorem kn_cmp_neq (k : IntKind) (p q : Int) (b : Bool) (h : (p != q) = b) : Known P .neq (.int k p) (.int k q) (.bool b) := by
  intro t x y w
  refine ⟨kn_guard _ _ _ _ _ _ _ _ _, ?_⟩
  simp [binOp, Op.intCmp, h]
theorem kn_sub_u64 (p q : Int) (h0 : 0 ≤ p - q) (h1 : p - q < 18446744073709551616) : Known P .sub (.int .u64 p) (.int .u64 q) (.int .u64 (p - q)) := by
  intro t x y w
  refine ⟨kn_guard _ _ _ _ _ _ _ _ _, ?_⟩
  have e : IntKind.u64.wrap (p - q) = p - q := by rw [IntKind.wrap_u64]; omega
  simp [binOp, Op.intArith, e]
theorem kn_add_i64 (p q : Int) (h0 : -9223372036854775808 ≤ p + q) (h1 : p + q < 9223372036854775808) : Known P .add (.int .i64 p) (.int .i64 q) (.int .i64 (p + q)) := by
  intro t x y w
  refine ⟨kn_guard _ _ _ _ _ _ _ _ _, ?_⟩
  have e : IntKind.i64.wrap (p + q) = p + q := by rw [IntKind.wrap_i64]; omega
  simp [binOp, Op.intArith, e]
theorem kn_bits (op : BinOp) (ho : op = .and ∨ op = .or) (p q r : Int) (h : bits op .u64 p q = r) : Known P op (.int .u64 p) (.int .u64 q) (.int .u64 r) := by
  intro t x y w
  refine ⟨kn_guard _ _ _ _ _ _ _ _ _, ?_⟩
  rcases ho with rfl | rfl
  · subst h; simp [binOp, Op.intBits, bits]
  · subst h; simp [binOp, Op.intBits, bits]
end

theorem or_high (c m : Nat) (hm : m < 4503599627370496) : c * 4503599627370496 ||| m = c * 4503599627370496 + m := by
  have e : (4503599627370496 : Nat) = 2 ^ 52 := by decide
  rw [e, Nat.mul_comm, ← Nat.two_pow_add_eq_or_of_lt (by omega)]

theorem kn_conv_ui (p : Int) (h0 : 0 ≤ p) (h1 : p < 9223372036854775808) : KnownC Try.prog 38 3 (.int .u64 p) (.int .i64 p) := by
  intro w
  have e : IntKind.i64.wrap p = p := by rw [IntKind.wrap_i64]; omega
  simp [convert, run_underlying Try.underlying38, run_underlying Try.underlying3, Conv.intToInt, e]
theorem kn_conv_if (p : Int) : KnownC Try.prog 3 22 (.int .i64 p) (.float .f64 (ofI p)) := by
  intro w
  exact run_convert_int_float w _ _ .i64 .f64 p (by rw [Try.underlying3]; rfl) Try.underlying22

theorem l1_facts {a : Nat} (h : PF a) : flt a 13830554455654793216 = false ∧ isNanF a = false ∧ feq a 13830554455654793216 = false ∧ infP a = false ∧ P63 a := by
  have hI : a ≤ INF := Nat.le_of_lt h.2
  have h0 := V_pos h.1
  have e1 := flt_word false true a ONE hI (by decide)
  have e2 := feq_word false true a ONE hI (by decide)
  rw [word_false, ← oneN_eq] at e1 e2
  have hO : 0 < V ONE := V_pos (by decide)
  refine ⟨?_, isNanF_word false a hI, ?_, ?_, Nat.lt_trans h.2 (by decide)⟩
  · rw [e1]; simp [SV] <;> omega
  · rw [e2]; simp [SV] <;> omega
  · have := infP_word false a hI
    rw [word_false] at this
    rw [this]; simp; have := h.2; have hh : INF = 9218868437227405312 := rfl; omega

theorem l1_parts {u : Nat} (h1 : ONE ≤ u) (h2 : u < INF) :
    Known Try.prog .shr (.int .u64 u) (.int .u64 52) (.int .u64 ((u / 2 ^ 52 : Nat) : Int)) ∧
    Known Try.prog .sub (.int .u64 ((u / 2 ^ 52 : Nat) : Int)) (.int .u64 1023) (.int .u64 (l1K u)) ∧
    KnownC Try.prog 38 3 (.int .u64 (l1K u)) (.int .i64 (l1K u)) ∧
    Known Try.prog .and (.int .u64 u) (.int .u64 4503599627370495) (.int .u64 ((u % 4503599627370496 : Nat) : Int)) ∧ 0 ≤ l1K u ∧ l1K u ≤ 1023 := by
  have hO : ONE = 4607182418800017408 := rfl
  have hI : INF = 9218868437227405312 := rfl
  have e52 : (2 : Nat) ^ 52 = 4503599627370496 := by decide
  have hk : l1K u = ((u / 2 ^ 52 : Nat) : Int) - 1023 := by unfold l1K; rw [e52]
  have hk0 : 0 ≤ l1K u := by unfold l1K; omega
  have hk1 : l1K u ≤ 1023 := by unfold l1K; omega
  refine ⟨kn_shr u 52 (by decide), ?_, kn_conv_ui _ hk0 (by omega), ?_, hk0, hk1⟩
  · rw [hk]; exact kn_sub_u64 _ _ (by rw [← hk]; exact hk0) (by rw [← hk]; omega)
  · refine kn_bits _ (.inl rfl) _ _ _ ?_
    have h := bits_and_u64_nat u 4503599627370495 (by omega) (by decide)
    rw [show ((4503599627370495 : Nat) : Int) = 4503599627370495 from rfl] at h
    rw [h, show (4503599627370495 : Nat) = 2 ^ 52 - 1 by decide, Nat.and_two_pow_sub_one_eq_mod]

theorem l1_or {m : Nat} (hm : m < 4503599627370496) (c : Nat) (hc : c ≤ 1023) : Known Try.prog .or (.int .u64 m) (.int .u64 ((c * 4503599627370496 : Nat) : Int)) (.int .u64 ((c * 4503599627370496 + m : Nat) : Int)) := by
  refine kn_bits _ (.inr rfl) _ _ _ ?_
  rw [bits_or_u64_nat m _ (by omega) (by omega), Nat.or_comm, or_high c m hm]

theorem ofI_floatOfInt (n : Int) : floatOfInt .f64 n = ofI n := rfl

theorem beq_true_int {n : Nat} (h : (n / 4 == 0) = true) : (((n / 2 ^ 2 : Nat) : Int) == 0) = true := by
  have : n / 4 = 0 := by simpa using h
  simp; omega
theorem beq_false_int {n : Nat} (h : (n / 4 == 0) = false) : (((n / 2 ^ 2 : Nat) : Int) == 0) = false := by
  have : n / 4 ≠ 0 := by simpa using h
  simp; omega
def double_N (r : Nat) : Nat := Ieee.double.word true r

/-- Log1p of a positive finite number. -/
theorem c_log1p0 (x0 e0 : Nat) (h0 : E x0 e0) (hp : PF e0) (w0 w : World) (hs : St w0 w) : Calls Try.prog 47 #[.float .f64 x0] w (RF (log1pF e0) w0) := by
  obtain ⟨h1, h2, h3, h4, h5⟩ := l1_facts hp
  obtain rfl : x0 = e0 := h0.eq (by rw [← isNanF_eq e0 (Nat.lt_trans hp.2 (by decide))]; exact h2)
  have hI : x0 ≤ INF := Nat.le_of_lt hp.2
  have kn1 : Known Try.prog .neq (.int .i64 1) (.int .i64 0) (.bool true) := kn_cmp_neq _ _ _ _ rfl
  unfold log1pF
  by_cases h6 : flt x0 4601133428098527026 = true
  · rw [if_pos h6]
    by_cases h7 : flt x0 4476578029606273024 = true
    · rw [if_pos h7]
      by_cases h8 : flt x0 4363988038922010624 = true
      · rw [if_pos h8]; exact c_l1_tiny x0 h1 h2 h3 h4 h5 h6 h7 h8 w0 w hs
      · rw [if_neg h8]; exact c_l1_small x0 h1 h2 h3 h4 h5 h6 h7 (by simpa using h8) w0 w hs
    · rw [if_neg h7]
      have h8 : fgt x0 13822319951937112167 = true := by
        have e := fgt_word false true x0 4598947915082336359 hI (by decide)
        have en : double_N 4598947915082336359 = 13822319951937112167 := by decide
        rw [word_false] at e
        have e' : fgt x0 13822319951937112167 = decide (SV true 4598947915082336359 < SV false x0) := by rw [← en]; exact e
        have hv := V_pos hp.1
        rw [e']; simp [SV]; omega
      exact c_l1_mid x0 h1 h2 h3 h4 h5 h6 (by simpa using h7) h8 (kn_cmp_neq _ _ _ _ rfl) (kn_cmp_eql _ _ _ _ rfl) (kn_cmp_eql _ _ _ _ rfl) w0 w hs
  · rw [if_neg h6]
    have h6' : flt x0 4601133428098527026 = false := by simpa using h6
    have hO : ONE = 4607182418800017408 := rfl
    by_cases h7 : flt x0 4845873199050653696 = true
    · rw [if_pos h7]
      have hx : x0 < 4845873199050653696 := by
        have := flt_pos false x0 4845873199050653696 hI (by decide) (by decide)
        rw [word_false] at this; rw [this] at h7; simpa using h7
      have hu2 : fadd ONE x0 < INF := Nat.lt_of_le_of_lt (fadd_mono ONE_lt (b' := 4845873199050653696) (by decide) (Nat.le_refl _) (by omega)) (by decide +kernel)
      have hu1 : ONE ≤ fadd ONE x0 := fadd_ge ONE_lt hp.2
      have ku : KnownF .add 4607182418800017408 x0 (fadd ONE x0) := by
        refine ⟨rfl, ?_⟩
        obtain ⟨r, hr, _⟩ := add_fin false false ONE x0 ONE_lt hp.2
        rw [word_false, word_false] at hr
        show Ieee.double.add ONE x0 = some (fadd ONE x0)
        unfold fadd
        rw [hr, Option.getD_some]
      rw [show fadd 4607182418800017408 x0 = fadd ONE x0 from rfl]
      generalize fadd ONE x0 = u at *
      obtain ⟨k1, k2, k3, k5, hk0, hk1⟩ := l1_parts hu1 hu2
      have hm := Nat.mod_lt u (show 0 < 4503599627370496 by decide)
      generalize hmu : u % 4503599627370496 = m at *
      generalize l1K u = k at *
      unfold l1M
      by_cases h8 : m < 1865452045155277
      · rw [if_pos h8]
        have k6 : Known Try.prog .lss (.int .u64 m) (.int .u64 1865452045155277) (.bool true) := kn_cmp_lss _ _ _ _ (decide_eq_true (by omega))
        have k7 := l1_or hm 1023 (Nat.le_refl _)
        cases hk : decide (0 < k) with
        | true =>
          have hkp : 0 < k := of_decide_eq_true hk
          have hy : (k == 0) = false := by simp; omega
          rw [hy]
          cases hz : (m == 0) with
          | true => exact c_l1_lo_true_true x0 h1 h2 h3 h4 h5 h6' h7 kn1 u m _ _ k k1 k2 k3 k5 ku (kn_cmp_gtr _ _ _ _ hk) k6 _ k7 (kn_cmp_eql _ _ _ _ (by simpa using hz)) (kn_cmp_eql _ _ _ _ hy) (kn_conv_if k) w0 w hs
          | false => exact c_l1_lo_false_true x0 h1 h2 h3 h4 h5 h6' h7 kn1 u m _ _ k k1 k2 k3 k5 ku (kn_cmp_gtr _ _ _ _ hk) k6 _ k7 (kn_cmp_eql _ _ _ _ (by simpa using hz)) (kn_cmp_eql _ _ _ _ hy) (kn_conv_if k) w0 w hs
        | false =>
          have hkp : ¬ 0 < k := of_decide_eq_false hk
          have hy : (k == 0) = true := by simp; omega
          rw [hy]
          cases hz : (m == 0) with
          | true => exact c_l1_lo_true_false x0 h1 h2 h3 h4 h5 h6' h7 kn1 u m _ _ k k1 k2 k3 k5 ku (kn_cmp_gtr _ _ _ _ hk) k6 _ k7 (kn_cmp_eql _ _ _ _ (by simpa using hz)) (kn_cmp_eql _ _ _ _ hy) (kn_conv_if k) w0 w hs
          | false => exact c_l1_lo_false_false x0 h1 h2 h3 h4 h5 h6' h7 kn1 u m _ _ k k1 k2 k3 k5 ku (kn_cmp_gtr _ _ _ _ hk) k6 _ k7 (kn_cmp_eql _ _ _ _ (by simpa using hz)) (kn_cmp_eql _ _ _ _ hy) (kn_conv_if k) w0 w hs
      · rw [if_neg h8]
        have k6 : Known Try.prog .lss (.int .u64 m) (.int .u64 1865452045155277) (.bool false) := kn_cmp_lss _ _ _ _ (decide_eq_false (by omega))
        have k7 := l1_or hm 1022 (by decide)
        have ka := kn_add_i64 (P := Try.prog) k 1 (by omega) (by omega)
        have kb := kn_sub_u64 (P := Try.prog) 4503599627370496 m (by omega) (by omega)
        have ei : (4503599627370496 : Int) - m = ((4503599627370496 - m : Nat) : Int) := by omega
        rw [ei] at kb
        have kc := kn_shr (P := Try.prog) (4503599627370496 - m) 2 (by decide)
        have hy : (k + 1 == 0) = false := by simp; omega
        rw [hy]
        cases hk : decide (0 < k) with
        | true =>
          cases hz : ((4503599627370496 - m) / 4 == 0) with
          | true => exact c_l1_hi_true_true x0 h1 h2 h3 h4 h5 h6' h7 kn1 u m _ _ k k1 k2 k3 k5 ku (kn_cmp_gtr _ _ _ _ hk) k6 _ k7 _ _ _ ka kb kc (kn_cmp_eql _ _ _ _ (beq_true_int hz)) (kn_cmp_eql _ _ _ _ hy) (kn_conv_if _) w0 w hs
          | false => exact c_l1_hi_false_true x0 h1 h2 h3 h4 h5 h6' h7 kn1 u m _ _ k k1 k2 k3 k5 ku (kn_cmp_gtr _ _ _ _ hk) k6 _ k7 _ _ _ ka kb kc (kn_cmp_eql _ _ _ _ (beq_false_int hz)) (kn_cmp_eql _ _ _ _ hy) (kn_conv_if _) w0 w hs
        | false =>
          cases hz : ((4503599627370496 - m) / 4 == 0) with
          | true => exact c_l1_hi_true_false x0 h1 h2 h3 h4 h5 h6' h7 kn1 u m _ _ k k1 k2 k3 k5 ku (kn_cmp_gtr _ _ _ _ hk) k6 _ k7 _ _ _ ka kb kc (kn_cmp_eql _ _ _ _ (beq_true_int hz)) (kn_cmp_eql _ _ _ _ hy) (kn_conv_if _) w0 w hs
          | false => exact c_l1_hi_false_false x0 h1 h2 h3 h4 h5 h6' h7 kn1 u m _ _ k k1 k2 k3 k5 ku (kn_cmp_gtr _ _ _ _ hk) k6 _ k7 _ _ _ ka kb kc (kn_cmp_eql _ _ _ _ (beq_false_int hz)) (kn_cmp_eql _ _ _ _ hy) (kn_conv_if _) w0 w hs
    · rw [if_neg h7]
      have h7' : flt x0 4845873199050653696 = false := by simpa using h7
      have hx : ¬ x0 < 4845873199050653696 := by
        have := flt_pos false x0 4845873199050653696 hI (by decide) (by decide)
        rw [word_false] at this; rw [this] at h7'; simpa using h7'
      obtain ⟨k1, k2, k3, k5, hk0, hk1⟩ := l1_parts (u := x0) (by omega) hp.2
      have hkb : 1 ≤ l1K x0 := by unfold l1K; omega
      have hm := Nat.mod_lt x0 (show 0 < 4503599627370496 by decide)
      generalize hmu : x0 % 4503599627370496 = m at *
      generalize l1K x0 = k at *
      unfold l1M
      by_cases h8 : m < 1865452045155277
      · rw [if_pos h8]
        have k6 : Known Try.prog .lss (.int .u64 m) (.int .u64 1865452045155277) (.bool true) := kn_cmp_lss _ _ _ _ (decide_eq_true (by omega))
        have k7 := l1_or hm 1023 (Nat.le_refl _)
        have hy : (k == 0) = false := by simp; omega
        rw [hy]
        cases hz : (m == 0) with
        | true => exact c_l1_lo_true_far x0 h1 h2 h3 h4 h5 h6' h7' kn1 m _ _ k k1 k2 k3 k5 k6 _ k7 (kn_cmp_eql _ _ _ _ (by simpa using hz)) (kn_cmp_eql _ _ _ _ hy) (kn_conv_if k) w0 w hs
        | false => exact c_l1_lo_false_far x0 h1 h2 h3 h4 h5 h6' h7' kn1 m _ _ k k1 k2 k3 k5 k6 _ k7 (kn_cmp_eql _ _ _ _ (by simpa using hz)) (kn_cmp_eql _ _ _ _ hy) (kn_conv_if k) w0 w hs
      · rw [if_neg h8]
        have k6 : Known Try.prog .lss (.int .u64 m) (.int .u64 1865452045155277) (.bool false) := kn_cmp_lss _ _ _ _ (decide_eq_false (by omega))
        have k7 := l1_or hm 1022 (by decide)
        have ka := kn_add_i64 (P := Try.prog) k 1 (by omega) (by omega)
        have kb := kn_sub_u64 (P := Try.prog) 4503599627370496 m (by omega) (by omega)
        have ei : (4503599627370496 : Int) - m = ((4503599627370496 - m : Nat) : Int) := by omega
        rw [ei] at kb
        have kc := kn_shr (P := Try.prog) (4503599627370496 - m) 2 (by decide)
        have hy : (k + 1 == 0) = false := by simp; omega
        rw [hy]
        cases hz : ((4503599627370496 - m) / 4 == 0) with
        | true => exact c_l1_hi_true_far x0 h1 h2 h3 h4 h5 h6' h7' kn1 m _ _ k k1 k2 k3 k5 k6 _ k7 _ _ _ ka kb kc (kn_cmp_eql _ _ _ _ (beq_true_int hz)) (kn_cmp_eql _ _ _ _ hy) (kn_conv_if _) w0 w hs
        | false => exact c_l1_hi_false_far x0 h1 h2 h3 h4 h5 h6' h7' kn1 m _ _ k k1 k2 k3 k5 k6 _ k7 _ _ _ ka kb kc (kn_cmp_eql _ _ _ _ (beq_false_int hz)) (kn_cmp_eql _ _ _ _ hy) (kn_conv_if _) w0 w hs

end Go.Proofs.Ythnbkoohehnblaa
