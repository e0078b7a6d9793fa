/-
Payne and Hanek's reduction: the contract.
-/
import Derived.Test.YtgbdplmpojkklaaDoorWalkTr
import Derived.Test.YtgbdplmpojkklaaDoorWalkTr2
namespace Go.Proofs.YtgbdplmpojkklaaDoor
open Go.RowKit

instance (n : Nat) : Decidable (U64 n) := inferInstanceAs (Decidable (n < 18446744073709551616))

/-- A table of floats ¦ of whole numbers lies in a block. -/
def TabF (g : Nat) (vs : List Nat) (w : World) : Prop := g < w.heap.size ∧ ∀ (i v : Nat), vs[i]? = some v → w.cell? (Addr.add ⟨g, 0, none⟩ i) = some (.float .f64 v)
def TabU (g : Nat) (vs : List Nat) (w : World) : Prop := g < w.heap.size ∧ ∀ (i v : Nat), vs[i]? = some v → w.cell? (Addr.add ⟨g, 0, none⟩ i) = some (.int .u64 v)
theorem St.add {a w : World} (h : St a w) {g : Nat} (hg : g < a.heap.size) (i : Nat) : w.cell? (Addr.add ⟨g, 0, none⟩ i) = a.cell? (Addr.add ⟨g, 0, none⟩ i) := Below.cell h (by unfold Addr.add; split <;> exact hg)
theorem TabF.st {g : Nat} {vs : List Nat} {a w : World} (h : TabF g vs a) (hs : St a w) : TabF g vs w :=
  ⟨Nat.lt_of_lt_of_le h.1 hs.size, fun i v hv => (hs.add h.1 i).trans (h.2 i v hv)⟩
theorem TabU.st {g : Nat} {vs : List Nat} {a w : World} (h : TabU g vs a) (hs : St a w) : TabU g vs w :=
  ⟨Nat.lt_of_lt_of_le h.1 hs.size, fun i v hv => (hs.add h.1 i).trans (h.2 i v hv)⟩

section
variable {P : Program}
theorem ki_sub_i64' (p q : Int) (h0 : -9223372036854775808 ≤ p - q) (h1 : p - q < 9223372036854775808) : Known P .sub (.int .i64 p) (.int .i64 q) (.int .i64 (p - q)) := by
  intro t x y w
  refine ⟨ki_guard _ _ _ _ _ _ _ _ _, ?_⟩
  have e : IntKind.i64.wrap (p - q) = p - q := by rw [IntKind.wrap_i64]; omega
  simp [binOp, Op.intArith, e]
theorem ki_add_i64' (p q : Int) (h0 : -9223372036854775808 ≤ p + q) (h1 : p + q < 9223372036854775808) : Known P .add (.int .i64 p) (.int .i64 q) (.int .i64 (p + q)) := by
  intro t x y w
  refine ⟨ki_guard _ _ _ _ _ _ _ _ _, ?_⟩
  have e : IntKind.i64.wrap (p + q) = p + q := by rw [IntKind.wrap_i64]; omega
  simp [binOp, Op.intArith, e]
theorem ki_quo (p q : Nat) (hp : U64 p) (hq : 0 < q) : Known P .quo (.int .u64 p) (.int .u64 q) (.int .u64 (p / q : Nat)) := by
  intro t x y w
  refine ⟨ki_guard _ _ _ _ _ _ _ _ _, ?_⟩
  unfold U64 at hp
  have h0 : ¬ ((q : Int) = 0) := by omega
  have hle := Nat.div_le_self p q
  have e : IntKind.u64.wrap ((p : Int).tdiv q) = ((p / q : Nat) : Int) := by
    rw [IntKind.wrap_u64, ← Int.ofNat_tdiv]
    generalize p / q = d at *; omega
  simp only [binOp, Op.intDiv, if_neg h0, e]; rfl
theorem ki_rem (p q : Nat) (hq : 0 < q) : Known P .rem (.int .u64 p) (.int .u64 q) (.int .u64 (p % q : Nat)) := by
  intro t x y w
  refine ⟨ki_guard _ _ _ _ _ _ _ _ _, ?_⟩
  have h0 : ¬ ((q : Int) = 0) := by omega
  have e : (p : Int).tmod q = ((p % q : Nat) : Int) := (Int.ofNat_tmod p q).symm
  simp only [binOp, Op.intDiv, if_neg h0, e]; rfl
/-- The same result, spelt otherwise. -/
theorem kis {op : BinOp} {f : Nat → Nat → Nat} (hop : u64Of op = some f) {p q r : Nat} (hp : U64 p) (hq : U64 q) (e : f p q = r) : Known P op (.int .u64 p) (.int .u64 q) (.int .u64 r) := by
  subst e; exact (ki_u64 hop hp hq).1
theorem eql_t {p q : Nat} (h : p = q) : Known P .eql (.int .u64 p) (.int .u64 q) (.bool true) := by
  have := ki_cmp (P := P) (op := .eql) rfl .u64 p q
  rw [show ((p : Int) == (q : Int)) = true by simp [h]] at this; exact this
theorem eql_f {p q : Nat} (h : p ≠ q) : Known P .eql (.int .u64 p) (.int .u64 q) (.bool false) := by
  have := ki_cmp (P := P) (op := .eql) rfl .u64 p q
  rw [show ((p : Int) == (q : Int)) = false by simp; omega] at this; exact this
theorem uor_lt {p q : Nat} (hp : U64 p) (hq : U64 q) : U64 (uor p q) := Nat.or_lt_two_pow (n := 64) hp hq
theorem ushl_lt (p q : Nat) : U64 (ushl p q) := Nat.mod_lt _ (by decide)
theorem ushr_lt {p : Nat} (q : Nat) (hp : U64 p) : U64 (ushr p q) := Nat.lt_of_le_of_lt (Nat.div_le_self _ _) hp
theorem usub_lt (p q : Nat) : U64 (usub p q) := Nat.mod_lt _ (by decide)
theorem uandNot_lt {p : Nat} (q : Nat) (hp : U64 p) : U64 (uandNot p q) := Nat.lt_of_le_of_lt Nat.and_le_left hp
theorem uand_lt {p : Nat} (q : Nat) (hp : U64 p) : U64 (uand p q) := Nat.lt_of_le_of_lt Nat.and_le_left hp
end

theorem mp_lt : ∀ d, d < 20 → U64 (mp d) := by decide
theorem mp_get : ∀ d, d < 20 → mpT[d]? = some (mp d) := by decide

theorem c_trig (x : Nat) (h29 : TH29 ≤ x) (hI : x < INF) (w0 : World) (hT : TabU 5 mpT w0) (w : World) (hs : St w0 w) : Calls Tryd.prog 60 #[.float .f64 x] w (RUF (trJ x) (trZ x) w0) := by
  have hTH : TH29 = 4737786807993761792 := rfl
  have hIe : INF = 9218868437227405312 := rfl
  have h1 : flt x 4605249457297304856 = false := by
    have e := flt_pos false x 4605249457297304856 (Nat.le_of_lt hI) (by decide) (by decide)
    rw [word_false] at e
    rw [e]; simp; omega
  have hx : U64 x := by unfold U64; omega
  obtain ⟨q, hq⟩ : ∃ q, x / 4503599627370496 = q := ⟨_, rfl⟩
  have hq1 : 1052 ≤ q := by omega
  have hq2 : q ≤ 2046 := by omega
  have hqU : U64 q := by unfold U64; omega
  have hE : trE x = q - 1014 := by unfold trE; rw [hq]
  have hD : trD x ≤ 16 := by unfold trD; rw [hE]; omega
  have hS : trS x < 64 := by unfold trS; omega
  have hDU : U64 (trD x) := by unfold U64; omega
  have hSU : U64 (trS x) := by unfold U64; omega
  have hEU : U64 (trE x) := by unfold U64; omega
  have k1 : Known Tryd.prog .shr (.int .u64 x) (.int .u64 52) (.int .u64 q) := by
    have := shr_k (P := Tryd.prog) hx (show 52 ≤ 64 by decide)
    rw [show x / 2 ^ 52 = q from hq] at this; exact this
  have k2 : Known Tryd.prog .and (.int .u64 q) (.int .u64 2047) (.int .u64 q) := by
    refine kis rfl hqU (q := 2047) (by decide) ?_
    show q &&& 2047 = q
    rw [show (2047 : Nat) = 2 ^ 11 - 1 from rfl, Nat.and_two_pow_sub_one_eq_mod]; omega
  have k3 := conv_u64_int q (by omega)
  have k4 : Known Tryd.prog .sub (.int .i64 q) (.int .i64 1023) (.int .i64 ((q : Int) - 1023)) := ki_sub_i64' q 1023 (by omega) (by omega)
  have k5 : Known Tryd.prog .sub (.int .i64 ((q : Int) - 1023)) (.int .i64 52) (.int .i64 ((q : Int) - 1023 - 52)) := ki_sub_i64' _ 52 (by omega) (by omega)
  have k8 : Known Tryd.prog .add (.int .i64 ((q : Int) - 1023 - 52)) (.int .i64 61) (.int .i64 (trE x : Nat)) := by
    have := ki_add_i64' (P := Tryd.prog) ((q : Int) - 1023 - 52) 61 (by omega) (by omega)
    rw [show (q : Int) - 1023 - 52 + 61 = ((trE x : Nat) : Int) by rw [hE]; omega] at this; exact this
  have k9 := conv_int_uint (trE x) (by rw [hE]; omega)
  have k10 : Known Tryd.prog .quo (.int .u64 (trE x : Nat)) (.int .u64 64) (.int .u64 (trD x : Nat)) := ki_quo (trE x) 64 hEU (by decide)
  have k11 : Known Tryd.prog .rem (.int .u64 (trE x : Nat)) (.int .u64 64) (.int .u64 (trS x : Nat)) := ki_rem (trE x) 64 (by decide)
  have kd : ∀ i : Nat, i ≤ 3 → Known Tryd.prog .add (.int .u64 (trD x : Nat)) (.int .u64 i) (.int .u64 (trD x + i : Nat)) := fun i hi =>
    kis rfl hDU (show U64 i by unfold U64; omega) (by unfold uadd; omega)
  have hmp : ∀ i : Nat, i ≤ 3 → U64 (mp (trD x + i)) := fun i hi => mp_lt _ (by omega)
  have htab : ∀ i : Nat, i ≤ 3 → ∀ w', St w0 w' → w'.cell? (Addr.add ⟨5, 0, none⟩ (trD x + i)) = some (.int .u64 (mp (trD x + i) : Nat)) := fun i hi w' hs' =>
    (hT.st hs').2 _ _ (mp_get _ (by omega))
  have k6 : Known Tryd.prog .andNot (.int .u64 x) (.int .u64 9218868437227405312) (.int .u64 (uandNot x 9218868437227405312 : Nat)) := (ki_u64 (op := .andNot) rfl hx (q := 9218868437227405312) (by decide)).1
  have hm1 := uandNot_lt 9218868437227405312 hx
  have k7 : Known Tryd.prog .or (.int .u64 (uandNot x 9218868437227405312 : Nat)) (.int .u64 4503599627370496) (.int .u64 (trI x : Nat)) := (ki_u64 (op := .or) rfl hm1 (q := 4503599627370496) (by decide)).1
  have hI64 : U64 (trI x) := uor_lt hm1 (by decide)
  have k15 : Known Tryd.prog .sub (.int .u64 64) (.int .u64 (trS x : Nat)) (.int .u64 (usub 64 (trS x) : Nat)) := (ki_u64 (op := .sub) rfl (p := 64) (by decide) hSU).1
  have hs1 := usub_lt 64 (trS x)
  have kl : ∀ a : Nat, U64 a → Known Tryd.prog .shl (.int .u64 a) (.int .u64 (trS x : Nat)) (.int .u64 (ushl a (trS x) : Nat)) := fun a ha => (ki_u64 (op := .shl) rfl ha hSU).1
  have kr : ∀ a : Nat, U64 a → Known Tryd.prog .shr (.int .u64 a) (.int .u64 (usub 64 (trS x) : Nat)) (.int .u64 (ushr a (usub 64 (trS x)) : Nat)) := fun a ha => (ki_u64 (op := .shr) rfl ha hs1).1
  have ko : ∀ a b : Nat, U64 a → U64 b → Known Tryd.prog .or (.int .u64 a) (.int .u64 b) (.int .u64 (uor a b : Nat)) := fun a b ha hb => (ki_u64 (op := .or) rfl ha hb).1
  have hM0 := hmp 0 (by decide); have hM1 := hmp 1 (by decide); have hM2 := hmp 2 (by decide); have hM3 := hmp 3 (by decide)
  rw [Nat.add_zero] at hM0
  have hZ0 : U64 (trZ0 x) := uor_lt (ushl_lt _ _) (ushr_lt _ hM1)
  have hZ1 : U64 (trZ1 x) := uor_lt (ushl_lt _ _) (ushr_lt _ hM2)
  have hZ2 : U64 (trZ2 x) := uor_lt (ushl_lt _ _) (ushr_lt _ hM3)
  have c2 : ∀ w', St w0 w' → Calls Tryd.prog 72 #[.int .u64 (trZ2 x : Nat), .int .u64 (trI x : Nat)] w' (RUU (muHi (trZ2 x) (trI x)) (umul (trZ2 x) (trI x)) w0) := fun w' h' => c_mul64 _ _ (UI.mk hZ2) (UI.mk hI64) w0 w' h'
  have c1 : ∀ w', St w0 w' → Calls Tryd.prog 72 #[.int .u64 (trZ1 x : Nat), .int .u64 (trI x : Nat)] w' (RUU (muHi (trZ1 x) (trI x)) (umul (trZ1 x) (trI x)) w0) := fun w' h' => c_mul64 _ _ (UI.mk hZ1) (UI.mk hI64) w0 w' h'
  have k16 : Known Tryd.prog .mul (.int .u64 (trZ0 x : Nat)) (.int .u64 (trI x : Nat)) (.int .u64 (umul (trZ0 x) (trI x) : Nat)) := (ki_u64 (op := .mul) rfl hZ0 hI64).1
  have a1 : ∀ w', (callFunc 73 #[.int .u64 (umul (trZ1 x) (trI x) : Nat), .int .u64 (muHi (trZ2 x) (trI x) : Nat), .int .u64 0]).run Tryd.prog w' = .ok (.value (.tuple #[.int .u64 (trLo x : Nat), .int .u64 (trLoS x / 18446744073709551616 : Nat)])) w' := fun w' => ext_add64 _ _ 0 (by decide) w'
  have hc : trLoS x / 18446744073709551616 ≤ 1 := by
    have e1 := umul_lt (trZ1 x) (trI x)
    have e2 := muHi_lt (trZ2 x) (trI x)
    unfold U64 at e1 e2
    unfold trLoS; omega
  have a2 : ∀ w', (callFunc 73 #[.int .u64 (umul (trZ0 x) (trI x) : Nat), .int .u64 (muHi (trZ1 x) (trI x) : Nat), .int .u64 (trLoS x / 18446744073709551616 : Nat)]).run Tryd.prog w' = .ok (.value (.tuple #[.int .u64 (trHi x : Nat), .int .u64 ((umul (trZ0 x) (trI x) + muHi (trZ1 x) (trI x) + trLoS x / 18446744073709551616) / 18446744073709551616 : Nat)])) w' := fun w' => ext_add64 _ _ _ hc w'
  have hHi : U64 (trHi x) := Nat.mod_lt _ (by decide)
  have hLo : U64 (trLo x) := Nat.mod_lt _ (by decide)
  have k17 : Known Tryd.prog .shr (.int .u64 (trHi x : Nat)) (.int .u64 61) (.int .u64 (trJ0 x : Nat)) := (ki_u64 (op := .shr) rfl hHi (q := 61) (by decide)).1
  have k18 : Known Tryd.prog .shl (.int .u64 (trHi x : Nat)) (.int .u64 3) (.int .u64 (ushl (trHi x) 3 : Nat)) := (ki_u64 (op := .shl) rfl hHi (q := 3) (by decide)).1
  have k19 : Known Tryd.prog .shr (.int .u64 (trLo x : Nat)) (.int .u64 61) (.int .u64 (ushr (trLo x) 61 : Nat)) := (ki_u64 (op := .shr) rfl hLo (q := 61) (by decide)).1
  have k20 : Known Tryd.prog .or (.int .u64 (ushl (trHi x) 3 : Nat)) (.int .u64 (ushr (trLo x) 61 : Nat)) (.int .u64 (trH x : Nat)) := ko _ _ (ushl_lt _ _) (ushr_lt _ hLo)
  have hH : U64 (trH x) := uor_lt (ushl_lt _ _) (ushr_lt _ hLo)
  have hlz := lzF_le (trH x)
  have clz : ∀ w', St w0 w' → Calls Tryd.prog 74 #[.int .u64 (trH x : Nat)] w' (RI (lzF (trH x)) w0) := fun w' h' => c_lz64 _ hH w0 w' h'
  have k21 := conv_int_uint (lzF (trH x)) (by omega)
  have hlU : U64 (lzF (trH x)) := by unfold U64; omega
  have k22 : Known Tryd.prog .add (.int .u64 (lzF (trH x) : Nat)) (.int .u64 1) (.int .u64 (trL x : Nat)) := (ki_u64 (op := .add) rfl hlU (q := 1) (by decide)).1
  have hL : U64 (trL x) := uadd_lt _ _
  have k23 : Known Tryd.prog .sub (.int .u64 1023) (.int .u64 (trL x : Nat)) (.int .u64 (usub 1023 (trL x) : Nat)) := (ki_u64 (op := .sub) rfl (p := 1023) (by decide) hL).1
  have k24 : Known Tryd.prog .shl (.int .u64 (trH x : Nat)) (.int .u64 (trL x : Nat)) (.int .u64 (ushl (trH x) (trL x) : Nat)) := (ki_u64 (op := .shl) rfl hH hL).1
  have k25 : Known Tryd.prog .sub (.int .u64 64) (.int .u64 (trL x : Nat)) (.int .u64 (usub 64 (trL x) : Nat)) := (ki_u64 (op := .sub) rfl (p := 64) (by decide) hL).1
  have k26 : Known Tryd.prog .shr (.int .u64 (trLo x : Nat)) (.int .u64 (usub 64 (trL x) : Nat)) (.int .u64 (ushr (trLo x) (usub 64 (trL x)) : Nat)) := (ki_u64 (op := .shr) rfl hLo (usub_lt _ _)).1
  have k27 := ko (ushl (trH x) (trL x)) (ushr (trLo x) (usub 64 (trL x))) (ushl_lt _ _) (ushr_lt _ hLo)
  have hg3 : U64 (uor (ushl (trH x) (trL x)) (ushr (trLo x) (usub 64 (trL x)))) := uor_lt (ushl_lt _ _) (ushr_lt _ hLo)
  have k28 : Known Tryd.prog .shr (.int .u64 (uor (ushl (trH x) (trL x)) (ushr (trLo x) (usub 64 (trL x))) : Nat)) (.int .u64 12) (.int .u64 (trF x : Nat)) := (ki_u64 (op := .shr) rfl hg3 (q := 12) (by decide)).1
  have k29 : Known Tryd.prog .shl (.int .u64 (usub 1023 (trL x) : Nat)) (.int .u64 52) (.int .u64 (ushl (usub 1023 (trL x)) 52 : Nat)) := (ki_u64 (op := .shl) rfl (usub_lt _ _) (q := 52) (by decide)).1
  have k30 : Known Tryd.prog .or (.int .u64 (trF x : Nat)) (.int .u64 (ushl (usub 1023 (trL x)) 52 : Nat)) (.int .u64 (trW x : Nat)) := ko _ _ (ushr_lt _ hg3) (ushl_lt _ _)
  have hJ : U64 (trJ0 x) := ushr_lt _ hHi
  have k31 : Known Tryd.prog .and (.int .u64 (trJ0 x : Nat)) (.int .u64 1) (.int .u64 (uand (trJ0 x) 1 : Nat)) := (ki_u64 (op := .and) rfl hJ (q := 1) (by decide)).1
  by_cases hodd : uand (trJ0 x) 1 = 1
  · have k33 : Known Tryd.prog .add (.int .u64 (trJ0 x : Nat)) (.int .u64 1) (.int .u64 (uadd (trJ0 x) 1 : Nat)) := (ki_u64 (op := .add) rfl hJ (q := 1) (by decide)).1
    have k34 : Known Tryd.prog .and (.int .u64 (uadd (trJ0 x) 1 : Nat)) (.int .u64 7) (.int .u64 (uand (uadd (trJ0 x) 1) 7 : Nat)) := (ki_u64 (op := .and) rfl (uadd_lt _ _) (q := 7) (by decide)).1
    have k32 : Known Tryd.prog .eql (.int .u64 (uand (trJ0 x) 1 : Nat)) (.int .u64 1) (.bool true) := eql_t (q := 1) hodd
    unfold trJ trZ
    rw [if_pos hodd, if_pos hodd]
    exact c_tr_true w0 x q q (trE x) _ (trI x) (trD x) (trS x) (trD x + 1) (trD x + 2) (trD x + 3) _ (mp (trD x)) (mp (trD x + 1)) (mp (trD x + 2)) (mp (trD x + 3)) _ _ _ _ _ _ (trZ0 x) (trZ1 x) (trZ2 x) _ _ _ _ _ (trLo x) _ (trHi x) _ (trJ0 x) _ _ (trH x) _ (trL x) _ _ _ _ _ (trF x) _ (trW x) _ _ _ h1
      k1 k2 k3 k4 k5 k6 k7 k8 k9 k10 k11 (kd 1 (by decide)) (kd 2 (by decide)) (kd 3 (by decide)) k15
      (kl _ hM0) (kr _ hM1) (ko _ _ (ushl_lt _ _) (ushr_lt _ hM1)) (kl _ hM1) (kr _ hM2) (ko _ _ (ushl_lt _ _) (ushr_lt _ hM2)) (kl _ hM2) (kr _ hM3) (ko _ _ (ushl_lt _ _) (ushr_lt _ hM3))
      k16 k17 k18 k19 k20 k21 k22 k23 k24 k25 k26 k27 k28 k29 k30 k31
      (by omega) (htab 0 (by decide)) (by omega) (htab 1 (by decide)) (by omega) (htab 2 (by decide)) (by omega) (htab 3 (by decide)) c2 c1 a1 a2 clz k32 _ _ k33 k34 w hs
  · have k32 : Known Tryd.prog .eql (.int .u64 (uand (trJ0 x) 1 : Nat)) (.int .u64 1) (.bool false) := eql_f (q := 1) hodd
    unfold trJ trZ
    rw [if_neg hodd, if_neg hodd]
    exact c_tr_false w0 x q q (trE x) _ (trI x) (trD x) (trS x) (trD x + 1) (trD x + 2) (trD x + 3) _ (mp (trD x)) (mp (trD x + 1)) (mp (trD x + 2)) (mp (trD x + 3)) _ _ _ _ _ _ (trZ0 x) (trZ1 x) (trZ2 x) _ _ _ _ _ (trLo x) _ (trHi x) _ (trJ0 x) _ _ (trH x) _ (trL x) _ _ _ _ _ (trF x) _ (trW x) _ _ _ h1
      k1 k2 k3 k4 k5 k6 k7 k8 k9 k10 k11 (kd 1 (by decide)) (kd 2 (by decide)) (kd 3 (by decide)) k15
      (kl _ hM0) (kr _ hM1) (ko _ _ (ushl_lt _ _) (ushr_lt _ hM1)) (kl _ hM1) (kr _ hM2) (ko _ _ (ushl_lt _ _) (ushr_lt _ hM2)) (kl _ hM2) (kr _ hM3) (ko _ _ (ushl_lt _ _) (ushr_lt _ hM3))
      k16 k17 k18 k19 k20 k21 k22 k23 k24 k25 k26 k27 k28 k29 k30 k31
      (by omega) (htab 0 (by decide)) (by omega) (htab 1 (by decide)) (by omega) (htab 2 (by decide)) (by omega) (htab 3 (by decide)) c2 c1 a1 a2 clz k32 w hs
theorem en_trig : Enters Tryd.prog 60 := enters_of Tryd.func60 (by kernel_rfl) (by kernel_rfl)
end Go.Proofs.YtgbdplmpojkklaaDoor
