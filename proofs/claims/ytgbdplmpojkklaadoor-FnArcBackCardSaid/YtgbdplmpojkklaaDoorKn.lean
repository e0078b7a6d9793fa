/-
Operations on 64-bit integers in the walk over slots: each gives a plain function of whole numbers.
-/
import Derived.Test.YtgbdplmpojkklaaDoorHx
import Derived.Test.YtgbdplmpojkklaaDoorFpX
import Derived.Laws.Bits64b
import Derived.Laws.BitsAllLaws
namespace Go.Proofs.YtgbdplmpojkklaaDoor
open Go.RowKit

def u64Of : BinOp → Option (Nat → Nat → Nat)
  | .add => some uadd
  | .sub => some usub
  | .mul => some umul
  | .and => some uand
  | .or => some uor
  | .andNot => some uandNot
  | .shl => some ushl
  | .shr => some ushr
  | _ => none
def ucmpOf : BinOp → Option (Int → Int → Bool)
  | .eql => some (fun p q => p == q)
  | .gtr => some (fun p q => decide (q < p))
  | .geq => some (fun p q => decide (q ≤ p))
  | _ => none

section
variable {P : Program}
theorem ki_guard (op : BinOp) (t : TypeId) (x y : Operand) (ki kj : IntKind) (p q : Int) (w : World) : (eqGuard op t x y (.int ki p) (.int kj q)).run P w = .ok () w := by
  cases op <;> rfl

theorem ki_u64 {op : BinOp} {f : Nat → Nat → Nat} (hop : u64Of op = some f) {p q : Nat} (hp : U64 p) (hq : U64 q) : Known P op (.int .u64 p) (.int .u64 q) (.int .u64 (f p q : Nat)) ∧ U64 (f p q) := by
  unfold U64 at *
  cases op <;> simp only [u64Of, reduceCtorEq, Option.some.injEq] at hop <;> subst hop
  case add =>
    refine ⟨fun t x y w => ⟨ki_guard _ _ _ _ _ _ _ _ _, ?_⟩, Nat.mod_lt _ (by decide)⟩
    simp only [binOp, Op.intArith, IntKind.wrap_u64, uadd]; show Result.ok _ w = _; congr 2
  case sub =>
    refine ⟨fun t x y w => ⟨ki_guard _ _ _ _ _ _ _ _ _, ?_⟩, Nat.mod_lt _ (by decide)⟩
    simp only [binOp, Op.intArith, IntKind.wrap_u64, usub]; show Result.ok _ w = _; congr 2; omega
  case mul =>
    refine ⟨fun t x y w => ⟨ki_guard _ _ _ _ _ _ _ _ _, ?_⟩, Nat.mod_lt _ (by decide)⟩
    simp only [binOp, Op.intArith, IntKind.wrap_u64, umul]; show Result.ok _ w = _; congr 2
  case and =>
    refine ⟨fun t x y w => ⟨ki_guard _ _ _ _ _ _ _ _ _, ?_⟩, Nat.and_lt_two_pow (n := 64) _ hq⟩
    have h := bits_and_u64_nat p q hp hq
    simp only [binOp, Op.intBits, uand]; show Result.ok (Value.int .u64 (bits .and .u64 p q)) w = _; rw [h]
  case or =>
    refine ⟨fun t x y w => ⟨ki_guard _ _ _ _ _ _ _ _ _, ?_⟩, Nat.or_lt_two_pow (n := 64) hp hq⟩
    have h := bits_or_u64_nat p q hp hq
    simp only [binOp, Op.intBits, uor]; show Result.ok (Value.int .u64 (bits .or .u64 p q)) w = _; rw [h]
  case andNot =>
    refine ⟨fun t x y w => ⟨ki_guard _ _ _ _ _ _ _ _ _, ?_⟩, Nat.and_lt_two_pow (n := 64) _ (by omega)⟩
    have h := u64_andNot_nat p q hp hq
    simp only [binOp, Op.intBits, uandNot]; show Result.ok (Value.int .u64 (bits .andNot .u64 p q)) w = _; rw [h]
  case shl =>
    refine ⟨fun t x y w => ⟨ki_guard _ _ _ _ _ _ _ _ _, ?_⟩, Nat.mod_lt _ (by decide)⟩
    have h1 : ¬ ((q : Int) < 0) := by omega
    simp only [binOp, Op.shift, if_neg h1, Int.toNat_natCast, IntKind.bits, IntKind.wrap_u64, ushl]
    show Result.ok (Value.int .u64 ((p : Int) * 2 ^ min q 64 % 18446744073709551616)) w = _
    congr 2
  case shr =>
    refine ⟨fun t x y w => ⟨ki_guard _ _ _ _ _ _ _ _ _, ?_⟩, Nat.lt_of_le_of_lt (Nat.div_le_self _ _) hp⟩
    have h1 : ¬ ((q : Int) < 0) := by omega
    simp only [binOp, Op.shift, if_neg h1, Int.toNat_natCast, IntKind.bits, ushr]
    show Result.ok (Value.int .u64 ((p : Int).fdiv (2 ^ min q 64))) w = _
    congr 2
    rw [Int.fdiv_eq_ediv_of_nonneg _ (Int.le_of_lt (Int.pow_pos (by decide)))]
    simp

theorem ki_cmp {op : BinOp} {f : Int → Int → Bool} (hop : ucmpOf op = some f) (k : IntKind) (p q : Int) : Known P op (.int k p) (.int k q) (.bool (f p q)) := by
  intro t x y w
  refine ⟨ki_guard _ _ _ _ _ _ _ _ _, ?_⟩
  cases op <;> simp only [ucmpOf, reduceCtorEq, Option.some.injEq] at hop <;> subst hop <;> simp [binOp, Op.intCmp]

variable {Q : Exit → Act → World → Prop} {n : Nat} {l : List (Nat × Value)} {w : World}
variable {ops : Array Oper} {rest : List Oper} {dst : Nat} {ty : TypeId} {pos : String} {aft : Array Edge}
/-- An int that is a whole number of 64 bits. -/
def UI (p : Int) : Prop := 0 ≤ p ∧ p < 18446744073709551616
theorem UI.mk {p : Nat} (h : U64 p) : UI p := by unfold U64 at h; exact ⟨by omega, by omega⟩
theorem UI.u {p : Nat} (h : UI p) : U64 p := by unfold UI at h; unfold U64; omega
theorem UI.nat {p : Int} (h : UI p) : U64 p.toNat ∧ ((p.toNat : Nat) : Int) = p := by unfold UI at h; unfold U64; omega
theorem ki_ui {op : BinOp} {f : Nat → Nat → Nat} (hop : u64Of op = some f) {p q : Int} (hp : UI p) (hq : UI q) : Known P op (.int .u64 p) (.int .u64 q) (.int .u64 (f p.toNat q.toNat : Nat)) ∧ UI (f p.toNat q.toNat : Nat) := by
  have h := ki_u64 (P := P) hop hp.nat.1 hq.nat.1
  rw [hp.nat.2, hq.nat.2] at h
  exact ⟨h.1, UI.mk h.2⟩
theorem hl_u64 {op : BinOp} {t t' : TypeId} {x y : Operand} {f : Nat → Nat → Nat} (hop : u64Of op = some f) {p q : Int} (hd : dst < n)
    (hx : evl l x = some (.int .u64 p)) (hy : evl l y = some (.int .u64 q)) (hp : UI p) (hq : UI q)
    (h : ∀ r : Nat, r = f p.toNat q.toNat → UI r → HL P ops Q rest n ((dst, .int .u64 r) :: l) w) :
    HL P ops Q (⟨some dst, .binOp op t x y t', ty, pos, aft, none⟩ :: rest) n l w :=
  hl_known hd hx hy (ki_ui hop hp hq).1 (h _ rfl (ki_ui (P := P) hop hp hq).2)
theorem hu_u64 {C : World → Prop} {Qa : Act → Prop} {op : BinOp} {t t' : TypeId} {x y : Operand} {f : Nat → Nat → Nat} (hop : u64Of op = some f) {p q : Int} (hd : dst < n)
    (hx : evl l x = some (.int .u64 p)) (hy : evl l y = some (.int .u64 q)) (hp : UI p) (hq : UI q)
    (h : ∀ r : Nat, r = f p.toNat q.toNat → UI r → HU P ops C Qa rest n ((dst, .int .u64 r) :: l)) :
    HU P ops C Qa (⟨some dst, .binOp op t x y t', ty, pos, aft, none⟩ :: rest) n l :=
  hu_val hd (fun _ _ => g_known hx hy (ki_ui hop hp hq).1) (h _ rfl (ki_ui (P := P) hop hp hq).2)
theorem hl_icmp {op : BinOp} {t t' : TypeId} {x y : Operand} {f : Int → Int → Bool} (hop : ucmpOf op = some f) {k : IntKind} {p q : Int} (hd : dst < n)
    (hx : evl l x = some (.int k p)) (hy : evl l y = some (.int k q)) (h : HL P ops Q rest n ((dst, .bool (f p q)) :: l) w) :
    HL P ops Q (⟨some dst, .binOp op t x y t', ty, pos, aft, none⟩ :: rest) n l w := hl_known hd hx hy (ki_cmp hop k p q) h
theorem g_ext0 {x : Operand} {v u : Value} (hx : evl l x = some (.tuple #[v, u])) : Gives P n l ⟨some dst, .extract x 0, ty, pos, aft, none⟩ w v := g_extract hx rfl
theorem g_ext1 {x : Operand} {v u : Value} (hx : evl l x = some (.tuple #[v, u])) : Gives P n l ⟨some dst, .extract x 1, ty, pos, aft, none⟩ w u := g_extract hx rfl
/-- The call gives two whole numbers. -/
def RUU (h l : Nat) (w : World) (e : Ending) (w' : World) : Prop := e = .returned (.tuple #[.int .u64 h, .int .u64 l]) ∧ St w w'
theorem hl_callUU {f : FuncId} {args : Array Operand} {ats : Array TypeId} {vs : Array Value} {p q : Nat} {w0 : World} (hd : dst < n) (hen : Enters P f)
    (hv : ∀ a, Has n l a → args.map a.eval = vs) (hc : Calls P f vs w (RUU p q w0)) (h : ∀ w', St w0 w' → HL P ops Q rest n ((dst, .tuple #[.int .u64 p, .int .u64 q]) :: l) w') :
    HL P ops Q (⟨some dst, .call ⟨.value (.func f), args, ats⟩, ty, pos, aft, none⟩ :: rest) n l w :=
  hl_call hd hen hv hc fun _ w' ⟨he, hs⟩ => ⟨_, he, h w' hs⟩
/-- The call gives a whole number and a float. -/
def RUF (j z : Nat) (w : World) (e : Ending) (w' : World) : Prop := ∃ x, e = .returned (.tuple #[.int .u64 j, .float .f64 x]) ∧ E x z ∧ St w w'
theorem hl_callUF {f : FuncId} {args : Array Operand} {ats : Array TypeId} {vs : Array Value} {p q : Nat} {w0 : World} (hd : dst < n) (hen : Enters P f)
    (hv : ∀ a, Has n l a → args.map a.eval = vs) (hc : Calls P f vs w (RUF p q w0)) (h : ∀ r w', E r q → St w0 w' → HL P ops Q rest n ((dst, .tuple #[.int .u64 p, .float .f64 r]) :: l) w') :
    HL P ops Q (⟨some dst, .call ⟨.value (.func f), args, ats⟩, ty, pos, aft, none⟩ :: rest) n l w :=
  hl_call hd hen hv hc fun _ w' ⟨r, he, hr, hs⟩ => ⟨_, he, h r w' hr hs⟩
/-- The call gives an int. -/
def RI (k : Nat) (w : World) (e : Ending) (w' : World) : Prop := e = .returned (.int .i64 k) ∧ St w w'
theorem hl_callI {f : FuncId} {args : Array Operand} {ats : Array TypeId} {vs : Array Value} {p : Nat} {w0 : World} (hd : dst < n) (hen : Enters P f)
    (hv : ∀ a, Has n l a → args.map a.eval = vs) (hc : Calls P f vs w (RI p w0)) (h : ∀ w', St w0 w' → HL P ops Q rest n ((dst, .int .i64 p) :: l) w') :
    HL P ops Q (⟨some dst, .call ⟨.value (.func f), args, ats⟩, ty, pos, aft, none⟩ :: rest) n l w :=
  hl_call hd hen hv hc fun _ w' ⟨he, hs⟩ => ⟨_, he, h w' hs⟩
/-- The call gives two floats. -/
def RFF (p q : Nat) (w : World) (e : Ending) (w' : World) : Prop := ∃ x y, e = .returned (.tuple #[.float .f64 x, .float .f64 y]) ∧ E x p ∧ E y q ∧ St w w'
theorem hl_callFF {f : FuncId} {args : Array Operand} {ats : Array TypeId} {vs : Array Value} {p q : Nat} {w0 : World} (hd : dst < n) (hen : Enters P f)
    (hv : ∀ a, Has n l a → args.map a.eval = vs) (hc : Calls P f vs w (RFF p q w0)) (h : ∀ r s w', E r p → E s q → St w0 w' → HL P ops Q rest n ((dst, .tuple #[.float .f64 r, .float .f64 s]) :: l) w') :
    HL P ops Q (⟨some dst, .call ⟨.value (.func f), args, ats⟩, ty, pos, aft, none⟩ :: rest) n l w :=
  hl_call hd hen hv hc fun _ w' ⟨r, s, he, hr, ht, hs⟩ => ⟨_, he, h r s w' hr ht hs⟩
end
end Go.Proofs.YtgbdplmpojkklaaDoor
