/-
The walk's laws for float64: arithmetic, comparisons, the sign, up to the bits of a NaN.
-/
import Derived.Test.YtgbdplmpojkklaaDoorChecked
import Derived.Test.YtgbdplmpojkklaaDoorFpM
import Derived.WalkKit
import Derived.WalkSpells
import Derived.WalkLawsBesides
namespace Go.Proofs.YtgbdplmpojkklaaDoor
open Go.RowKit

theorem bits_nan_l (op : BinOp) {x : Nat} (y : Nat) (h : nan x = true) : floatBits op .f64 x y = none := by
  obtain ⟨s, t, hr⟩ := nan_read h
  cases op <;> simp [floatBits, FloatKind.format, Ieee.Format.add, Ieee.Format.sub, Ieee.Format.mul, Ieee.Format.div, hr, sum_nan_l, product_nan_l, quotient_nan_l]
theorem bits_nan_r (op : BinOp) (x : Nat) {y : Nat} (h : nan y = true) : floatBits op .f64 x y = none := by
  obtain ⟨s, t, hr⟩ := nan_read h
  cases op <;> simp [floatBits, FloatKind.format, Ieee.Format.add, Ieee.Format.sub, Ieee.Format.mul, Ieee.Format.div, hr, Ieee.Datum.opposite, sum_nan_r, product_nan_r, quotient_nan_r]

theorem bits_congr (op : BinOp) {x y x' y' : Nat} (hx : E x x') (hy : E y y') : floatBits op .f64 x y = floatBits op .f64 x' y' := by
  rcases hx with rfl | ⟨h1, h2, _⟩
  · rcases hy with rfl | ⟨h3, h4, _⟩
    · rfl
    · rw [bits_nan_r op x h3, bits_nan_r op x h4]
  · rw [bits_nan_l op y h1, bits_nan_l op y' h2]

/-- The plain function of an operator. -/
def arOf : BinOp → Option (Nat → Nat → Nat)
  | .add => some fadd
  | .sub => some fsub
  | .mul => some fmul
  | .quo => some fdiv
  | _ => none
def cmpOf : BinOp → Option (Nat → Nat → Bool)
  | .eql => some feq
  | .neq => some fne
  | .lss => some flt
  | .leq => some fle
  | .gtr => some fgt
  | .geq => some fge
  | _ => none

theorem ar_bits {op : BinOp} {f : Nat → Nat → Nat} (h : arOf op = some f) (x y : Nat) : f x y = (floatBits op .f64 x y).getD cnan := by
  cases op <;> simp only [arOf, reduceCtorEq, Option.some.injEq] at h <;> subst h <;> rfl

/-- What the tape gives for a NaN is a NaN. -/
theorem nan_cut (x y t : Nat) : nan ((Question.nanBits .f64 x y).cut t) = true ∧ (Question.nanBits .f64 x y).cut t < 18446744073709551616 := by
  have h1 : (t / 2) % (2 ^ 52 - 1) < 2 ^ 52 - 1 := Nat.mod_lt _ (by decide)
  have h2 : t % 2 < 2 := Nat.mod_lt _ (by decide)
  show nan ((t % 2) * 2 ^ 63 + 0x7ff0000000000000 + 1 + (t / 2) % (2 ^ 52 - 1)) = true ∧ (t % 2) * 2 ^ 63 + 0x7ff0000000000000 + 1 + (t / 2) % (2 ^ 52 - 1) < 18446744073709551616
  generalize (t / 2) % (2 ^ 52 - 1) = m at *
  generalize t % 2 = s at *
  have hm : m < 4503599627370495 := h1
  refine ⟨?_, by omega⟩
  rw [nan_of_rung]
  have e4 : (s * 2 ^ 63 + 0x7ff0000000000000 + 1 + m) % 9223372036854775808 = 9218868437227405312 + 1 + m := by omega
  rw [e4]; simp; omega

/-- The worlds through which plain computing goes: memory and streams stay. -/
def St (w w' : World) : Prop := Below w.heap.size w w'
theorem St.refl (w : World) : St w w := Below.refl _ _
theorem St.trans {a b c : World} (h : St a b) (k : St b c) : St a c := Below.trans h (Below.mono k h.size)
theorem St.drew {a w : World} (h : St a w) : St a w.drew := Below.drew h

section
variable {P : Program}

theorem wp_fop {o : Oper} {a : Act} {w : World} {K : Act → World → Prop} {Q : Exit → Act → World → Prop} (op : BinOp) (t t' : TypeId) (x y : Operand)
    (ho : o.op = .binOp op t x y t') (f : Nat → Nat → Nat) (hop : arOf op = some f) (bx b : Nat) (hx : a.eval x = .float .f64 bx) (hy : a.eval y = .float .f64 b)
    (ex ey : Nat) (hex : E bx ex) (hey : E b ey) (w0 : World) (hs : St w0 w)
    (h : ∀ r w', E r (f ex ey) → St w0 w' → K (a.put o.dst (.float .f64 r)) w') : o.wp P a w K Q := by
  have hq : ∀ w : World, (eqGuard op t x y (.float .f64 bx) (.float .f64 b)).run P w = .ok () w := by
    intro w; cases op <;> first | rfl | cases hop
  have hc := bits_congr op hex hey
  unfold Oper.wp execOp
  simp only [ho, hx, hy, Sem.run_bind, hq, Result.andThen_ok]
  cases hb : floatBits op .f64 bx b with
  | some r =>
    rw [run_float_arith w op t .f64 bx b r hb]
    refine h r w (.inl ?_) hs
    rw [ar_bits hop, ← hc, hb]; rfl
  | none =>
    have hrun : (binOp op t (.float .f64 bx) (.float .f64 b)).run P w = .ok (.float .f64 ((Question.nanBits .f64 bx b).cut (w.tape w.drawn (.nanBits .f64 bx b)))) w.drew := by
      unfold floatBits at hb
      cases op <;> simp only at hb <;> first | (cases hop; done) | skip
      all_goals simp [binOp, Op.floatArith, hb, Question.forced]
    rw [hrun]
    refine h _ w.drew (.inr ⟨(nan_cut _ _ _).1, ?_, (nan_cut _ _ _).2⟩) hs.drew
    rw [ar_bits hop, ← hc, hb]; exact nan_cnan

theorem wp_fcmp {o : Oper} {a : Act} {w : World} {K : Act → World → Prop} {Q : Exit → Act → World → Prop} (op : BinOp) (t t' : TypeId) (x y : Operand)
    (ho : o.op = .binOp op t x y t') (f : Nat → Nat → Bool) (hop : cmpOf op = some f) (bx b : Nat) (hx : a.eval x = .float .f64 bx) (hy : a.eval y = .float .f64 b)
    (ex ey : Nat) (hex : E bx ex) (hey : E b ey)
    (h1 : f ex ey = true → K (a.put o.dst (.bool true)) w) (h2 : f ex ey = false → K (a.put o.dst (.bool false)) w) : o.wp P a w K Q := by
  have hc := order_congr hex hey
  have hq : ∀ w : World, (eqGuard op t x y (.float .f64 bx) (.float .f64 b)).run P w = .ok () w := by
    intro w; cases op <;> first | rfl | cases hop
  have hrun : ∀ w : World, (binOp op t (.float .f64 bx) (.float .f64 b)).run P w = .ok (.bool (f ex ey)) w := by
    intro w
    cases op <;> simp only [cmpOf, reduceCtorEq, Option.some.injEq] at hop <;> subst hop
    · rw [binOp_float_cmp_eql]; unfold feq; rw [← hc]; rfl
    · rw [binOp_float_cmp_neq]; unfold fne; rw [← hc]; rfl
    · rw [binOp_float_cmp_lss]; unfold flt; rw [← hc]; rfl
    · rw [binOp_float_cmp_leq]; unfold fle; rw [← hc]; rfl
    · rw [binOp_float_cmp_gtr]; unfold fgt; rw [← hc]; rfl
    · rw [binOp_float_cmp_geq]; unfold fge; rw [← hc]; rfl
  unfold Oper.wp execOp
  simp only [ho, hx, hy, Sem.run_bind, hq, Result.andThen_ok, hrun]
  cases hb : f ex ey with
  | true => exact h1 hb
  | false => exact h2 hb

theorem wp_fneg {o : Oper} {a : Act} {w : World} {K : Act → World → Prop} {Q : Exit → Act → World → Prop} (t : TypeId) (x : Operand)
    (ho : o.op = .unOp .neg t x) (bx : Nat) (hx : a.eval x = .float .f64 bx) (ex : Nat) (hex : E bx ex)
    (h : ∀ r, E r (fneg ex) → K (a.put o.dst (.float .f64 r)) w) : o.wp P a w K Q := by
  unfold Oper.wp execOp
  simp only [ho, hx, Sem.run_bind]
  exact h (fneg bx) (E_fneg hex)

variable {ops : Array Oper} {rest : List Oper} {o : Oper} {a : Act} {w : World} {Q : Exit → Act → World → Prop}

theorem wpList_wanted (hgd : Region.wanted o (yielded ops a.tmps) = true) (h : ∀ K : Act → World → Prop, (∀ a w, wpList P ops Q rest a w → K a w) → o.wp P a w K Q) :
    wpList P ops Q (o :: rest) a w :=
  wpList_step fun K hK => by rw [if_pos hgd]; exact h K hK

theorem wpList_fop (hgd : Region.wanted o (yielded ops a.tmps) = true) (op : BinOp) (t t' : TypeId) (x y : Operand)
    (ho : o.op = .binOp op t x y t') (f : Nat → Nat → Nat) (hop : arOf op = some f) (bx b : Nat) (hx : a.eval x = .float .f64 bx) (hy : a.eval y = .float .f64 b)
    (ex ey : Nat) (hex : E bx ex) (hey : E b ey) (w0 : World) (hs : St w0 w)
    (h : ∀ r w', E r (f ex ey) → St w0 w' → wpList P ops Q rest (a.put o.dst (.float .f64 r)) w') : wpList P ops Q (o :: rest) a w :=
  wpList_wanted hgd fun _ hK => wp_fop op t t' x y ho f hop bx b hx hy ex ey hex hey w0 hs fun r w' hr hw => hK _ _ (h r w' hr hw)

theorem wpList_fcmp (hgd : Region.wanted o (yielded ops a.tmps) = true) (op : BinOp) (t t' : TypeId) (x y : Operand)
    (ho : o.op = .binOp op t x y t') (f : Nat → Nat → Bool) (hop : cmpOf op = some f) (bx b : Nat) (hx : a.eval x = .float .f64 bx) (hy : a.eval y = .float .f64 b)
    (ex ey : Nat) (hex : E bx ex) (hey : E b ey)
    (h1 : f ex ey = true → wpList P ops Q rest (a.put o.dst (.bool true)) w) (h2 : f ex ey = false → wpList P ops Q rest (a.put o.dst (.bool false)) w) :
    wpList P ops Q (o :: rest) a w :=
  wpList_wanted hgd fun _ hK => wp_fcmp op t t' x y ho f hop bx b hx hy ex ey hex hey (fun h => hK _ _ (h1 h)) (fun h => hK _ _ (h2 h))

theorem wpList_fneg (hgd : Region.wanted o (yielded ops a.tmps) = true) (t : TypeId) (x : Operand)
    (ho : o.op = .unOp .neg t x) (bx : Nat) (hx : a.eval x = .float .f64 bx) (ex : Nat) (hex : E bx ex)
    (h : ∀ r, E r (fneg ex) → wpList P ops Q rest (a.put o.dst (.float .f64 r)) w) : wpList P ops Q (o :: rest) a w :=
  wpList_wanted hgd fun _ hK => wp_fneg t x ho bx hx ex hex fun r hr => hK _ _ (h r hr)
end

/-- The call returns a float that is r, up to the bits of a NaN; memory stays. -/
def RF (r : Nat) (w : World) (e : Ending) (w' : World) : Prop := ∃ x, e = .returned (.float .f64 x) ∧ E x r ∧ St w w'
/-- The call returns this bool; memory stays. -/
def RB (b : Bool) (w : World) (e : Ending) (w' : World) : Prop := ((b = true ∧ e = .returned (.bool true)) ∨ (b = false ∧ e = .returned (.bool false))) ∧ St w w'

/-- The call returns a float and a bool. -/
def RFB (r : Nat) (b : Bool) (w : World) (e : Ending) (w' : World) : Prop :=
  ∃ x, ((b = true ∧ e = .returned (.tuple #[.float .f64 x, .bool true])) ∨ (b = false ∧ e = .returned (.tuple #[.float .f64 x, .bool false]))) ∧ E x r ∧ St w w'

theorem St.cell {a w : World} (h : St a w) : ∀ b o, b < a.heap.size → w.cell? ⟨b, o, none⟩ = a.cell? ⟨b, o, none⟩ := fun b o hb => Below.cell (p := ⟨b, o, none⟩) h hb
theorem St.alloc {a w : World} (h : St a w) (o : Obj) : St a (w.alloc o) := Below.alloc h h.size o

end Go.Proofs.YtgbdplmpojkklaaDoor
