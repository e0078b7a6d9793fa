/-
The float operations of the model as plain functions on words, with one NaN for all; and what holds up to the bits of a NaN. No program in sight.
-/
import Ieee.Arith
namespace Go.Proofs.YtgbdplmpojkklaaDoor
open Ieee

/-- A word that stands for no number. -/
def nan (x : Nat) : Bool := (double.read x).isNaN

/-- The same word, or both no numbers. -/
def E (x y : Nat) : Prop := x = y ∨ (nan x = true ∧ nan y = true ∧ x < 18446744073709551616)
theorem E.refl (x : Nat) : E x x := .inl rfl

/-- The operations, with one NaN for all. -/
def cnan : Nat := 9221120237041090561
def one : Nat := 4607182418800017408
def fadd (x y : Nat) : Nat := (double.add x y).getD cnan
def fsub (x y : Nat) : Nat := (double.sub x y).getD cnan
def fmul (x y : Nat) : Nat := (double.mul x y).getD cnan
def fdiv (x y : Nat) : Nat := (double.div x y).getD cnan
def fsqrt (x : Nat) : Nat := (double.sqrt x).getD cnan
def fneg (x : Nat) : Nat := x ^^^ 9223372036854775808
def feq (x y : Nat) : Bool := double.order x y == some .eq
def fne (x y : Nat) : Bool := double.order x y != some .eq
def flt (x y : Nat) : Bool := double.order x y == some .lt
def fle (x y : Nat) : Bool := double.order x y == some .lt || double.order x y == some .eq
def fgt (x y : Nat) : Bool := double.order x y == some .gt
def fge (x y : Nat) : Bool := double.order x y == some .gt || double.order x y == some .eq

theorem nan_read {x : Nat} (h : nan x = true) : ∃ s t, double.read x = .nan s t := by
  unfold nan Datum.isNaN at h
  cases hr : double.read x with
  | number s m e => rw [hr] at h; cases h
  | infinity s => rw [hr] at h; cases h
  | nan s t => exact ⟨s, t, rfl⟩

theorem nan_cnan : nan cnan = true := by decide +kernel

theorem sum_nan_l (s : Bool) (t : Nat) (d : Datum) : (Datum.nan s t).sum d = none := by cases d <;> rfl
theorem sum_nan_r (s : Bool) (t : Nat) (d : Datum) : d.sum (Datum.nan s t) = none := by cases d <;> rfl
theorem product_nan_l (s : Bool) (t : Nat) (d : Datum) : (Datum.nan s t).product d = none := by cases d <;> rfl
theorem product_nan_r (s : Bool) (t : Nat) (d : Datum) : d.product (Datum.nan s t) = none := by cases d <;> rfl
theorem quotient_nan_l (n : Nat) (s : Bool) (t : Nat) (d : Datum) : (Datum.nan s t).quotient n d = none := by cases d <;> rfl
theorem quotient_nan_r (n : Nat) (s : Bool) (t : Nat) (d : Datum) : d.quotient n (Datum.nan s t) = none := by cases d <;> rfl
theorem order_nan_l (s : Bool) (t : Nat) (d : Datum) : (Datum.nan s t).order d = none := by cases d <;> rfl
theorem order_nan_r (s : Bool) (t : Nat) (d : Datum) : d.order (Datum.nan s t) = none := by cases d <;> rfl

theorem order_nan_left {x : Nat} (y : Nat) (h : nan x = true) : double.order x y = none := by
  obtain ⟨s, t, hr⟩ := nan_read h
  simp [Format.order, hr, order_nan_l]
theorem order_nan_right (x : Nat) {y : Nat} (h : nan y = true) : double.order x y = none := by
  obtain ⟨s, t, hr⟩ := nan_read h
  simp [Format.order, hr, order_nan_r]

theorem order_congr {x y x' y' : Nat} (hx : E x x') (hy : E y y') : double.order x y = double.order x' y' := by
  rcases hx with rfl | ⟨h1, h2, _⟩
  · rcases hy with rfl | ⟨h3, h4, _⟩
    · rfl
    · rw [order_nan_right x h3, order_nan_right x h4]
  · rw [order_nan_left y h1, order_nan_left y' h2]

theorem sqrt_nan {x : Nat} (h : nan x = true) : double.sqrt x = none := by
  obtain ⟨s, t, hr⟩ := nan_read h
  simp [Format.sqrt, hr, Datum.root]

theorem xor_top_lt (x : Nat) (h : x < 9223372036854775808) : x ^^^ 9223372036854775808 = x + 9223372036854775808 := by
  have e : (9223372036854775808 : Nat) = 2 ^ 63 := by decide
  apply Nat.eq_of_testBit_eq
  intro i
  rw [Nat.testBit_xor, e, Nat.testBit_two_pow, Nat.add_comm]
  by_cases hi : 63 = i
  · subst hi
    rw [Nat.testBit_two_pow_add_eq]
    simp
  · by_cases hlt : i < 63
    · rw [Nat.testBit_two_pow_add_gt hlt]; simp [hi]
    · have h1 : x.testBit i = false := Nat.testBit_lt_two_pow (Nat.lt_of_lt_of_le h (by rw [e]; exact Nat.pow_le_pow_right (by omega) (by omega)))
      have h2 : (2 ^ 63 + x).testBit i = false := Nat.testBit_lt_two_pow (by
        have : (2 : Nat) ^ 64 ≤ 2 ^ i := Nat.pow_le_pow_right (by omega) (by omega)
        have e2 : (2 : Nat) ^ 64 = 2 ^ 63 + 2 ^ 63 := by decide
        omega)
      rw [h1, h2]; simp [hi]

theorem xor_top_ge (x : Nat) (h : 9223372036854775808 ≤ x) (h2 : x < 18446744073709551616) : x ^^^ 9223372036854775808 = x - 9223372036854775808 := by
  obtain ⟨y, rfl⟩ : ∃ y, x = y + 9223372036854775808 := ⟨x - 9223372036854775808, by omega⟩
  rw [← xor_top_lt y (by omega), Nat.xor_assoc, Nat.xor_self, Nat.xor_zero, xor_top_lt y (by omega)]
  omega

theorem nan_of_rung (x : Nat) : nan x = decide (9218868437227405312 < x % 9223372036854775808) := by
  unfold nan Format.read
  have e1 : double.signWeight = 9223372036854775808 := by decide
  have e2 : double.binade = 4503599627370496 := by decide
  have e3 : double.infRung = 9218868437227405312 := by decide
  simp only [e1, e2, e3]
  generalize x % 9223372036854775808 = r
  split
  · simp [Datum.isNaN]; omega
  · split
    · simp [Datum.isNaN]; omega
    · split
      · simp [Datum.isNaN]; omega
      · simp [Datum.isNaN]; omega

theorem fneg_mod (x : Nat) (h : x < 18446744073709551616) : fneg x % 9223372036854775808 = x % 9223372036854775808 := by
  unfold fneg
  by_cases hl : x < 9223372036854775808
  · rw [xor_top_lt x hl]; omega
  · rw [xor_top_ge x (by omega) h]; omega

theorem fneg_lt (x : Nat) (h : x < 18446744073709551616) : fneg x < 18446744073709551616 := by
  unfold fneg
  by_cases hl : x < 9223372036854775808
  · rw [xor_top_lt x hl]; omega
  · rw [xor_top_ge x (by omega) h]; omega

/-- The high bits do not matter to whether a word is a NaN: for a word of any size the sign's bit alone is turned. -/
theorem xor_mod_top (x : Nat) : (x ^^^ 9223372036854775808) % 9223372036854775808 = x % 9223372036854775808 := by
  have e : (9223372036854775808 : Nat) = 2 ^ 63 := by decide
  rw [e, Nat.xor_mod_two_pow]; simp

theorem nan_fneg (x : Nat) : nan (fneg x) = nan x := by
  rw [nan_of_rung, nan_of_rung]; unfold fneg; rw [xor_mod_top]

theorem E_fneg {x y : Nat} (h : E x y) : E (fneg x) (fneg y) := by
  rcases h with rfl | ⟨h1, h2, h3⟩
  · exact .inl rfl
  · exact .inr ⟨by rw [nan_fneg]; exact h1, by rw [nan_fneg]; exact h2, fneg_lt x h3⟩

/-- Not a NaN: then the words are the same. -/
theorem E.eq {x y : Nat} (h : E x y) (hn : nan y = false) : x = y := by
  rcases h with rfl | ⟨_, h2, _⟩
  · rfl
  · rw [hn] at h2; cases h2

-- THE REFERENCE's FUNCTIONS
def infF : Nat := fdiv one 0
def nanF : Nat := fdiv 0 0
def isNanF (x : Nat) : Bool := fne x x
def isInfF (x : Nat) : Bool := feq x infF || feq x (fneg infF)
def isFiniteF (x : Nat) : Bool := feq (fsub x x) 0
def minusF (x : Nat) : Bool := flt x 0 || (feq x 0 && flt (fdiv one x) 0)
def sizeF (x : Nat) : Nat := if minusF x then fneg x else x
def likeF (x s : Nat) : Nat := if minusF s then fneg (sizeF x) else sizeF x
def sameF (x y : Nat) : Bool := if isNanF x || isNanF y then isNanF x && isNanF y else feq x y && (minusF x == minusF y)
def beyondF (x : Nat) : Bool := flt x 13830554455654793216 || fgt x one
def lostF (y x : Nat) : Bool := isFiniteF y && isFiniteF x && fne y 0 && fne x 0 && feq (fdiv y x) 0

-- the table of special cases
def givenV (k x : Nat) : Nat := if k = 1 then x else if k = 2 then nanF else if k = 3 then likeF 4609753056924675352 x else 0
def givenB (k : Nat) : Bool := k == 1 || k == 2 || k == 3
def specV (z f x : Nat) : Nat := if isNanF x then nanF else if feq x 0 then givenV z x else if isInfF x then givenV f x else 0
def specB (z f : Nat) (free : Bool) (x : Nat) : Bool := if isNanF x then !free else if feq x 0 then givenB z else if isInfF x then givenB f else false
def metF (z f : Nat) (free : Bool) (x got : Nat) : Bool := !specB z f free x || sameF got (specV z f x)

-- THE LIBRARY's
def xatanZ (z : Nat) : Nat :=
  fdiv (fmul z (fadd (fmul (fadd (fmul (fadd (fmul (fadd (fmul 13829429103926125972 z) 13848613196940411002) z) 13858350711815275123) z) 13861719834326579749) z) 13857635882265799822))
    (fadd (fmul (fadd (fmul (fadd (fmul (fadd (fmul (fadd z 4627690253511319612) z) 4640010388282866213) z) 4646322940342877755) z) 4647246694406179306) z) 4641049159275471596)
def xatanF (x : Nat) : Nat := fadd (fmul x (xatanZ (fmul x x))) x
def satanF (x : Nat) : Nat :=
  if fle x 4604119971053405471 then xatanF x
  else if fgt x 4612618744449965542 then fadd (fsub 4609753056924675352 (xatanF (fdiv one x))) 4364452196894661639
  else fadd (fadd 4605249457297304856 (xatanF (fdiv (fsub x one) (fadd x one)))) 4359948597267291143
def atanF (x : Nat) : Nat := if feq x 0 then x else if fgt x 0 then satanF x else fneg (satanF (fneg x))
def asinA (x : Nat) : Nat :=
  if fgt x 4604480259023595110 then fsub 4609753056924675352 (satanF (fdiv (fsqrt (fsub one (fmul x x))) x))
  else satanF (fdiv x (fsqrt (fsub one (fmul x x))))
def asinF (x : Nat) : Nat :=
  if feq x 0 then x
  else if flt x 0 then (if fgt (fneg x) one then cnan else fneg (asinA (fneg x)))
  else if fgt x one then cnan else asinA x
def acosF (x : Nat) : Nat := fsub 4609753056924675352 (asinF x)
def absF (x : Nat) : Nat := x % 9223372036854775808
def signF (x : Nat) : Bool := decide (9223372036854775808 ≤ x)
def copyF (x s : Nat) : Nat := if signF s then 9223372036854775808 + absF x else absF x
def infA (x : Nat) : Bool := fgt (absF x) 9218868437227405311
def infP (x : Nat) : Bool := fgt x 9218868437227405311
def atan2F (y x : Nat) : Nat :=
  if isNanF y || isNanF x then cnan
  else if feq y 0 then (if fge x 0 && !signF x then copyF 0 y else copyF 4614256656552045848 y)
  else if feq x 0 then copyF 4609753056924675352 y
  else if infA x then
    (if infP x then (if infA y then copyF 4605249457297304856 y else copyF 0 y)
     else if infA y then copyF 4612488097114038738 y else copyF 4614256656552045848 y)
  else if infA y then copyF 4609753056924675352 y
  else if flt x 0 then
    (if fle (atanF (fdiv y x)) 0 then fadd (atanF (fdiv y x)) 4614256656552045848 else fsub (atanF (fdiv y x)) 4614256656552045848)
  else atanF (fdiv y x)

end Go.Proofs.YtgbdplmpojkklaaDoor
