/-
The statements' functions as plain functions on words. No program in sight.
-/
import Derived.Test.YtgbdplmpojkklaaDoorFpE
namespace Go.Proofs.YtgbdplmpojkklaaDoor
open Ieee

def cPi : Nat := 4614256656552045848
def cHalf : Nat := 4609753056924675352
def cQuarter : Nat := 4605249457297304856
def cThree : Nat := 4612488097114038738
def cOneN : Nat := 13830554455654793216

def sa2V (y x : Nat) : Nat :=
  if isNanF x || isNanF y then nanF
  else if feq y 0 && feq x 0 && minusF x then 0
  else if feq y 0 && !minusF x then y
  else if feq y 0 then likeF cPi y
  else if feq x 0 then likeF cHalf y
  else if isInfF y && feq x infF then likeF cQuarter y
  else if isInfF y && feq x (fneg infF) then likeF cThree y
  else if feq x infF then 0
  else if feq x (fneg infF) then likeF cPi y
  else if isInfF y then likeF cHalf y
  else 0
def sa2N (y x : Nat) : Bool :=
  if isNanF x || isNanF y then true
  else if feq y 0 && feq x 0 && minusF x then false
  else if feq y 0 && !minusF x then true
  else if feq y 0 then true
  else if feq x 0 then true
  else if isInfF y && feq x infF then true
  else if isInfF y && feq x (fneg infF) then true
  else if feq x infF then true
  else if feq x (fneg infF) then true
  else isInfF y
def sa2S (y x : Nat) : Bool :=
  if isNanF x || isNanF y then true
  else if feq y 0 && feq x 0 && minusF x then false
  else if feq y 0 && !minusF x then true
  else if feq y 0 then true
  else if feq x 0 then true
  else if isInfF y && feq x infF then true
  else if isInfF y && feq x (fneg infF) then true
  else if feq x infF then false
  else if feq x (fneg infF) then true
  else isInfF y
def atan2CasesF (y x : Nat) : Bool := !sa2N y x || sameF (atan2F y x) (sa2V y x) || (!sa2S y x && feq (atan2F y x) (sa2V y x))
def atan2CornersF (y : Nat) : Bool :=
  if isNanF y then true
  else if !sameF (atan2F (likeF 0 y) (fneg 0)) (likeF cPi y) then false
  else isInfF y || sameF (atan2F y infF) (likeF 0 y)
def atan2DiagonalF (x : Nat) (below : Bool) : Bool :=
  if !isFiniteF x || feq x 0 then true
  else if below then sameF (atan2F x (fneg (sizeF x))) (likeF cThree x)
  else sameF (atan2F x (sizeF x)) (likeF cQuarter x)
def quadrantsF (y x : Nat) : Bool :=
  if !isFiniteF y || !isFiniteF x || feq y 0 || feq x 0 || lostF y x then true
  else if minusF (atan2F y x) != minusF y || feq (atan2F y x) 0 then false
  else if fgt x 0 then fle (sizeF (atan2F y x)) cHalf
  else fge (sizeF (atan2F y x)) cHalf && fle (sizeF (atan2F y x)) cPi
def atan2IsAtanF (y x : Nat) : Bool :=
  if !sameF (atan2F y one) (atanF y) || !fgt (atan2F one one) 0 then false
  else !fgt x 0 || !isFiniteF x || !isFiniteF y || sameF (atan2F y x) (atanF (fdiv y x))
def asinCasesF (x : Nat) : Bool := if beyondF x then isNanF (asinF x) else metF 1 0 true x (asinF x)
def acosCasesF (x : Nat) : Bool := !beyondF x || isNanF (acosF x)
def acosIsRestF (x : Nat) : Bool :=
  sameF (acosF x) (fsub cHalf (asinF x)) && (beyondF x || isNanF x || (fge (acosF x) 0 && (feq x one || fgt (acosF x) 0)))
def arcEndsOne (x : Nat) : Nat := if isNanF x then one else likeF one x
def arcEndsF (x : Nat) : Bool :=
  feq (asinF (arcEndsOne x)) (likeF cHalf (arcEndsOne x)) && feq (acosF (fmul (arcEndsOne x) 0)) cHalf && feq (acosF one) 0 && feq (acosF cOneN) cPi &&
    feq (atanF (arcEndsOne x)) (likeF cQuarter (arcEndsOne x))
def arcRangesF (x : Nat) : Bool :=
  if isNanF x then true
  else if !fle (sizeF (atanF x)) cHalf || minusF (atanF x) != minusF x || (fne x 0 && feq (atanF x) 0) then false
  else beyondF x || (fle (sizeF (asinF x)) cHalf && minusF (asinF x) == minusF x && fge (acosF x) 0 && fle (acosF x) cPi)
def noNumberF (x : Nat) : Bool :=
  if isNanF x then isNanF (asinF x) && isNanF (acosF x) && isNanF (atanF x)
  else isFiniteF (atanF x) && (beyondF x || (isFiniteF (asinF x) && isFiniteF (acosF x))) && (feq x 0 || fne (atanF x) 0)
def turnedBackF (x y : Nat) : Bool :=
  if !sameF (asinF (fneg x)) (fneg (asinF x)) || !sameF (atanF (fneg x)) (fneg (atanF x)) then false
  else isNanF x || isNanF y || lostF y x || sameF (atan2F (fneg y) x) (fneg (atan2F y x))

-- WORDS STAY WORDS
theorem width_double : double.width = 64 := rfl

theorem word_lt64 (s : Bool) (r : Nat) (h : r ≤ INF) : double.word s r < 18446744073709551616 := by
  have h1 : INF = 9218868437227405312 := rfl
  have h2 : SGN = 9223372036854775808 := rfl
  cases s
  · rw [word_false]; omega
  · rw [word_true]; omega

theorem write_lt64 (d : Datum) : double.write d < 18446744073709551616 := by
  have hI : INF = 9218868437227405312 := rfl
  have hS : SGN = 9223372036854775808 := rfl
  have hw : ∀ (s : Bool) (r : Nat), r < SGN → double.word s r < 18446744073709551616 := by
    intro s r h
    cases s
    · rw [word_false]; omega
    · rw [word_true]; omega
  cases d with
  | number s m e =>
    show double.nearest s m e < _
    rw [nearest_eq]
    have := (rung_Rn m e).2.1
    exact hw _ _ (by omega)
  | infinity s => exact hw _ _ (by rw [infRung_eq]; omega)
  | nan s t =>
    refine hw _ _ ?_
    rw [infRung_eq, binade_eq]
    have := Nat.mod_lt t B_pos
    have hB : B = 4503599627370496 := rfl
    omega

theorem getD_lt64 (o : Option Datum) : (o.map double.write).getD cnan < 18446744073709551616 := by
  cases o with
  | none => decide
  | some d => exact write_lt64 d

theorem fadd_lt (x y : Nat) : fadd x y < 18446744073709551616 := getD_lt64 _
theorem fsub_lt (x y : Nat) : fsub x y < 18446744073709551616 := getD_lt64 _
theorem fmul_lt (x y : Nat) : fmul x y < 18446744073709551616 := getD_lt64 _
theorem fdiv_lt (x y : Nat) : fdiv x y < 18446744073709551616 := getD_lt64 _
theorem fsqrt_lt (x : Nat) : fsqrt x < 18446744073709551616 := getD_lt64 _
theorem sizeF_lt {x : Nat} (h : x < 18446744073709551616) : sizeF x < 18446744073709551616 := by
  unfold sizeF; split
  · exact fneg_lt x h
  · exact h
theorem likeF_lt {x : Nat} (s : Nat) (h : x < 18446744073709551616) : likeF x s < 18446744073709551616 := by
  unfold likeF; split
  · exact fneg_lt _ (sizeF_lt h)
  · exact sizeF_lt h
theorem satanF_lt (x : Nat) : satanF x < 18446744073709551616 := by
  unfold satanF xatanF; split
  · exact fadd_lt _ _
  · split
    · exact fadd_lt _ _
    · exact fadd_lt _ _
theorem atanF_lt {x : Nat} (h : x < 18446744073709551616) : atanF x < 18446744073709551616 := by
  unfold atanF; split
  · exact h
  · split
    · exact satanF_lt _
    · exact fneg_lt _ (satanF_lt _)
theorem asinA_lt (x : Nat) : asinA x < 18446744073709551616 := by
  unfold asinA; split
  · exact fsub_lt _ _
  · exact satanF_lt _
theorem asinF_lt {x : Nat} (h : x < 18446744073709551616) : asinF x < 18446744073709551616 := by
  unfold asinF
  repeat' split
  all_goals first | exact h | decide | exact fneg_lt _ (asinA_lt _) | exact asinA_lt _
theorem acosF_lt (x : Nat) : acosF x < 18446744073709551616 := fsub_lt _ _
theorem copyF_lt (x s : Nat) : copyF x s < 18446744073709551616 := by
  have : absF x < 9223372036854775808 := Nat.mod_lt _ (by decide)
  unfold copyF; split <;> omega
theorem atan2F_lt (y x : Nat) : atan2F y x < 18446744073709551616 := by
  unfold atan2F
  repeat' split
  all_goals first | decide | exact copyF_lt _ _ | exact fadd_lt _ _ | exact fsub_lt _ _ | exact atanF_lt (fdiv_lt _ _)

end Go.Proofs.YtgbdplmpojkklaaDoor
