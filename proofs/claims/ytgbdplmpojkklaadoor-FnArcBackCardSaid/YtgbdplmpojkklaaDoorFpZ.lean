/-
The statements' functions on sines, cosines and tangents as plain functions on words. No program in sight.
-/
import Derived.Test.YtgbdplmpojkklaaDoorFpY
namespace Go.Proofs.YtgbdplmpojkklaaDoor
open Ieee

def sinCasesF (x : Nat) : Bool := metF 1 2 false x (sinF x)
def cosCasesF (x : Nat) : Bool := metF 0 2 false x (cosF x)
def tanCasesF (x : Nat) : Bool := metF 1 2 false x (tanF x)
def sincosCasesF (x : Nat) : Bool := if feq x 0 then sameF (scS x) x && feq (scC x) one else isFiniteF x || (isNanF (scS x) && isNanF (scC x))
def sincosBothF (x : Nat) : Bool := sameF (scS x) (sinF x) && sameF (scC x) (cosF x) && (fne (scS x) 0 || fne (scC x) 0)
def turnedRoundF (x : Nat) : Bool := sameF (sinF (fneg x)) (fneg (sinF x)) && sameF (tanF (fneg x)) (fneg (tanF x)) && sameF (cosF (fneg x)) (cosF x)

end Go.Proofs.YtgbdplmpojkklaaDoor
