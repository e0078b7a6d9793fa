/-
FnRound and FnTanIsQuotient as plain functions on words. No program in sight.
-/
import Derived.Test.YtgbdplmpojkklaaDoorFpZ
namespace Go.Proofs.YtgbdplmpojkklaaDoor
open Ieee

def nearF (a b p : Nat) : Bool := fle (sizeF (fsub a b)) (fmul (sizeF b) p)
def roundF (x : Nat) : Bool :=
  if !isFiniteF x then true
  else fge (sinF x) 13830554455654793216 && fle (sinF x) one && fge (cosF x) 13830554455654793216 && fle (cosF x) one && nearF (fadd (fmul (sinF x) (sinF x)) (fmul (cosF x) (cosF x))) one 4391009636686233600
def tanQuotF (x : Nat) : Bool := !isFiniteF x || (nearF (fmul (tanF x) (cosF x)) (sinF x) 4404520435568345088 && (feq x 0 || fne (tanF x) 0))

end Go.Proofs.YtgbdplmpojkklaaDoor
