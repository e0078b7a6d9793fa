/-
FnArcBack as a plain function on words. No program in sight.
-/
import Derived.Test.YtgbdplmpojkklaaDoorFpZ
namespace Go.Proofs.YtgbdplmpojkklaaDoor
open Ieee

def arcBackF (x : Nat) : Bool :=
  if beyondF x || isNanF x then true
  else fle (sizeF (fsub (asinF (sinF x)) x)) 4404520435568345088 && fle (sizeF (fsub (atanF (tanF x)) x)) 4404520435568345088 && (flt (sizeF x) 4593671619917905920 || fle (sizeF (fsub (acosF (cosF x)) (sizeF x))) 4404520435568345088) && (feq x 0 || fne (asinF (sinF x)) 0)

end Go.Proofs.YtgbdplmpojkklaaDoor
