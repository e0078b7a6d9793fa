/-
The parts behind the reductions.
-/
import Derived.Test.YtgbdplmpojkklaaDoorKs
namespace Go.Proofs.YtgbdplmpojkklaaDoor
open Go.RowKit

noncomputable def sinTail : Code := sn (sn (sn (sn (sn (sn (sn (Tryd.f44.body.getD .skip)))))))

noncomputable def cosTail : Code := sn (sn (sn (sn (sn (sn (sn (Tryd.f52.body.getD .skip)))))))

noncomputable def tanTail : Code := sn (sn (sn (sn (sn (sn (sn (Tryd.f48.body.getD .skip)))))))

noncomputable def scTail : Code := sn (sn (sn (sn (sn (sn (sn (Tryd.f39.body.getD .skip)))))))

theorem en_misnan : Enters Tryd.prog 57 := enters_of Tryd.func57 (by kernel_rfl) (by kernel_rfl)

theorem en_infa : Enters Tryd.prog 58 := enters_of Tryd.func58 (by kernel_rfl) (by kernel_rfl)

theorem en_nan : Enters Tryd.prog 59 := enters_of Tryd.func59 (by kernel_rfl) (by kernel_rfl)

theorem en_abs : Enters Tryd.prog 66 := enters_of Tryd.func66 (by kernel_rfl) (by kernel_rfl)

end Go.Proofs.YtgbdplmpojkklaaDoor
