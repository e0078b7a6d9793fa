/-
FnArcBack returns true for every float64.
-/
import Derived.Test.YtgbdplmpojkklaaDoorRows
import Derived.Test.YtgbdplmpojkklaaDoorCards
import Derived.Test.YtgbdplmpojkklaaDoorTie
import Derived.Test.YtgbdplmpojkklaaDoorWalkY
import Derived.Test.YtgbdplmpojkklaaDoorRT
import Derived.Test.YtgbdplmpojkklaaDoorLaid
import Derived.ProofKit
import Derived.OpenShut
import Derived.ChangeOld
import Derived.Below
import Derived.LaidMore
import Derived.Stop.Joined
import Derived.SevenTiedAt
namespace Go.Proofs.YtgbdplmpojkklaaDoor
open Go.ChangeShapes Go.WideShapes Go.ChangeAt Go.WideMaps Go.WideElems Go.RowKit

theorem arcBack_lt {x : Nat} (h : (Lit.float .f64 x).wf = true) : x < 18446744073709551616 := by simpa [Lit.wf] using h

theorem walk_arcBack (x0 : Nat) (hx0 : (Lit.float .f64 x0).wf = true) (w : World) (hT : TS w) (hT2 : TT w) :
    Calls Tryd.prog 3 #[.float .f64 x0] w fun e w' => e = .returned (.bool true) ∧ Below w.heap.size w w' := by
  refine (c_l_arcBack x0 x0 (E.refl x0) (arcBack_lt hx0) w w (St.refl w) hT hT2).mono ?_
  rintro e w' ⟨⟨hb, rfl⟩ | ⟨hb, rfl⟩, hs⟩
  · exact ⟨rfl, hs⟩
  · exact Bool.noConfusion ((arcBack_plain x0 (arcBack_lt hx0)).symm.trans hb : true = false)

theorem arcBack_own : ownKnob Tryd.prog.godebug = none := by kernel_rfl
theorem arcBack_door (os : Os) (args : Array Value) : laidMetH Tryd.prog Rows.fnArcBackRow.laid ((World.doorLaid Tryd.prog 400 os).forCall (fun _ _ => 0) ⟨#[], args, []⟩).memory :=
  laidMetH_of_parts3 (fuel := 8) (laidMet_of_run' 8 (by kernel_rfl) (by kernel_rfl)) (by kernel_rfl) (by kernel_rfl)

set_option maxRecDepth 100000 in
theorem arcBack_lifted (os : Os) (started : os.Started) (H : Type) (enc : TypeId × Value → H) :
    ReturnsInHanded {} Tryd.checked os 3 .any (fun w args => (Rows.fnArcBackSpec.pre enc Tryd.prog Tryd.f3 [] false w args ∧ laidMetH Tryd.prog Rows.fnArcBackRow.laid w) ∧ sizedMet enc Tryd.prog Tryd.f3 (OpenSpec.ofChange Rows.fnArcBackSpec) false w args)
      (Rows.fnArcBackSpec.post enc Tryd.prog Tryd.f3 false true false false) := by
  refine returnsInHanded_of_change_and (C := Tryd.checked) (X := fun w _ => laidMetH Tryd.prog Rows.fnArcBackRow.laid w) (fun _ _ _ hh h => h.of_heap hh) arcBack_own started (by kernel_rfl) Tryd.func3
    (ChangeSpec.witness_shaped (enc := enc) (C := Tryd.checked) (os := os) (X := fun w _ => laidMetH Tryd.prog Rows.fnArcBackRow.laid w) false (World.doorLaid Tryd.prog 400 os) #[.float .f64 0] 8 rfl (World.shaped_of_RefB (by kernel_rfl) (by kernel_rfl)) (by kernel_rfl) (by kernel_rfl) (by kernel_rfl) (arcBack_door os _)) ?_
  intro W base args ds gs before hval0 hW _ _ hL _
  have hval : ∀ (j : Nat) t v, Tryd.f3.params[j]? = some t → args[j]? = some v → Value.okWide Tryd.prog W .any base t v := hval0
  have hW' := hW
  obtain ⟨p, q, hA0, hV, rfl, hfz, hnd⟩ := hW
  have hA : DataW.TrodAll enc Tryd.prog W 0 (fun _ => true) true Tryd.f3.params.toList args.toList ds p := hA0
  rw [Tryd.params3] at hA hval
  obtain ⟨v0, vs0, d0, ds0, p0, q0, hargs, rfl, rfl, h0, r0⟩ := trodAll_cons hA
  obtain ⟨rfl, rfl, rfl⟩ := trodAll_nil r0
  obtain rfl : args = #[v0] := by cases args; simp_all
  obtain ⟨rfl, rfl⟩ := trodVars_none hV
  obtain ⟨a0, rfl, rfl, rfl, w0⟩ := open_float Tryd.underlying22 (hval 0 22 v0 rfl rfl) h0
  clear hA0 hval0
  simp only [List.append_nil] at hW'
  refine (walk_arcBack a0 w0 W (laid_ST hL).1 (laid_ST hL).2).mono fun e W' ⟨he, bel⟩ => ?_
  subst he
  exact ⟨_, rfl, _, _, _, [], [], [], hW', trodAll_mk1 (shut_bool Tryd.underlying4 _), (trodAll_cons_mk (shut_float Tryd.underlying22 w0) trodAll_mk0), rfl, bel.frame _, fun h => by cases h⟩

theorem arcBack_row : Rows.FnArcBackSaid :=
  OpenClaim.holds_of_wide 3 Tryd.f3 rfl rfl rfl rfl rfl rfl rfl ⟨rfl, rfl, rfl, rfl, rfl⟩ rfl rfl rfl rfl rfl (by kernel_rfl) Tryd.func3 (by kernel_rfl)
    (of_decide_eq_true (by kernel_rfl)) (by unfold Func.isWrapper; first | (rw [if_pos (by decide +kernel)]; kernel_rfl) | (rw [if_neg (by decide +kernel)]; exact ⟨rfl, rfl⟩))
    (fun os started H enc _ => arcBack_lifted os started H enc)

/-- The statement: the row, its tables tied to the program's text. -/
theorem arcBack_holds : Rows.FnArcBackCardSaid :=
  Claim7.holds_tied_plain_at .later [] [.data, .data, .data, .data, .data] true (true, "e9db82c22d01de7e66c66a64c0e1d02dd762c776abded20af7b85863d09021fb") false
    arcBack_row (fun _ h => by cases h) (by kernel_rfl) (fun _ h => by cases h) fnArcBack_row_tie rfl ⟨rfl, rfl⟩ (by kernel_rfl) rfl
    (fun f fn hf hfn => by
      obtain rfl : f = 3 := Option.some.inj ((show Tryd.prog.funcNamed "loop.example/lib-g03232/laws.FnArcBack" = some 3 by kernel_rfl).symm.trans hf) |>.symm
      obtain rfl : fn = Tryd.f3 := (Option.some.inj (Tryd.func3.symm.trans hfn)).symm
      exact ⟨by kernel_rfl, fun j t ht => by
        rw [Tryd.params3] at ht
        have h3 : t = 22 := by
          rcases j with _ | j
          · simpa using ht.symm
          · simp at ht
        subst h3
        exact (show Tryd.prog.wantsStandIn 22 = false by kernel_rfl)⟩)
    (by kernel_rfl)
#print axioms arcBack_holds
end Go.Proofs.YtgbdplmpojkklaaDoor
