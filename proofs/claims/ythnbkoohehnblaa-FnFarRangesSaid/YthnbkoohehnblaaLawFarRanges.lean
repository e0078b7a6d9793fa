/-
FnFarRanges returns true for every float64.
-/
import Derived.Test.YthnbkoohehnblaaRows
import Derived.Test.YthnbkoohehnblaaFr
import Derived.ProofKit
import Derived.OpenShut
import Derived.ChangeOld
import Derived.Below
namespace Go.Proofs.Ythnbkoohehnblaa
open Go.ChangeShapes Go.WideShapes Go.ChangeAt Go.RowKit

theorem farRanges_lt {x : Nat} (h : (Lit.float .f64 x).wf = true) : x < 18446744073709551616 := by simpa [Lit.wf] using h

theorem walk_farRanges (x0 : Nat) (hx0 : (Lit.float .f64 x0).wf = true) (w : World) :
    Calls Try.prog 3 #[.float .f64 x0] w fun e w' => e = .returned (.bool true) ∧ Below w.heap.size w w' := by
  refine (c_l_farRanges x0 x0 (E.refl x0) (farRanges_lt hx0) w w (St.refl w)).mono ?_
  rintro e w' ⟨⟨_, rfl⟩ | ⟨hb, rfl⟩, hs⟩
  · exact ⟨rfl, hs⟩
  · exact Bool.noConfusion hb


theorem farRanges_own : ownKnob Try.prog.godebug = none := by kernel_rfl

set_option maxRecDepth 100000 in
theorem farRanges_lifted (os : Os) (started : os.Started) (H : Type) (enc : TypeId × Value → H) :
    ReturnsInHanded {} Try.checked os 3 .any (Rows.fnFarRangesSpec.pre6 enc Try.prog Try.f3 Rows.fnFarRangesRow.domain false) (Rows.fnFarRangesSpec.post enc Try.prog Try.f3 false true false false) := by
  refine returnsInHanded_of_change (C := Try.checked) farRanges_own started (by kernel_rfl) Try.func3
    (ChangeSpec.witness6 (enc := enc) (C := Try.checked) false ⟨#[], #[.float .f64 0], []⟩ 8 (by kernel_rfl) (by kernel_rfl) (by kernel_rfl) (by kernel_rfl)) ?_
  intro W base args ds gs before hval0 hW hcnd _
  have hval : ∀ (j : Nat) t v, Try.f3.params[j]? = some t → args[j]? = some v → Value.okWide Try.prog W .any base t v := hval0
  have hW' := hW
  obtain ⟨p, q, hA0, hV, rfl, hfz, hnd⟩ := hW
  have hA : DataW.TrodAll enc Try.prog W 0 (fun _ => true) true Try.f3.params.toList args.toList ds p := hA0
  rw [Try.params3] at hA hval
  obtain ⟨v0, vs0, d0, ds0, p0, q0, hargs, rfl, rfl, h0, r0⟩ := trodAll_cons hA
  obtain ⟨rfl, rfl, rfl⟩ := trodAll_nil r0
  obtain rfl : args = #[v0] := by cases args; simp_all
  obtain ⟨rfl, rfl⟩ := trodVars_none hV
  obtain ⟨a0, rfl, rfl, rfl, w0⟩ := open_float Try.underlying22 (hval 0 22 v0 rfl rfl) h0
  clear hA0 hval0
  simp only [List.append_nil] at hW'
  refine (walk_farRanges a0 w0 W).mono fun e W' ⟨he, bel⟩ => ?_
  subst he
  exact ⟨_, rfl, _, _, _, [], [], [], hW', trodAll_mk1 (shut_bool Try.underlying4 _), (trodAll_cons_mk (shut_float Try.underlying22 w0) trodAll_mk0), rfl, bel.frame _, fun h => by cases h⟩

/-- The statement. -/
theorem farRanges_holds : Rows.FnFarRangesSaid :=
  OpenClaim.holds_of_wide 3 Try.f3 rfl rfl rfl rfl rfl rfl rfl ⟨rfl, rfl, rfl, rfl, rfl⟩ rfl rfl rfl rfl rfl (by kernel_rfl) Try.func3 (by kernel_rfl)
    (of_decide_eq_true (by kernel_rfl)) (by unfold Func.isWrapper; first | (rw [if_pos (by decide +kernel)]; kernel_rfl) | (rw [if_neg (by decide +kernel)]; exact ⟨rfl, rfl⟩))
    (fun os started H enc _ => farRanges_lifted os started H enc)
#print axioms farRanges_holds
end Go.Proofs.Ythnbkoohehnblaa
