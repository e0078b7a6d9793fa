/-
FnTurnedBack returns true for every two float64.
-/
import Derived.Test.YticceknfjhfccaaRows
import Derived.Test.YticceknfjhfccaaWalkL5
import Derived.Test.YticceknfjhfccaaPl3
import Derived.ProofKit
import Derived.OpenShut
import Derived.ChangeOld
import Derived.Below
namespace Go.Proofs.Yticceknfjhfccaa
open Go.ChangeShapes Go.WideShapes Go.ChangeAt Go.RowKit

theorem turnedBack_lt {x : Nat} (h : (Lit.float .f64 x).wf = true) : x < 18446744073709551616 := by simpa [Lit.wf] using h

theorem walk_turnedBack (x0 : Nat) (hx0 : (Lit.float .f64 x0).wf = true) (x1 : Nat) (hx1 : (Lit.float .f64 x1).wf = true) (w : World) :
    Calls Try.prog 16 #[.float .f64 x0, .float .f64 x1] w fun e w' => e = .returned (.bool true) ∧ Below w.heap.size w w' := by
  refine (c_l_turnedBack x0 x0 (E.refl x0) x1 x1 (E.refl x1) (turnedBack_lt hx0) (turnedBack_lt hx1) w w (St.refl w)).mono ?_
  rintro e w' ⟨⟨hb, rfl⟩ | ⟨hb, rfl⟩, hs⟩
  · exact ⟨rfl, hs⟩
  · exact Bool.noConfusion ((turnedBack_plain x0 x1 (turnedBack_lt hx0) (turnedBack_lt hx1)).symm.trans hb : true = false)


theorem turnedBack_own : ownKnob Try.prog.godebug = none := by kernel_rfl

set_option maxRecDepth 100000 in
theorem turnedBack_lifted (os : Os) (started : os.Started) (H : Type) (enc : TypeId × Value → H) :
    ReturnsInHanded {} Try.checked os 16 .any (Rows.fnTurnedBackSpec.pre6 enc Try.prog Try.f16 Rows.fnTurnedBackRow.domain false) (Rows.fnTurnedBackSpec.post enc Try.prog Try.f16 false true false false) := by
  refine returnsInHanded_of_change (C := Try.checked) turnedBack_own started (by kernel_rfl) Try.func16
    (ChangeSpec.witness6 (enc := enc) (C := Try.checked) false ⟨#[], #[.float .f64 0, .float .f64 0], []⟩ 8 (by kernel_rfl) (by kernel_rfl) (by kernel_rfl) (by kernel_rfl)) ?_
  intro W base args ds gs before hval0 hW hcnd _
  have hval : ∀ (j : Nat) t v, Try.f16.params[j]? = some t → args[j]? = some v → Value.okWide Try.prog W .any base t v := hval0
  have hW' := hW
  obtain ⟨p, q, hA0, hV, rfl, hfz, hnd⟩ := hW
  have hA : DataW.TrodAll enc Try.prog W 0 (fun _ => true) true Try.f16.params.toList args.toList ds p := hA0
  rw [Try.params16] at hA hval
  obtain ⟨v0, vs0, d0, ds0, p0, q0, hargs, rfl, rfl, h0, r0⟩ := trodAll_cons hA
  obtain ⟨v1, vs1, d1, ds1, p1, q1, rfl, rfl, rfl, h1, r1⟩ := trodAll_cons r0
  obtain ⟨rfl, rfl, rfl⟩ := trodAll_nil r1
  obtain rfl : args = #[v0, v1] := by cases args; simp_all
  obtain ⟨rfl, rfl⟩ := trodVars_none hV
  obtain ⟨a0, rfl, rfl, rfl, w0⟩ := open_float Try.underlying22 (hval 0 22 v0 rfl rfl) h0
  obtain ⟨a1, rfl, rfl, rfl, w1⟩ := open_float Try.underlying22 (hval 1 22 v1 rfl rfl) h1
  clear hA0 hval0
  simp only [List.append_nil] at hW'
  refine (walk_turnedBack a0 w0 a1 w1 W).mono fun e W' ⟨he, bel⟩ => ?_
  subst he
  exact ⟨_, rfl, _, _, _, [], [], [], hW', trodAll_mk1 (shut_bool Try.underlying4 _), (trodAll_cons_mk (shut_float Try.underlying22 w0) (trodAll_cons_mk (shut_float Try.underlying22 w1) trodAll_mk0)), rfl, bel.frame _, fun h => by cases h⟩

/-- The statement. -/
theorem turnedBack_holds : Rows.FnTurnedBackSaid :=
  OpenClaim.holds_of_wide 16 Try.f16 rfl rfl rfl rfl rfl rfl rfl ⟨rfl, rfl, rfl, rfl, rfl⟩ rfl rfl rfl rfl rfl (by kernel_rfl) Try.func16 (by kernel_rfl)
    (of_decide_eq_true (by kernel_rfl)) (by unfold Func.isWrapper; first | (rw [if_pos (by decide +kernel)]; kernel_rfl) | (rw [if_neg (by decide +kernel)]; exact ⟨rfl, rfl⟩))
    (fun os started H enc _ => turnedBack_lifted os started H enc)
#print axioms turnedBack_holds
end Go.Proofs.Yticceknfjhfccaa
