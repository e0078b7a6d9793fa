/-
FnAtan2Diagonal returns true for every float64 and every bool.
-/
import Derived.Test.YticceknfjhfccaaRows
import Derived.Test.YticceknfjhfccaaWalkL6
import Derived.Test.YticceknfjhfccaaPl2
import Derived.ProofKit
import Derived.OpenShut
import Derived.ChangeOld
import Derived.Below
namespace Go.Proofs.Yticceknfjhfccaa
open Go.ChangeShapes Go.WideShapes Go.ChangeAt Go.RowKit

theorem atan2Diagonal_lt {x : Nat} (h : (Lit.float .f64 x).wf = true) : x < 18446744073709551616 := by simpa [Lit.wf] using h

theorem walk_atan2Diagonal (x0 : Nat) (hx0 : (Lit.float .f64 x0).wf = true) (b : Bool) (w : World) :
    Calls Try.prog 6 #[.float .f64 x0, .bool b] w fun e w' => e = .returned (.bool true) ∧ Below w.heap.size w w' := by
  cases b with
  | true =>
    refine (c_l_atan2Diagonal_true x0 x0 (E.refl x0) (atan2Diagonal_lt hx0) w w (St.refl w)).mono ?_
    rintro e w' ⟨⟨hb, rfl⟩ | ⟨hb, rfl⟩, hs⟩
    · exact ⟨rfl, hs⟩
    · exact Bool.noConfusion ((atan2Diagonal_plain x0 true (atan2Diagonal_lt hx0)).symm.trans hb : true = false)
  | false =>
    refine (c_l_atan2Diagonal_false x0 x0 (E.refl x0) (atan2Diagonal_lt hx0) w w (St.refl w)).mono ?_
    rintro e w' ⟨⟨hb, rfl⟩ | ⟨hb, rfl⟩, hs⟩
    · exact ⟨rfl, hs⟩
    · exact Bool.noConfusion ((atan2Diagonal_plain x0 false (atan2Diagonal_lt hx0)).symm.trans hb : true = false)


theorem atan2Diagonal_own : ownKnob Try.prog.godebug = none := by kernel_rfl

set_option maxRecDepth 100000 in
theorem atan2Diagonal_lifted (os : Os) (started : os.Started) (H : Type) (enc : TypeId × Value → H) :
    ReturnsInHanded {} Try.checked os 6 .any (Rows.fnAtan2DiagonalSpec.pre6 enc Try.prog Try.f6 Rows.fnAtan2DiagonalRow.domain false) (Rows.fnAtan2DiagonalSpec.post enc Try.prog Try.f6 false true false false) := by
  refine returnsInHanded_of_change (C := Try.checked) atan2Diagonal_own started (by kernel_rfl) Try.func6
    (ChangeSpec.witness6 (enc := enc) (C := Try.checked) false ⟨#[], #[.float .f64 0, .bool false], []⟩ 8 (by kernel_rfl) (by kernel_rfl) (by kernel_rfl) (by kernel_rfl)) ?_
  intro W base args ds gs before hval0 hW hcnd _
  have hval : ∀ (j : Nat) t v, Try.f6.params[j]? = some t → args[j]? = some v → Value.okWide Try.prog W .any base t v := hval0
  have hW' := hW
  obtain ⟨p, q, hA0, hV, rfl, hfz, hnd⟩ := hW
  have hA : DataW.TrodAll enc Try.prog W 0 (fun _ => true) true Try.f6.params.toList args.toList ds p := hA0
  rw [Try.params6] at hA hval
  obtain ⟨v0, vs0, d0, ds0, p0, q0, hargs, rfl, rfl, h0, r0⟩ := trodAll_cons hA
  obtain ⟨v1, vs1, d1, ds1, p1, q1, rfl, rfl, rfl, h1, r1⟩ := trodAll_cons r0
  obtain ⟨rfl, rfl, rfl⟩ := trodAll_nil r1
  obtain rfl : args = #[v0, v1] := by cases args; simp_all
  obtain ⟨rfl, rfl⟩ := trodVars_none hV
  obtain ⟨a0, rfl, rfl, rfl, w0⟩ := open_float Try.underlying22 (hval 0 22 v0 rfl rfl) h0
  obtain ⟨a1, rfl, rfl, rfl⟩ := open_bool Try.underlying4 (hval 1 4 v1 rfl rfl) h1
  clear hA0 hval0
  simp only [List.append_nil] at hW'
  refine (walk_atan2Diagonal a0 w0 a1 W).mono fun e W' ⟨he, bel⟩ => ?_
  subst he
  exact ⟨_, rfl, _, _, _, [], [], [], hW', trodAll_mk1 (shut_bool Try.underlying4 _), (trodAll_cons_mk (shut_float Try.underlying22 w0) (trodAll_cons_mk (shut_bool Try.underlying4 a1) trodAll_mk0)), rfl, bel.frame _, fun h => by cases h⟩

/-- The statement. -/
theorem atan2Diagonal_holds : Rows.FnAtan2DiagonalSaid :=
  OpenClaim.holds_of_wide 6 Try.f6 rfl rfl rfl rfl rfl rfl rfl ⟨rfl, rfl, rfl, rfl, rfl⟩ rfl rfl rfl rfl rfl (by kernel_rfl) Try.func6 (by kernel_rfl)
    (of_decide_eq_true (by kernel_rfl)) (by unfold Func.isWrapper; first | (rw [if_pos (by decide +kernel)]; kernel_rfl) | (rw [if_neg (by decide +kernel)]; exact ⟨rfl, rfl⟩))
    (fun os started H enc _ => atan2Diagonal_lifted os started H enc)
#print axioms atan2Diagonal_holds
end Go.Proofs.Yticceknfjhfccaa
