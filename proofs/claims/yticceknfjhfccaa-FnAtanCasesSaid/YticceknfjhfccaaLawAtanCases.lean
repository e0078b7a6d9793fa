/-
FnAtanCases returns true for every float64.
-/
import Derived.Test.YticceknfjhfccaaRows
import Derived.Test.YticceknfjhfccaaWalkMt
import Derived.Test.YticceknfjhfccaaFpE
import Derived.ProofKit
import Derived.OpenShut
import Derived.ChangeOld
import Derived.Below
namespace Go.Proofs.Yticceknfjhfccaa
open Go.ChangeShapes Go.WideShapes Go.ChangeAt Go.RowKit

theorem atanCases_plain (x : Nat) (h : x < 18446744073709551616) : metF 1 3 true x (atanF x) = true := by
  unfold metF specB specV
  rw [isNanF_eq x h]
  rcases word_cases x h with hn | ⟨s, r, hr, rfl, hn⟩
  · simp [hn]
  · rw [hn, feq_zero s r hr, isInfF_word s r hr]
    by_cases h0 : r = 0
    · subst h0; cases s <;> decide +kernel
    · by_cases h1 : r = INF
      · subst h1; cases s <;> decide +kernel
      · simp [h0, h1]

theorem wf_lt {x : Nat} (h : (Lit.float .f64 x).wf = true) : x < 18446744073709551616 := by simpa [Lit.wf] using h

set_option maxHeartbeats 400000 in
theorem walk_atanCases (x : Nat) (hx : (Lit.float .f64 x).wf = true) (w : World) :
    Calls Try.prog 3 #[.float .f64 x] w fun e w' => e = .returned (.bool true) ∧ Below w.heap.size w w' := by
  have hp := Lib.hid (atanCases_plain x (wf_lt hx))
  clear hx
  have h0 := E.refl x
  have hs := St.refl w
  go_enter Try.func3, Try.ntmps3
  go_wp2_with (first | (go_at_call 18; refine (c_atan _ _ (by first | assumption | exact E.refl _)  _ _ (by assumption)).mono ?_; rintro e w' ⟨r, rfl, hr, hs⟩) | (go_at_call 17; refine (c_met_true 1 3 (by decide) (by decide) _ _ (by first | assumption | exact E.refl _) _ _ (by first | assumption | exact E.refl _) _ _ (by assumption)).mono ?_; rintro e w' ⟨⟨hb, rfl⟩ | ⟨hb, rfl⟩, hs⟩))
  all_goals (go_ret; first | exact ⟨rfl, by assumption⟩ | exact Bool.noConfusion (hp.out.symm.trans (by assumption) : true = false))


theorem atanCases_own : ownKnob Try.prog.godebug = none := by kernel_rfl

set_option maxRecDepth 100000 in
theorem atanCases_lifted (os : Os) (started : os.Started) (H : Type) (enc : TypeId × Value → H) :
    ReturnsInHanded {} Try.checked os 3 .any (Rows.fnAtanCasesSpec.pre6 enc Try.prog Try.f3 Rows.fnAtanCasesRow.domain false) (Rows.fnAtanCasesSpec.post enc Try.prog Try.f3 false true false false) := by
  refine returnsInHanded_of_change (C := Try.checked) atanCases_own started (by kernel_rfl) Try.func3
    (ChangeSpec.witness6 (enc := enc) (C := Try.checked) false ⟨#[], #[.float .f64 0], []⟩ 8 (by kernel_rfl) (by kernel_rfl) (by kernel_rfl) (by kernel_rfl)) ?_
  intro W base args ds gs before hval0 hW hcnd _
  have hval : ∀ (j : Nat) t v, Try.f3.params[j]? = some t → args[j]? = some v → Value.okWide Try.prog W .any base t v := hval0
  have hW' := hW
  obtain ⟨p, q, hA0, hV, rfl, hfz, hnd⟩ := hW
  have hA : DataW.TrodAll enc Try.prog W 0 (fun _ => true) true Try.f3.params.toList args.toList ds p := hA0
  rw [Try.params3] at hA hval
  obtain ⟨v0, vs0, d0, ds0, p0, q0, hargs, rfl, rfl, h0, r0⟩ := trodAll_cons hA
  obtain ⟨rfl, rfl, rfl⟩ := trodAll_nil r0
  obtain rfl : args = #[v0] := by cases args; simp_all
  obtain ⟨rfl, rfl⟩ := trodVars_none hV
  obtain ⟨a0, rfl, rfl, rfl, w0⟩ := open_float Try.underlying22 (hval 0 22 v0 rfl rfl) h0
  clear hA0 hval0
  simp only [List.append_nil] at hW'
  refine (walk_atanCases a0 w0 W).mono fun e W' ⟨he, bel⟩ => ?_
  subst he
  exact ⟨_, rfl, _, _, _, [], [], [], hW', trodAll_mk1 (shut_bool Try.underlying4 _), (trodAll_cons_mk (shut_float Try.underlying22 w0) trodAll_mk0), rfl, bel.frame _, fun h => by cases h⟩

/-- The statement. -/
theorem atanCases_holds : Rows.FnAtanCasesSaid :=
  OpenClaim.holds_of_wide 3 Try.f3 rfl rfl rfl rfl rfl rfl rfl ⟨rfl, rfl, rfl, rfl, rfl⟩ rfl rfl rfl rfl rfl (by kernel_rfl) Try.func3 (by kernel_rfl)
    (of_decide_eq_true (by kernel_rfl)) (by unfold Func.isWrapper; first | (rw [if_pos (by decide +kernel)]; kernel_rfl) | (rw [if_neg (by decide +kernel)]; exact ⟨rfl, rfl⟩))
    (fun os started H enc _ => atanCases_lifted os started H enc)
#print axioms atanCases_holds
end Go.Proofs.Yticceknfjhfccaa
