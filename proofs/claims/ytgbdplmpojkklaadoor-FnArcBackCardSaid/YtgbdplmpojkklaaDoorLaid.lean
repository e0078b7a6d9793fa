/-
What the listed tables give the walks.
-/
import Derived.Test.YtgbdplmpojkklaaDoorRows
import Derived.Test.YtgbdplmpojkklaaDoorWalkC
import Derived.ProofKit
import Derived.LaidMore
import Derived.OpenShut
import Derived.Stop.Joined
namespace Go.Proofs.YtgbdplmpojkklaaDoor
open Go.ChangeShapes Go.WideShapes Go.ChangeAt Go.WideMaps Go.WideElems Go.RowKit

section
variable {H : Type} {enc : TypeId × Value → H} {P : Program} {w : World} {base : Nat} {spare : Nat → Bool} {held : Bool} {fuel : Nat} {t e : TypeId} {x : DataW H × List MemPlace}
theorem trod_f64 {cs : List Value} (ht : P.underlying t = some (.float .f64)) (h : DataW.trod enc P w base spare held fuel t cs = some x) : ∃ n, cs = [.float .f64 n] ∧ x = (.lit (.float .f64 n), []) := by
  cases fuel with
  | zero => simp [DataW.trod] at h
  | succ n =>
    unfold DataW.trod at h
    rw [ht] at h
    split at h <;> simp_all
end

theorem add_off (g i : Nat) : Addr.add ⟨g, 0, none⟩ i = ⟨g, i, none⟩ := by
  unfold Addr.add
  split
  · next h => subst h; rfl
  · simp
theorem cell_block {w : World} {g i : Nat} {v : Value} (h : w.cell? ⟨g, i, none⟩ = some v) : g < w.heap.size := by
  by_cases hg : g < w.heap.size
  · exact hg
  · exfalso
    have : w.heap[g]? = none := Array.getElem?_eq_none (by omega)
    simp [World.cell?, this] at h

/-- The cells of a list that is the datum of an array. -/
theorem cells_of {P : Program} {w : World} {t e : TypeId} {m fuel : Nat} {cs : Array Value} {ds : List (DataW Unit)} {p : List MemPlace} (hu : P.underlying t = some (.array m e)) (hc : P.cellsOf e = 1)
    (hd : DataW.trod (fun _ => ()) P w 0 (fun _ => true) false fuel t cs.toList = some (.agg ds, p)) (i : Nat) (hi : i < m) :
    ∃ k d q, ds[i]? = some d ∧ DataW.trod (fun _ => ()) P w 0 (fun _ => true) false k e ((cs.toList.drop i).take 1) = some (d, q) := by
  obtain ⟨xs, k, _, hx, _, hn, hel⟩ := DataW.trod_array hu hd
  have h := hel i hi
  rw [hc, Nat.mul_one] at h
  have hlt : i < xs.length := by omega
  rw [List.getElem?_eq_getElem hlt] at h
  simp only [Prod.mk.injEq, DataW.agg.injEq] at hx
  refine ⟨k, (xs[i]'hlt).1, (xs[i]'hlt).2, ?_, h⟩
  rw [hx.1]; simp [hlt]
theorem take_one {cs : List Value} {i : Nat} {v : Value} (h : (cs.drop i).take 1 = [v]) : cs[i]? = some v := by
  have h2 := congrArg (·[0]?) h
  simpa using h2

theorem tabF_of {P : Program} {w : World} {n : String} {vs : List Nat} {rest : List (String × DataW Unit)} {ps : List MemPlace} {g t m : Nat} {e : TypeId} (hg : P.globalNamed n = some g) (ht : (P.globals[g]?).map (·.type) = some t)
    (hu : P.underlying t = some (.array m e)) (he : P.underlying e = some (.float .f64)) (hc : P.cellsOf e = 1) (hl : vs.length = m) (h0 : 0 < m)
    (h : DataW.LaidVars P w ((n, .agg (vs.map fun v => .lit (.float .f64 v))) :: rest) ps) : TabF g vs w ∧ ∃ q, DataW.LaidVars P w rest q := by
  obtain ⟨g', t', cs, fuel, p, q, hg', ht', hv, hd, hr, _⟩ := h
  obtain rfl := Option.some.inj (hg.symm.trans hg')
  obtain rfl := Option.some.inj (ht.symm.trans ht')
  have key : ∀ (i v : Nat), vs[i]? = some v → w.cell? ⟨g, i, none⟩ = some (.float .f64 v) := by
    intro i v hv'
    have hi : i < m := by
      obtain ⟨hh, _⟩ := List.getElem?_eq_some_iff.1 hv'
      omega
    obtain ⟨k, d, q', hds, hc'⟩ := cells_of hu hc hd i hi
    obtain ⟨x, hx, hx2⟩ := trod_f64 he hc'
    simp only [Prod.mk.injEq] at hx2
    rw [List.getElem?_map, hv', hx2.1] at hds
    simp only [Option.map_some, Option.some.injEq, DataW.lit.injEq, Lit.float.injEq, true_and] at hds
    subst hds
    rw [World.var?_cell hg hv i, ← take_one hx]
    simp
  refine ⟨⟨?_, fun i v hv' => by rw [add_off]; exact key i v hv'⟩, q, hr⟩
  have h1 : vs[0]? = some (vs[0]'(by omega)) := List.getElem?_eq_getElem (by omega)
  exact cell_block (key 0 _ h1)
theorem tabU_of {P : Program} {w : World} {n : String} {vs : List Nat} {rest : List (String × DataW Unit)} {ps : List MemPlace} {g t m : Nat} {e : TypeId} (hg : P.globalNamed n = some g) (ht : (P.globals[g]?).map (·.type) = some t)
    (hu : P.underlying t = some (.array m e)) (he : P.underlying e = some (.int .u64)) (hc : P.cellsOf e = 1) (hl : vs.length = m) (h0 : 0 < m)
    (h : DataW.LaidVars P w ((n, .agg (vs.map fun (v : Nat) => .lit (.int .u64 (v : Int)))) :: rest) ps) : TabU g vs w ∧ ∃ q, DataW.LaidVars P w rest q := by
  obtain ⟨g', t', cs, fuel, p, q, hg', ht', hv, hd, hr, _⟩ := h
  obtain rfl := Option.some.inj (hg.symm.trans hg')
  obtain rfl := Option.some.inj (ht.symm.trans ht')
  have key : ∀ (i v : Nat), vs[i]? = some v → w.cell? ⟨g, i, none⟩ = some (.int .u64 v) := by
    intro i v hv'
    have hi : i < m := by
      obtain ⟨hh, _⟩ := List.getElem?_eq_some_iff.1 hv'
      omega
    obtain ⟨k, d, q', hds, hc'⟩ := cells_of hu hc hd i hi
    obtain ⟨x, hx, hx2, _⟩ := DataW.trod_int he hc'
    simp only [Prod.mk.injEq] at hx2
    rw [List.getElem?_map, hv', hx2.1] at hds
    simp only [Option.map_some, Option.some.injEq, DataW.lit.injEq, Lit.int.injEq, true_and] at hds
    subst hds
    rw [World.var?_cell hg hv i, ← take_one hx]
    simp
  refine ⟨⟨?_, fun i v hv' => by rw [add_off]; exact key i v hv'⟩, q, hr⟩
  have h1 : vs[0]? = some (vs[0]'(by omega)) := List.getElem?_eq_getElem (by omega)
  exact cell_block (key 0 _ h1)

theorem gl_sin : Tryd.prog.globalNamed "math._sin" = some 2 := by kernel_rfl
theorem gl_cos : Tryd.prog.globalNamed "math._cos" = some 1 := by kernel_rfl
theorem gl_tanP : Tryd.prog.globalNamed "math._tanP" = some 3 := by kernel_rfl
theorem gl_tanQ : Tryd.prog.globalNamed "math._tanQ" = some 4 := by kernel_rfl
theorem gl_mp : Tryd.prog.globalNamed "math.mPi4" = some 5 := by kernel_rfl
theorem ce_f : Tryd.prog.cellsOf 22 = 1 := by kernel_rfl
theorem ce_u : Tryd.prog.cellsOf 37 = 1 := by kernel_rfl

theorem of_sin {w : World} {rest : List (String × DataW Unit)} {ps : List MemPlace} (h : DataW.LaidVars Tryd.prog w (("math._sin", Rows.laid_math_sin) :: rest) ps) : TabF 2 sinTab w ∧ ∃ q, DataW.LaidVars Tryd.prog w rest q :=
  tabF_of (vs := sinTab) gl_sin (by kernel_rfl) under_6 Tryd.underlying22 ce_f rfl (by decide) h
theorem of_cos {w : World} {rest : List (String × DataW Unit)} {ps : List MemPlace} (h : DataW.LaidVars Tryd.prog w (("math._cos", Rows.laid_math_cos) :: rest) ps) : TabF 1 cosTab w ∧ ∃ q, DataW.LaidVars Tryd.prog w rest q :=
  tabF_of (vs := cosTab) gl_cos (by kernel_rfl) under_6 Tryd.underlying22 ce_f rfl (by decide) h
theorem of_tanP {w : World} {rest : List (String × DataW Unit)} {ps : List MemPlace} (h : DataW.LaidVars Tryd.prog w (("math._tanP", Rows.laid_math_tanP) :: rest) ps) : TabF 3 tanPTab w ∧ ∃ q, DataW.LaidVars Tryd.prog w rest q :=
  tabF_of (vs := tanPTab) gl_tanP (by kernel_rfl) under_3 Tryd.underlying22 ce_f rfl (by decide) h
theorem of_tanQ {w : World} {rest : List (String × DataW Unit)} {ps : List MemPlace} (h : DataW.LaidVars Tryd.prog w (("math._tanQ", Rows.laid_math_tanQ) :: rest) ps) : TabF 4 tanQTab w ∧ ∃ q, DataW.LaidVars Tryd.prog w rest q :=
  tabF_of (vs := tanQTab) gl_tanQ (by kernel_rfl) under_5 Tryd.underlying22 ce_f rfl (by decide) h
theorem of_mp {w : World} {rest : List (String × DataW Unit)} {ps : List MemPlace} (h : DataW.LaidVars Tryd.prog w (("math.mPi4", Rows.laid_math_mPi4) :: rest) ps) : TabU 5 mpT w ∧ ∃ q, DataW.LaidVars Tryd.prog w rest q :=
  tabU_of (vs := mpT) gl_mp (by kernel_rfl) under_mp Tryd.underlying37 ce_u rfl (by decide) h

theorem laid_S {w : World} (h : laidMetH Tryd.prog [("math._sin", Rows.laid_math_sin), ("math._cos", Rows.laid_math_cos), ("math.mPi4", Rows.laid_math_mPi4)] w) : TS w := by
  rw [MakeChecks.laidMetH_plain _ _ _ (by kernel_rfl)] at h
  obtain ⟨ps, h, _, _⟩ := h
  obtain ⟨a, q1, h⟩ := of_sin h
  obtain ⟨b, q2, h⟩ := of_cos h
  obtain ⟨c, _⟩ := of_mp h
  exact ⟨a, b, c⟩
theorem laid_T {w : World} (h : laidMetH Tryd.prog [("math._tanP", Rows.laid_math_tanP), ("math._tanQ", Rows.laid_math_tanQ), ("math.mPi4", Rows.laid_math_mPi4)] w) : TT w := by
  rw [MakeChecks.laidMetH_plain _ _ _ (by kernel_rfl)] at h
  obtain ⟨ps, h, _, _⟩ := h
  obtain ⟨a, q1, h⟩ := of_tanP h
  obtain ⟨b, q2, h⟩ := of_tanQ h
  obtain ⟨c, _⟩ := of_mp h
  exact ⟨a, b, c⟩
theorem laid_ST {w : World} (h : laidMetH Tryd.prog [("math._sin", Rows.laid_math_sin), ("math._cos", Rows.laid_math_cos), ("math._tanP", Rows.laid_math_tanP), ("math._tanQ", Rows.laid_math_tanQ), ("math.mPi4", Rows.laid_math_mPi4)] w) : TS w ∧ TT w := by
  rw [MakeChecks.laidMetH_plain _ _ _ (by kernel_rfl)] at h
  obtain ⟨ps, h, _, _⟩ := h
  obtain ⟨a, q1, h⟩ := of_sin h
  obtain ⟨b, q2, h⟩ := of_cos h
  obtain ⟨c, q3, h⟩ := of_tanP h
  obtain ⟨d, q4, h⟩ := of_tanQ h
  obtain ⟨e, _⟩ := of_mp h
  exact ⟨⟨a, b, e⟩, c, d, e⟩
end Go.Proofs.YtgbdplmpojkklaaDoor
