/-
  No cell of these rows narrows 'for every input' (looked for: loops, veiled, ifaces, maps, wideKeys, modest, calm, conditions, laid).
  DERIVED. THE GIVEN ROWS OF THIS SEAT. 14 by the template 'for every input the law returns true; each argument reads behind the call as it read before'; 0 by the template 'total and deterministic' (their statements: YticceknfjhfccaaTotals.lean).
  GIVEN WITH THE SEED: the statements are not yours to turn. If you find one false, say at which input.
  Laid BY PROGRAM, IN A SANDBOX (cutbox-rows.mjs): the forced cells as the released guide's own fill.sh prints them over the translation 0fa135867054957a… (all of the seat's roots in one cut). By AI agents, Wed Nov 11 2026. No macro, syntax, notation, axiom, sorry.
-/
import Derived.Test.YticceknfjhfccaaChecked
import GoSem.Claim
import GoSem.ClaimJoined
import GoSem.ClaimMapViews
import Derived.JoinedTies
import Derived.KernelRfl
namespace Go.Proofs.Yticceknfjhfccaa
/- THE CELL 'sum', in the pinned program and in every row, IS THE sha256 OF THE DUMP (.gsa) THAT YticceknfjhfccaaProg.lean LOADS. Nothing in Lean hashes anything: it is a label: what it is worth is what the hold of that sum in a sandbox is worth. -/
noncomputable def Try.pinned : Pinned := { name := "yticceknfjhfccaa", sum := "0fa135867054957a3202feaeff7cdf2e295da410d5e8d386292df5a51284c4cc", checked := Try.checked }
namespace Rows
def none {H : Type} : Left H := { results := [], args := [] }

/-- 'laws.FnAtanCases': WHATEVER THE INPUT: true; the input reads as it did. -/
def fnAtanCasesSpec : ChangeSpec := { name := "fnAtanCases", fn := fun _ => fun
  | [d] => { results := [.lit (.bool true)], args := [d] }
  | _ => none }
def fnAtanCasesRow : OpenClaim := { program := "yticceknfjhfccaa", sum := "0fa135867054957a3202feaeff7cdf2e295da410d5e8d386292df5a51284c4cc", func := "loop.example/lib-g03232/laws.FnAtanCases", spec := "fnAtanCases", apart := false }
def FnAtanCasesSaid : Prop := fnAtanCasesRow.holds Try.pinned (OpenSpec.ofChange fnAtanCasesSpec)

/-- ITS FALSE NEIGHBOUR: 'it returns false'. Refute it at one input. -/
def fnAtanCasesWrong : ChangeSpec := { name := "fnAtanCases", fn := fun _ => fun
  | [d] => { results := [.lit (.bool false)], args := [d] }
  | _ => none }
def FnAtanCasesWrongFalsely : Prop := fnAtanCasesRow.holds Try.pinned (OpenSpec.ofChange fnAtanCasesWrong)

/-- 'laws.FnAtan2Cases': WHATEVER THE INPUT: true; the input reads as it did. -/
def fnAtan2CasesSpec : ChangeSpec := { name := "fnAtan2Cases", fn := fun _ => fun
  | [d1, d2] => { results := [.lit (.bool true)], args := [d1, d2] }
  | _ => none }
def fnAtan2CasesRow : OpenClaim := { program := "yticceknfjhfccaa", sum := "0fa135867054957a3202feaeff7cdf2e295da410d5e8d386292df5a51284c4cc", func := "loop.example/lib-g03232/laws.FnAtan2Cases", spec := "fnAtan2Cases", inPlace := ["math.Float64frombits", "math.Float64bits"], apart := false }
def FnAtan2CasesSaid : Prop := fnAtan2CasesRow.holds Try.pinned (OpenSpec.ofChange fnAtan2CasesSpec)

/-- ITS FALSE NEIGHBOUR: 'it returns false'. Refute it at one input. -/
def fnAtan2CasesWrong : ChangeSpec := { name := "fnAtan2Cases", fn := fun _ => fun
  | [d1, d2] => { results := [.lit (.bool false)], args := [d1, d2] }
  | _ => none }
def FnAtan2CasesWrongFalsely : Prop := fnAtan2CasesRow.holds Try.pinned (OpenSpec.ofChange fnAtan2CasesWrong)

/-- 'laws.FnAtan2Corners': WHATEVER THE INPUT: true; the input reads as it did. -/
def fnAtan2CornersSpec : ChangeSpec := { name := "fnAtan2Corners", fn := fun _ => fun
  | [d] => { results := [.lit (.bool true)], args := [d] }
  | _ => none }
def fnAtan2CornersRow : OpenClaim := { program := "yticceknfjhfccaa", sum := "0fa135867054957a3202feaeff7cdf2e295da410d5e8d386292df5a51284c4cc", func := "loop.example/lib-g03232/laws.FnAtan2Corners", spec := "fnAtan2Corners", inPlace := ["math.Float64frombits", "math.Float64bits"], apart := false }
def FnAtan2CornersSaid : Prop := fnAtan2CornersRow.holds Try.pinned (OpenSpec.ofChange fnAtan2CornersSpec)

/-- ITS FALSE NEIGHBOUR: 'it returns false'. Refute it at one input. -/
def fnAtan2CornersWrong : ChangeSpec := { name := "fnAtan2Corners", fn := fun _ => fun
  | [d] => { results := [.lit (.bool false)], args := [d] }
  | _ => none }
def FnAtan2CornersWrongFalsely : Prop := fnAtan2CornersRow.holds Try.pinned (OpenSpec.ofChange fnAtan2CornersWrong)

/-- 'laws.FnAtan2Diagonal': WHATEVER THE INPUT: true; the input reads as it did. -/
def fnAtan2DiagonalSpec : ChangeSpec := { name := "fnAtan2Diagonal", fn := fun _ => fun
  | [d1, d2] => { results := [.lit (.bool true)], args := [d1, d2] }
  | _ => none }
def fnAtan2DiagonalRow : OpenClaim := { program := "yticceknfjhfccaa", sum := "0fa135867054957a3202feaeff7cdf2e295da410d5e8d386292df5a51284c4cc", func := "loop.example/lib-g03232/laws.FnAtan2Diagonal", spec := "fnAtan2Diagonal", inPlace := ["math.Float64frombits", "math.Float64bits"], apart := false }
def FnAtan2DiagonalSaid : Prop := fnAtan2DiagonalRow.holds Try.pinned (OpenSpec.ofChange fnAtan2DiagonalSpec)

/-- ITS FALSE NEIGHBOUR: 'it returns false'. Refute it at one input. -/
def fnAtan2DiagonalWrong : ChangeSpec := { name := "fnAtan2Diagonal", fn := fun _ => fun
  | [d1, d2] => { results := [.lit (.bool false)], args := [d1, d2] }
  | _ => none }
def FnAtan2DiagonalWrongFalsely : Prop := fnAtan2DiagonalRow.holds Try.pinned (OpenSpec.ofChange fnAtan2DiagonalWrong)

/-- 'laws.FnAtan2Scaled': WHATEVER THE INPUT: true; the input reads as it did. -/
def fnAtan2ScaledSpec : ChangeSpec := { name := "fnAtan2Scaled", fn := fun _ => fun
  | [d1, d2, d3] => { results := [.lit (.bool true)], args := [d1, d2, d3] }
  | _ => none }
def fnAtan2ScaledRow : OpenClaim := { program := "yticceknfjhfccaa", sum := "0fa135867054957a3202feaeff7cdf2e295da410d5e8d386292df5a51284c4cc", func := "loop.example/lib-g03232/laws.FnAtan2Scaled", spec := "fnAtan2Scaled", inPlace := ["math.Float64frombits", "math.Float64bits"], apart := false }
def FnAtan2ScaledSaid : Prop := fnAtan2ScaledRow.holds Try.pinned (OpenSpec.ofChange fnAtan2ScaledSpec)

/-- ITS FALSE NEIGHBOUR: 'it returns false'. Refute it at one input. -/
def fnAtan2ScaledWrong : ChangeSpec := { name := "fnAtan2Scaled", fn := fun _ => fun
  | [d1, d2, d3] => { results := [.lit (.bool false)], args := [d1, d2, d3] }
  | _ => none }
def FnAtan2ScaledWrongFalsely : Prop := fnAtan2ScaledRow.holds Try.pinned (OpenSpec.ofChange fnAtan2ScaledWrong)

/-- 'laws.FnQuadrants': WHATEVER THE INPUT: true; the input reads as it did. -/
def fnQuadrantsSpec : ChangeSpec := { name := "fnQuadrants", fn := fun _ => fun
  | [d1, d2] => { results := [.lit (.bool true)], args := [d1, d2] }
  | _ => none }
def fnQuadrantsRow : OpenClaim := { program := "yticceknfjhfccaa", sum := "0fa135867054957a3202feaeff7cdf2e295da410d5e8d386292df5a51284c4cc", func := "loop.example/lib-g03232/laws.FnQuadrants", spec := "fnQuadrants", inPlace := ["math.Float64frombits", "math.Float64bits"], apart := false }
def FnQuadrantsSaid : Prop := fnQuadrantsRow.holds Try.pinned (OpenSpec.ofChange fnQuadrantsSpec)

/-- ITS FALSE NEIGHBOUR: 'it returns false'. Refute it at one input. -/
def fnQuadrantsWrong : ChangeSpec := { name := "fnQuadrants", fn := fun _ => fun
  | [d1, d2] => { results := [.lit (.bool false)], args := [d1, d2] }
  | _ => none }
def FnQuadrantsWrongFalsely : Prop := fnQuadrantsRow.holds Try.pinned (OpenSpec.ofChange fnQuadrantsWrong)

/-- 'laws.FnAtan2IsAtan': WHATEVER THE INPUT: true; the input reads as it did. -/
def fnAtan2IsAtanSpec : ChangeSpec := { name := "fnAtan2IsAtan", fn := fun _ => fun
  | [d1, d2] => { results := [.lit (.bool true)], args := [d1, d2] }
  | _ => none }
def fnAtan2IsAtanRow : OpenClaim := { program := "yticceknfjhfccaa", sum := "0fa135867054957a3202feaeff7cdf2e295da410d5e8d386292df5a51284c4cc", func := "loop.example/lib-g03232/laws.FnAtan2IsAtan", spec := "fnAtan2IsAtan", inPlace := ["math.Float64frombits", "math.Float64bits"], apart := false }
def FnAtan2IsAtanSaid : Prop := fnAtan2IsAtanRow.holds Try.pinned (OpenSpec.ofChange fnAtan2IsAtanSpec)

/-- ITS FALSE NEIGHBOUR: 'it returns false'. Refute it at one input. -/
def fnAtan2IsAtanWrong : ChangeSpec := { name := "fnAtan2IsAtan", fn := fun _ => fun
  | [d1, d2] => { results := [.lit (.bool false)], args := [d1, d2] }
  | _ => none }
def FnAtan2IsAtanWrongFalsely : Prop := fnAtan2IsAtanRow.holds Try.pinned (OpenSpec.ofChange fnAtan2IsAtanWrong)

/-- 'laws.FnAsinCases': WHATEVER THE INPUT: true; the input reads as it did. -/
def fnAsinCasesSpec : ChangeSpec := { name := "fnAsinCases", fn := fun _ => fun
  | [d] => { results := [.lit (.bool true)], args := [d] }
  | _ => none }
def fnAsinCasesRow : OpenClaim := { program := "yticceknfjhfccaa", sum := "0fa135867054957a3202feaeff7cdf2e295da410d5e8d386292df5a51284c4cc", func := "loop.example/lib-g03232/laws.FnAsinCases", spec := "fnAsinCases", inPlace := ["math.Float64frombits", "math.sqrt"], apart := false }
def FnAsinCasesSaid : Prop := fnAsinCasesRow.holds Try.pinned (OpenSpec.ofChange fnAsinCasesSpec)

/-- ITS FALSE NEIGHBOUR: 'it returns false'. Refute it at one input. -/
def fnAsinCasesWrong : ChangeSpec := { name := "fnAsinCases", fn := fun _ => fun
  | [d] => { results := [.lit (.bool false)], args := [d] }
  | _ => none }
def FnAsinCasesWrongFalsely : Prop := fnAsinCasesRow.holds Try.pinned (OpenSpec.ofChange fnAsinCasesWrong)

/-- 'laws.FnAcosCases': WHATEVER THE INPUT: true; the input reads as it did. -/
def fnAcosCasesSpec : ChangeSpec := { name := "fnAcosCases", fn := fun _ => fun
  | [d] => { results := [.lit (.bool true)], args := [d] }
  | _ => none }
def fnAcosCasesRow : OpenClaim := { program := "yticceknfjhfccaa", sum := "0fa135867054957a3202feaeff7cdf2e295da410d5e8d386292df5a51284c4cc", func := "loop.example/lib-g03232/laws.FnAcosCases", spec := "fnAcosCases", inPlace := ["math.Float64frombits", "math.sqrt"], apart := false }
def FnAcosCasesSaid : Prop := fnAcosCasesRow.holds Try.pinned (OpenSpec.ofChange fnAcosCasesSpec)

/-- ITS FALSE NEIGHBOUR: 'it returns false'. Refute it at one input. -/
def fnAcosCasesWrong : ChangeSpec := { name := "fnAcosCases", fn := fun _ => fun
  | [d] => { results := [.lit (.bool false)], args := [d] }
  | _ => none }
def FnAcosCasesWrongFalsely : Prop := fnAcosCasesRow.holds Try.pinned (OpenSpec.ofChange fnAcosCasesWrong)

/-- 'laws.FnAcosIsRest': WHATEVER THE INPUT: true; the input reads as it did. -/
def fnAcosIsRestSpec : ChangeSpec := { name := "fnAcosIsRest", fn := fun _ => fun
  | [d] => { results := [.lit (.bool true)], args := [d] }
  | _ => none }
def fnAcosIsRestRow : OpenClaim := { program := "yticceknfjhfccaa", sum := "0fa135867054957a3202feaeff7cdf2e295da410d5e8d386292df5a51284c4cc", func := "loop.example/lib-g03232/laws.FnAcosIsRest", spec := "fnAcosIsRest", inPlace := ["math.Float64frombits", "math.sqrt"], apart := false }
def FnAcosIsRestSaid : Prop := fnAcosIsRestRow.holds Try.pinned (OpenSpec.ofChange fnAcosIsRestSpec)

/-- ITS FALSE NEIGHBOUR: 'it returns false'. Refute it at one input. -/
def fnAcosIsRestWrong : ChangeSpec := { name := "fnAcosIsRest", fn := fun _ => fun
  | [d] => { results := [.lit (.bool false)], args := [d] }
  | _ => none }
def FnAcosIsRestWrongFalsely : Prop := fnAcosIsRestRow.holds Try.pinned (OpenSpec.ofChange fnAcosIsRestWrong)

/-- 'laws.FnArcEnds': WHATEVER THE INPUT: true; the input reads as it did. -/
def fnArcEndsSpec : ChangeSpec := { name := "fnArcEnds", fn := fun _ => fun
  | [d] => { results := [.lit (.bool true)], args := [d] }
  | _ => none }
def fnArcEndsRow : OpenClaim := { program := "yticceknfjhfccaa", sum := "0fa135867054957a3202feaeff7cdf2e295da410d5e8d386292df5a51284c4cc", func := "loop.example/lib-g03232/laws.FnArcEnds", spec := "fnArcEnds", inPlace := ["math.Float64frombits", "math.sqrt"], apart := false }
def FnArcEndsSaid : Prop := fnArcEndsRow.holds Try.pinned (OpenSpec.ofChange fnArcEndsSpec)

/-- ITS FALSE NEIGHBOUR: 'it returns false'. Refute it at one input. -/
def fnArcEndsWrong : ChangeSpec := { name := "fnArcEnds", fn := fun _ => fun
  | [d] => { results := [.lit (.bool false)], args := [d] }
  | _ => none }
def FnArcEndsWrongFalsely : Prop := fnArcEndsRow.holds Try.pinned (OpenSpec.ofChange fnArcEndsWrong)

/-- 'laws.FnArcRanges': WHATEVER THE INPUT: true; the input reads as it did. -/
def fnArcRangesSpec : ChangeSpec := { name := "fnArcRanges", fn := fun _ => fun
  | [d] => { results := [.lit (.bool true)], args := [d] }
  | _ => none }
def fnArcRangesRow : OpenClaim := { program := "yticceknfjhfccaa", sum := "0fa135867054957a3202feaeff7cdf2e295da410d5e8d386292df5a51284c4cc", func := "loop.example/lib-g03232/laws.FnArcRanges", spec := "fnArcRanges", inPlace := ["math.Float64frombits", "math.sqrt"], apart := false }
def FnArcRangesSaid : Prop := fnArcRangesRow.holds Try.pinned (OpenSpec.ofChange fnArcRangesSpec)

/-- ITS FALSE NEIGHBOUR: 'it returns false'. Refute it at one input. -/
def fnArcRangesWrong : ChangeSpec := { name := "fnArcRanges", fn := fun _ => fun
  | [d] => { results := [.lit (.bool false)], args := [d] }
  | _ => none }
def FnArcRangesWrongFalsely : Prop := fnArcRangesRow.holds Try.pinned (OpenSpec.ofChange fnArcRangesWrong)

/-- 'laws.FnNoNumber': WHATEVER THE INPUT: true; the input reads as it did. -/
def fnNoNumberSpec : ChangeSpec := { name := "fnNoNumber", fn := fun _ => fun
  | [d] => { results := [.lit (.bool true)], args := [d] }
  | _ => none }
def fnNoNumberRow : OpenClaim := { program := "yticceknfjhfccaa", sum := "0fa135867054957a3202feaeff7cdf2e295da410d5e8d386292df5a51284c4cc", func := "loop.example/lib-g03232/laws.FnNoNumber", spec := "fnNoNumber", inPlace := ["math.Float64frombits", "math.sqrt"], apart := false }
def FnNoNumberSaid : Prop := fnNoNumberRow.holds Try.pinned (OpenSpec.ofChange fnNoNumberSpec)

/-- ITS FALSE NEIGHBOUR: 'it returns false'. Refute it at one input. -/
def fnNoNumberWrong : ChangeSpec := { name := "fnNoNumber", fn := fun _ => fun
  | [d] => { results := [.lit (.bool false)], args := [d] }
  | _ => none }
def FnNoNumberWrongFalsely : Prop := fnNoNumberRow.holds Try.pinned (OpenSpec.ofChange fnNoNumberWrong)

/-- 'laws.FnTurnedBack': WHATEVER THE INPUT: true; the input reads as it did. -/
def fnTurnedBackSpec : ChangeSpec := { name := "fnTurnedBack", fn := fun _ => fun
  | [d1, d2] => { results := [.lit (.bool true)], args := [d1, d2] }
  | _ => none }
def fnTurnedBackRow : OpenClaim := { program := "yticceknfjhfccaa", sum := "0fa135867054957a3202feaeff7cdf2e295da410d5e8d386292df5a51284c4cc", func := "loop.example/lib-g03232/laws.FnTurnedBack", spec := "fnTurnedBack", inPlace := ["math.Float64frombits", "math.sqrt", "math.Float64bits"], apart := false }
def FnTurnedBackSaid : Prop := fnTurnedBackRow.holds Try.pinned (OpenSpec.ofChange fnTurnedBackSpec)

/-- ITS FALSE NEIGHBOUR: 'it returns false'. Refute it at one input. -/
def fnTurnedBackWrong : ChangeSpec := { name := "fnTurnedBack", fn := fun _ => fun
  | [d1, d2] => { results := [.lit (.bool false)], args := [d1, d2] }
  | _ => none }
def FnTurnedBackWrongFalsely : Prop := fnTurnedBackRow.holds Try.pinned (OpenSpec.ofChange fnTurnedBackWrong)

/- THE SECOND FORM. 'bulk': how many values and letters a reading holds, each counted each time it is reached (what is shared counts as often as it is met; a slice's spare places count too). A statement '..UptoSaid' is the law's where the arguments, and the package variables that the reading takes, are together of bulk at most 1048576: NARROWER than '..Said'. Prove '..Said' where nothing that the law and all that it calls make is longer than what came in: it says more and counts as full. Else prove '..UptoSaid'. A law counts once. -/
mutual
def uptoBulk {H : Type} : DataW H → Nat
  | .lit (.string bytes) => bytes.length + 1
  | .lit _ => 1
  | .nil => 1
  | .ptr d => uptoBulk d + 1
  | .slice elems spare => uptoBulkAll elems + uptoBulkAll spare + 1
  | .agg parts => uptoBulkAll parts + 1
  | .iface _ d => uptoBulk d + 1
  | .map entries => uptoBulkEntries entries + 1
  | .held _ => 1
def uptoBulkAll {H : Type} : List (DataW H) → Nat
  | [] => 0
  | d :: r => uptoBulk d + uptoBulkAll r
def uptoBulkEntries {H : Type} : List (Lit × DataW H) → Nat
  | [] => 0
  | x :: r => uptoBulkEntry x + uptoBulkEntries r
def uptoBulkEntry {H : Type} : Lit × DataW H → Nat
  | (.string bytes, d) => bytes.length + uptoBulk d + 1
  | (_, d) => uptoBulk d + 1
 end
def uptoSmall : (H : Type) → List (DataW H) → Bool := fun _ ds => decide (uptoBulkAll ds ≤ 1048576)
def OpenSpec.upto (s : _root_.Go.ChangeSpec) : _root_.Go.OpenSpec := { _root_.Go.OpenSpec.ofChange s with cond := some uptoSmall }

/-- 'laws.FnAtanCases', WHERE WHAT IT READS IS OF BULK AT MOST 1048576: true; the input reads as it did. -/
def fnAtanCasesUptoRow : OpenClaim := { program := "yticceknfjhfccaa", sum := "0fa135867054957a3202feaeff7cdf2e295da410d5e8d386292df5a51284c4cc", func := "loop.example/lib-g03232/laws.FnAtanCases", spec := "fnAtanCases", apart := false, narrowed := true }
def FnAtanCasesUptoSaid : Prop := fnAtanCasesUptoRow.holds Try.pinned (OpenSpec.upto fnAtanCasesSpec)

/-- 'laws.FnAtan2Cases', WHERE WHAT IT READS IS OF BULK AT MOST 1048576: true; the input reads as it did. -/
def fnAtan2CasesUptoRow : OpenClaim := { program := "yticceknfjhfccaa", sum := "0fa135867054957a3202feaeff7cdf2e295da410d5e8d386292df5a51284c4cc", func := "loop.example/lib-g03232/laws.FnAtan2Cases", spec := "fnAtan2Cases", inPlace := ["math.Float64frombits", "math.Float64bits"], apart := false, narrowed := true }
def FnAtan2CasesUptoSaid : Prop := fnAtan2CasesUptoRow.holds Try.pinned (OpenSpec.upto fnAtan2CasesSpec)

/-- 'laws.FnAtan2Corners', WHERE WHAT IT READS IS OF BULK AT MOST 1048576: true; the input reads as it did. -/
def fnAtan2CornersUptoRow : OpenClaim := { program := "yticceknfjhfccaa", sum := "0fa135867054957a3202feaeff7cdf2e295da410d5e8d386292df5a51284c4cc", func := "loop.example/lib-g03232/laws.FnAtan2Corners", spec := "fnAtan2Corners", inPlace := ["math.Float64frombits", "math.Float64bits"], apart := false, narrowed := true }
def FnAtan2CornersUptoSaid : Prop := fnAtan2CornersUptoRow.holds Try.pinned (OpenSpec.upto fnAtan2CornersSpec)

/-- 'laws.FnAtan2Diagonal', WHERE WHAT IT READS IS OF BULK AT MOST 1048576: true; the input reads as it did. -/
def fnAtan2DiagonalUptoRow : OpenClaim := { program := "yticceknfjhfccaa", sum := "0fa135867054957a3202feaeff7cdf2e295da410d5e8d386292df5a51284c4cc", func := "loop.example/lib-g03232/laws.FnAtan2Diagonal", spec := "fnAtan2Diagonal", inPlace := ["math.Float64frombits", "math.Float64bits"], apart := false, narrowed := true }
def FnAtan2DiagonalUptoSaid : Prop := fnAtan2DiagonalUptoRow.holds Try.pinned (OpenSpec.upto fnAtan2DiagonalSpec)

/-- 'laws.FnAtan2Scaled', WHERE WHAT IT READS IS OF BULK AT MOST 1048576: true; the input reads as it did. -/
def fnAtan2ScaledUptoRow : OpenClaim := { program := "yticceknfjhfccaa", sum := "0fa135867054957a3202feaeff7cdf2e295da410d5e8d386292df5a51284c4cc", func := "loop.example/lib-g03232/laws.FnAtan2Scaled", spec := "fnAtan2Scaled", inPlace := ["math.Float64frombits", "math.Float64bits"], apart := false, narrowed := true }
def FnAtan2ScaledUptoSaid : Prop := fnAtan2ScaledUptoRow.holds Try.pinned (OpenSpec.upto fnAtan2ScaledSpec)

/-- 'laws.FnQuadrants', WHERE WHAT IT READS IS OF BULK AT MOST 1048576: true; the input reads as it did. -/
def fnQuadrantsUptoRow : OpenClaim := { program := "yticceknfjhfccaa", sum := "0fa135867054957a3202feaeff7cdf2e295da410d5e8d386292df5a51284c4cc", func := "loop.example/lib-g03232/laws.FnQuadrants", spec := "fnQuadrants", inPlace := ["math.Float64frombits", "math.Float64bits"], apart := false, narrowed := true }
def FnQuadrantsUptoSaid : Prop := fnQuadrantsUptoRow.holds Try.pinned (OpenSpec.upto fnQuadrantsSpec)

/-- 'laws.FnAtan2IsAtan', WHERE WHAT IT READS IS OF BULK AT MOST 1048576: true; the input reads as it did. -/
def fnAtan2IsAtanUptoRow : OpenClaim := { program := "yticceknfjhfccaa", sum := "0fa135867054957a3202feaeff7cdf2e295da410d5e8d386292df5a51284c4cc", func := "loop.example/lib-g03232/laws.FnAtan2IsAtan", spec := "fnAtan2IsAtan", inPlace := ["math.Float64frombits", "math.Float64bits"], apart := false, narrowed := true }
def FnAtan2IsAtanUptoSaid : Prop := fnAtan2IsAtanUptoRow.holds Try.pinned (OpenSpec.upto fnAtan2IsAtanSpec)

/-- 'laws.FnAsinCases', WHERE WHAT IT READS IS OF BULK AT MOST 1048576: true; the input reads as it did. -/
def fnAsinCasesUptoRow : OpenClaim := { program := "yticceknfjhfccaa", sum := "0fa135867054957a3202feaeff7cdf2e295da410d5e8d386292df5a51284c4cc", func := "loop.example/lib-g03232/laws.FnAsinCases", spec := "fnAsinCases", inPlace := ["math.Float64frombits", "math.sqrt"], apart := false, narrowed := true }
def FnAsinCasesUptoSaid : Prop := fnAsinCasesUptoRow.holds Try.pinned (OpenSpec.upto fnAsinCasesSpec)

/-- 'laws.FnAcosCases', WHERE WHAT IT READS IS OF BULK AT MOST 1048576: true; the input reads as it did. -/
def fnAcosCasesUptoRow : OpenClaim := { program := "yticceknfjhfccaa", sum := "0fa135867054957a3202feaeff7cdf2e295da410d5e8d386292df5a51284c4cc", func := "loop.example/lib-g03232/laws.FnAcosCases", spec := "fnAcosCases", inPlace := ["math.Float64frombits", "math.sqrt"], apart := false, narrowed := true }
def FnAcosCasesUptoSaid : Prop := fnAcosCasesUptoRow.holds Try.pinned (OpenSpec.upto fnAcosCasesSpec)

/-- 'laws.FnAcosIsRest', WHERE WHAT IT READS IS OF BULK AT MOST 1048576: true; the input reads as it did. -/
def fnAcosIsRestUptoRow : OpenClaim := { program := "yticceknfjhfccaa", sum := "0fa135867054957a3202feaeff7cdf2e295da410d5e8d386292df5a51284c4cc", func := "loop.example/lib-g03232/laws.FnAcosIsRest", spec := "fnAcosIsRest", inPlace := ["math.Float64frombits", "math.sqrt"], apart := false, narrowed := true }
def FnAcosIsRestUptoSaid : Prop := fnAcosIsRestUptoRow.holds Try.pinned (OpenSpec.upto fnAcosIsRestSpec)

/-- 'laws.FnArcEnds', WHERE WHAT IT READS IS OF BULK AT MOST 1048576: true; the input reads as it did. -/
def fnArcEndsUptoRow : OpenClaim := { program := "yticceknfjhfccaa", sum := "0fa135867054957a3202feaeff7cdf2e295da410d5e8d386292df5a51284c4cc", func := "loop.example/lib-g03232/laws.FnArcEnds", spec := "fnArcEnds", inPlace := ["math.Float64frombits", "math.sqrt"], apart := false, narrowed := true }
def FnArcEndsUptoSaid : Prop := fnArcEndsUptoRow.holds Try.pinned (OpenSpec.upto fnArcEndsSpec)

/-- 'laws.FnArcRanges', WHERE WHAT IT READS IS OF BULK AT MOST 1048576: true; the input reads as it did. -/
def fnArcRangesUptoRow : OpenClaim := { program := "yticceknfjhfccaa", sum := "0fa135867054957a3202feaeff7cdf2e295da410d5e8d386292df5a51284c4cc", func := "loop.example/lib-g03232/laws.FnArcRanges", spec := "fnArcRanges", inPlace := ["math.Float64frombits", "math.sqrt"], apart := false, narrowed := true }
def FnArcRangesUptoSaid : Prop := fnArcRangesUptoRow.holds Try.pinned (OpenSpec.upto fnArcRangesSpec)

/-- 'laws.FnNoNumber', WHERE WHAT IT READS IS OF BULK AT MOST 1048576: true; the input reads as it did. -/
def fnNoNumberUptoRow : OpenClaim := { program := "yticceknfjhfccaa", sum := "0fa135867054957a3202feaeff7cdf2e295da410d5e8d386292df5a51284c4cc", func := "loop.example/lib-g03232/laws.FnNoNumber", spec := "fnNoNumber", inPlace := ["math.Float64frombits", "math.sqrt"], apart := false, narrowed := true }
def FnNoNumberUptoSaid : Prop := fnNoNumberUptoRow.holds Try.pinned (OpenSpec.upto fnNoNumberSpec)

/-- 'laws.FnTurnedBack', WHERE WHAT IT READS IS OF BULK AT MOST 1048576: true; the input reads as it did. -/
def fnTurnedBackUptoRow : OpenClaim := { program := "yticceknfjhfccaa", sum := "0fa135867054957a3202feaeff7cdf2e295da410d5e8d386292df5a51284c4cc", func := "loop.example/lib-g03232/laws.FnTurnedBack", spec := "fnTurnedBack", inPlace := ["math.Float64frombits", "math.sqrt", "math.Float64bits"], apart := false, narrowed := true }
def FnTurnedBackUptoSaid : Prop := fnTurnedBackUptoRow.holds Try.pinned (OpenSpec.upto fnTurnedBackSpec)

end Rows
end Go.Proofs.Yticceknfjhfccaa
