/-
  No cell of these rows narrows 'for every input' (looked for: loops, veiled, ifaces, maps, wideKeys, modest, calm, conditions, laid).
  DERIVED. THE GIVEN ROWS OF THIS SEAT. 7 by the template 'for every input the law returns true; each argument reads behind the call as it read before'; 0 by the template 'total and deterministic' (their statements: YthnbkoohehnblaaTotals.lean).
  GIVEN WITH THE SEED: the statements are not yours to turn. If you find one false, say at which input.
  Laid BY PROGRAM, IN A SANDBOX (cutbox-rows.mjs): the forced cells as the released guide's own fill.sh prints them over the translation 10997a1495bc89c3… (all of the seat's roots in one cut). By AI agents, Wed Nov 11 2026. No macro, syntax, notation, axiom, sorry.
-/
import Derived.Test.YthnbkoohehnblaaChecked
import GoSem.Claim
import GoSem.ClaimJoined
import GoSem.ClaimMapViews
import Derived.JoinedTies
import Derived.KernelRfl
namespace Go.Proofs.Ythnbkoohehnblaa
/- THE CELL 'sum', in the pinned program and in every row, IS THE sha256 OF THE DUMP (.gsa) THAT YthnbkoohehnblaaProg.lean LOADS. Nothing in Lean hashes anything: it is a label: what it is worth is what the hold of that sum in a sandbox is worth. -/
noncomputable def Try.pinned : Pinned := { name := "ythnbkoohehnblaa", sum := "10997a1495bc89c350b6ac0e30567bc1cbbd2064c3e6a986500a35026066600c", checked := Try.checked }
namespace Rows
def none {H : Type} : Left H := { results := [], args := [] }

/-- 'laws.FnFarRanges': WHATEVER THE INPUT: true; the input reads as it did. -/
def fnFarRangesSpec : ChangeSpec := { name := "fnFarRanges", fn := fun _ => fun
  | [d] => { results := [.lit (.bool true)], args := [d] }
  | _ => none }
def fnFarRangesRow : OpenClaim := { program := "ythnbkoohehnblaa", sum := "10997a1495bc89c350b6ac0e30567bc1cbbd2064c3e6a986500a35026066600c", func := "loop.example/lib-g03232/laws.FnFarRanges", spec := "fnFarRanges", inPlace := ["math.Float64bits", "math.Float64frombits", "math.archLog", "math.sqrt"], apart := false }
def FnFarRangesSaid : Prop := fnFarRangesRow.holds Try.pinned (OpenSpec.ofChange fnFarRangesSpec)

/-- ITS FALSE NEIGHBOUR: 'it returns false'. Refute it at one input. -/
def fnFarRangesWrong : ChangeSpec := { name := "fnFarRanges", fn := fun _ => fun
  | [d] => { results := [.lit (.bool false)], args := [d] }
  | _ => none }
def FnFarRangesWrongFalsely : Prop := fnFarRangesRow.holds Try.pinned (OpenSpec.ofChange fnFarRangesWrong)

/-- 'laws.FnAtanhCases': WHATEVER THE INPUT: true; the input reads as it did. -/
def fnAtanhCasesSpec : ChangeSpec := { name := "fnAtanhCases", fn := fun _ => fun
  | [d] => { results := [.lit (.bool true)], args := [d] }
  | _ => none }
def fnAtanhCasesRow : OpenClaim := { program := "ythnbkoohehnblaa", sum := "10997a1495bc89c350b6ac0e30567bc1cbbd2064c3e6a986500a35026066600c", func := "loop.example/lib-g03232/laws.FnAtanhCases", spec := "fnAtanhCases", inPlace := ["math.Float64frombits", "math.Float64bits"], apart := false }
def FnAtanhCasesSaid : Prop := fnAtanhCasesRow.holds Try.pinned (OpenSpec.ofChange fnAtanhCasesSpec)

/-- ITS FALSE NEIGHBOUR: 'it returns false'. Refute it at one input. -/
def fnAtanhCasesWrong : ChangeSpec := { name := "fnAtanhCases", fn := fun _ => fun
  | [d] => { results := [.lit (.bool false)], args := [d] }
  | _ => none }
def FnAtanhCasesWrongFalsely : Prop := fnAtanhCasesRow.holds Try.pinned (OpenSpec.ofChange fnAtanhCasesWrong)

/-- 'laws.FnAcoshCases': WHATEVER THE INPUT: true; the input reads as it did. -/
def fnAcoshCasesSpec : ChangeSpec := { name := "fnAcoshCases", fn := fun _ => fun
  | [d] => { results := [.lit (.bool true)], args := [d] }
  | _ => none }
def fnAcoshCasesRow : OpenClaim := { program := "ythnbkoohehnblaa", sum := "10997a1495bc89c350b6ac0e30567bc1cbbd2064c3e6a986500a35026066600c", func := "loop.example/lib-g03232/laws.FnAcoshCases", spec := "fnAcoshCases", inPlace := ["math.Float64frombits", "math.archLog", "math.Float64bits", "math.sqrt"], apart := false }
def FnAcoshCasesSaid : Prop := fnAcoshCasesRow.holds Try.pinned (OpenSpec.ofChange fnAcoshCasesSpec)

/-- ITS FALSE NEIGHBOUR: 'it returns false'. Refute it at one input. -/
def fnAcoshCasesWrong : ChangeSpec := { name := "fnAcoshCases", fn := fun _ => fun
  | [d] => { results := [.lit (.bool false)], args := [d] }
  | _ => none }
def FnAcoshCasesWrongFalsely : Prop := fnAcoshCasesRow.holds Try.pinned (OpenSpec.ofChange fnAcoshCasesWrong)

/-- 'laws.FnAsinhCases': WHATEVER THE INPUT: true; the input reads as it did. -/
def fnAsinhCasesSpec : ChangeSpec := { name := "fnAsinhCases", fn := fun _ => fun
  | [d] => { results := [.lit (.bool true)], args := [d] }
  | _ => none }
def fnAsinhCasesRow : OpenClaim := { program := "ythnbkoohehnblaa", sum := "10997a1495bc89c350b6ac0e30567bc1cbbd2064c3e6a986500a35026066600c", func := "loop.example/lib-g03232/laws.FnAsinhCases", spec := "fnAsinhCases", inPlace := ["math.Float64bits", "math.Float64frombits", "math.archLog", "math.sqrt"], apart := false }
def FnAsinhCasesSaid : Prop := fnAsinhCasesRow.holds Try.pinned (OpenSpec.ofChange fnAsinhCasesSpec)

/-- ITS FALSE NEIGHBOUR: 'it returns false'. Refute it at one input. -/
def fnAsinhCasesWrong : ChangeSpec := { name := "fnAsinhCases", fn := fun _ => fun
  | [d] => { results := [.lit (.bool false)], args := [d] }
  | _ => none }
def FnAsinhCasesWrongFalsely : Prop := fnAsinhCasesRow.holds Try.pinned (OpenSpec.ofChange fnAsinhCasesWrong)

/-- 'laws.FnFarOne': WHATEVER THE INPUT: true; the input reads as it did. -/
def fnFarOneSpec : ChangeSpec := { name := "fnFarOne", fn := fun _ => fun
  | [d] => { results := [.lit (.bool true)], args := [d] }
  | _ => none }
def fnFarOneRow : OpenClaim := { program := "ythnbkoohehnblaa", sum := "10997a1495bc89c350b6ac0e30567bc1cbbd2064c3e6a986500a35026066600c", func := "loop.example/lib-g03232/laws.FnFarOne", spec := "fnFarOne", inPlace := ["math.Float64frombits", "math.archLog", "math.Float64bits", "math.sqrt"], apart := false }
def FnFarOneSaid : Prop := fnFarOneRow.holds Try.pinned (OpenSpec.ofChange fnFarOneSpec)

/-- ITS FALSE NEIGHBOUR: 'it returns false'. Refute it at one input. -/
def fnFarOneWrong : ChangeSpec := { name := "fnFarOne", fn := fun _ => fun
  | [d] => { results := [.lit (.bool false)], args := [d] }
  | _ => none }
def FnFarOneWrongFalsely : Prop := fnFarOneRow.holds Try.pinned (OpenSpec.ofChange fnFarOneWrong)

/-- 'laws.FnTurnedFar': WHATEVER THE INPUT: true; the input reads as it did. -/
def fnTurnedFarSpec : ChangeSpec := { name := "fnTurnedFar", fn := fun _ => fun
  | [d] => { results := [.lit (.bool true)], args := [d] }
  | _ => none }
def fnTurnedFarRow : OpenClaim := { program := "ythnbkoohehnblaa", sum := "10997a1495bc89c350b6ac0e30567bc1cbbd2064c3e6a986500a35026066600c", func := "loop.example/lib-g03232/laws.FnTurnedFar", spec := "fnTurnedFar", inPlace := ["math.Float64bits", "math.Float64frombits", "math.archLog", "math.sqrt"], apart := false }
def FnTurnedFarSaid : Prop := fnTurnedFarRow.holds Try.pinned (OpenSpec.ofChange fnTurnedFarSpec)

/-- ITS FALSE NEIGHBOUR: 'it returns false'. Refute it at one input. -/
def fnTurnedFarWrong : ChangeSpec := { name := "fnTurnedFar", fn := fun _ => fun
  | [d] => { results := [.lit (.bool false)], args := [d] }
  | _ => none }
def FnTurnedFarWrongFalsely : Prop := fnTurnedFarRow.holds Try.pinned (OpenSpec.ofChange fnTurnedFarWrong)

/-- 'laws.FnFarFinite': WHATEVER THE INPUT: true; the input reads as it did. -/
def fnFarFiniteSpec : ChangeSpec := { name := "fnFarFinite", fn := fun _ => fun
  | [d] => { results := [.lit (.bool true)], args := [d] }
  | _ => none }
def fnFarFiniteRow : OpenClaim := { program := "ythnbkoohehnblaa", sum := "10997a1495bc89c350b6ac0e30567bc1cbbd2064c3e6a986500a35026066600c", func := "loop.example/lib-g03232/laws.FnFarFinite", spec := "fnFarFinite", inPlace := ["math.Float64bits", "math.Float64frombits", "math.archLog", "math.sqrt"], apart := false }
def FnFarFiniteSaid : Prop := fnFarFiniteRow.holds Try.pinned (OpenSpec.ofChange fnFarFiniteSpec)

/-- ITS FALSE NEIGHBOUR: 'it returns false'. Refute it at one input. -/
def fnFarFiniteWrong : ChangeSpec := { name := "fnFarFinite", fn := fun _ => fun
  | [d] => { results := [.lit (.bool false)], args := [d] }
  | _ => none }
def FnFarFiniteWrongFalsely : Prop := fnFarFiniteRow.holds Try.pinned (OpenSpec.ofChange fnFarFiniteWrong)

/- THE SECOND FORM. 'bulk': how many values and letters a reading holds, each counted each time it is reached (what is shared counts as often as it is met; a slice's spare places count too). A statement '..UptoSaid' is the law's where the arguments, and the package variables that the reading takes, are together of bulk at most 1048576: NARROWER than '..Said'. Prove '..Said' where nothing that the law and all that it calls make is longer than what came in: it says more and counts as full. Else prove '..UptoSaid'. A law counts once. -/
mutual
def uptoBulk {H : Type} : DataW H → Nat
  | .lit (.string bytes) => bytes.length + 1
  | .lit _ => 1
  | .nil => 1
  | .ptr d => uptoBulk d + 1
  | .slice elems spare => uptoBulkAll elems + uptoBulkAll spare + 1
  | .agg parts => uptoBulkAll parts + 1
  | .iface _ d => uptoBulk d + 1
  | .map entries => uptoBulkEntries entries + 1
  | .held _ => 1
def uptoBulkAll {H : Type} : List (DataW H) → Nat
  | [] => 0
  | d :: r => uptoBulk d + uptoBulkAll r
def uptoBulkEntries {H : Type} : List (Lit × DataW H) → Nat
  | [] => 0
  | x :: r => uptoBulkEntry x + uptoBulkEntries r
def uptoBulkEntry {H : Type} : Lit × DataW H → Nat
  | (.string bytes, d) => bytes.length + uptoBulk d + 1
  | (_, d) => uptoBulk d + 1
 end
def uptoSmall : (H : Type) → List (DataW H) → Bool := fun _ ds => decide (uptoBulkAll ds ≤ 1048576)
def OpenSpec.upto (s : _root_.Go.ChangeSpec) : _root_.Go.OpenSpec := { _root_.Go.OpenSpec.ofChange s with cond := some uptoSmall }

/-- 'laws.FnFarRanges', WHERE WHAT IT READS IS OF BULK AT MOST 1048576: true; the input reads as it did. -/
def fnFarRangesUptoRow : OpenClaim := { program := "ythnbkoohehnblaa", sum := "10997a1495bc89c350b6ac0e30567bc1cbbd2064c3e6a986500a35026066600c", func := "loop.example/lib-g03232/laws.FnFarRanges", spec := "fnFarRanges", inPlace := ["math.Float64bits", "math.Float64frombits", "math.archLog", "math.sqrt"], apart := false, narrowed := true }
def FnFarRangesUptoSaid : Prop := fnFarRangesUptoRow.holds Try.pinned (OpenSpec.upto fnFarRangesSpec)

/-- 'laws.FnAtanhCases', WHERE WHAT IT READS IS OF BULK AT MOST 1048576: true; the input reads as it did. -/
def fnAtanhCasesUptoRow : OpenClaim := { program := "ythnbkoohehnblaa", sum := "10997a1495bc89c350b6ac0e30567bc1cbbd2064c3e6a986500a35026066600c", func := "loop.example/lib-g03232/laws.FnAtanhCases", spec := "fnAtanhCases", inPlace := ["math.Float64frombits", "math.Float64bits"], apart := false, narrowed := true }
def FnAtanhCasesUptoSaid : Prop := fnAtanhCasesUptoRow.holds Try.pinned (OpenSpec.upto fnAtanhCasesSpec)

/-- 'laws.FnAcoshCases', WHERE WHAT IT READS IS OF BULK AT MOST 1048576: true; the input reads as it did. -/
def fnAcoshCasesUptoRow : OpenClaim := { program := "ythnbkoohehnblaa", sum := "10997a1495bc89c350b6ac0e30567bc1cbbd2064c3e6a986500a35026066600c", func := "loop.example/lib-g03232/laws.FnAcoshCases", spec := "fnAcoshCases", inPlace := ["math.Float64frombits", "math.archLog", "math.Float64bits", "math.sqrt"], apart := false, narrowed := true }
def FnAcoshCasesUptoSaid : Prop := fnAcoshCasesUptoRow.holds Try.pinned (OpenSpec.upto fnAcoshCasesSpec)

/-- 'laws.FnAsinhCases', WHERE WHAT IT READS IS OF BULK AT MOST 1048576: true; the input reads as it did. -/
def fnAsinhCasesUptoRow : OpenClaim := { program := "ythnbkoohehnblaa", sum := "10997a1495bc89c350b6ac0e30567bc1cbbd2064c3e6a986500a35026066600c", func := "loop.example/lib-g03232/laws.FnAsinhCases", spec := "fnAsinhCases", inPlace := ["math.Float64bits", "math.Float64frombits", "math.archLog", "math.sqrt"], apart := false, narrowed := true }
def FnAsinhCasesUptoSaid : Prop := fnAsinhCasesUptoRow.holds Try.pinned (OpenSpec.upto fnAsinhCasesSpec)

/-- 'laws.FnFarOne', WHERE WHAT IT READS IS OF BULK AT MOST 1048576: true; the input reads as it did. -/
def fnFarOneUptoRow : OpenClaim := { program := "ythnbkoohehnblaa", sum := "10997a1495bc89c350b6ac0e30567bc1cbbd2064c3e6a986500a35026066600c", func := "loop.example/lib-g03232/laws.FnFarOne", spec := "fnFarOne", inPlace := ["math.Float64frombits", "math.archLog", "math.Float64bits", "math.sqrt"], apart := false, narrowed := true }
def FnFarOneUptoSaid : Prop := fnFarOneUptoRow.holds Try.pinned (OpenSpec.upto fnFarOneSpec)

/-- 'laws.FnTurnedFar', WHERE WHAT IT READS IS OF BULK AT MOST 1048576: true; the input reads as it did. -/
def fnTurnedFarUptoRow : OpenClaim := { program := "ythnbkoohehnblaa", sum := "10997a1495bc89c350b6ac0e30567bc1cbbd2064c3e6a986500a35026066600c", func := "loop.example/lib-g03232/laws.FnTurnedFar", spec := "fnTurnedFar", inPlace := ["math.Float64bits", "math.Float64frombits", "math.archLog", "math.sqrt"], apart := false, narrowed := true }
def FnTurnedFarUptoSaid : Prop := fnTurnedFarUptoRow.holds Try.pinned (OpenSpec.upto fnTurnedFarSpec)

/-- 'laws.FnFarFinite', WHERE WHAT IT READS IS OF BULK AT MOST 1048576: true; the input reads as it did. -/
def fnFarFiniteUptoRow : OpenClaim := { program := "ythnbkoohehnblaa", sum := "10997a1495bc89c350b6ac0e30567bc1cbbd2064c3e6a986500a35026066600c", func := "loop.example/lib-g03232/laws.FnFarFinite", spec := "fnFarFinite", inPlace := ["math.Float64bits", "math.Float64frombits", "math.archLog", "math.sqrt"], apart := false, narrowed := true }
def FnFarFiniteUptoSaid : Prop := fnFarFiniteUptoRow.holds Try.pinned (OpenSpec.upto fnFarFiniteSpec)

end Rows
end Go.Proofs.Ythnbkoohehnblaa
