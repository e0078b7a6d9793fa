/-
  NARROWER THAN 'FOR EVERY INPUT', by the rows' own cells (each row's printed sentence says how): FnArcBack: laid · FnNearZero: laid · FnSincosCases: laid · FnTanCases: laid · FnCosCases: laid · FnSinCases: laid · FnRound: laid · FnSincosBoth: laid · FnTanIsQuotient: laid · FnTurnedRound: laid.
  DERIVED. THE GIVEN ROWS OF THIS SEAT. 10 by the template 'for every input the law returns true; each argument reads behind the call as it read before'; 0 by the template 'total and deterministic' (their statements: YtgbdplmpojkklaaDoorTotals.lean).
  GIVEN WITH THE SEED: the statements are not yours to turn. If you find one false, say at which input.
  Laid BY PROGRAM, IN A SANDBOX (cutbox-rows.mjs): the forced cells as the released guide's own fill.sh prints them over the translation 0381dcce9261e70e… (all of the seat's roots in one cut). By AI agents, Wed Nov 11 2026. No macro, syntax, notation, axiom, sorry.
-/
import Derived.Test.YtgbdplmpojkklaaDoorChecked
import GoSem.Claim
import GoSem.ClaimJoined
import GoSem.ClaimMapViews
import Derived.JoinedTies
import Derived.KernelRfl
namespace Go.Proofs.YtgbdplmpojkklaaDoor
/- THE CELL 'sum', in the pinned program and in every row, IS THE sha256 OF THE DUMP (.gsa) THAT YtgbdplmpojkklaaDoorProg.lean LOADS. Nothing in Lean hashes anything: it is a label: what it is worth is what the hold of that sum in a sandbox is worth. -/
noncomputable def Tryd.pinned : Pinned := { name := "ytgbdplmpojkklaadoor", sum := "0381dcce9261e70ef60bf7ab3ca4f0a7596cacbf7344448fb196eaa2c66eba7c", checked := Tryd.checked }
namespace Rows
def none {H : Type} : Left H := { results := [], args := [] }

/- WHAT THE LISTED PACKAGE-LEVEL VARIABLES READ AS WHEN THE CALL BEGINS. Each datum BY PROGRAM (the guide's laid-datum.mjs) off the statement by which the dump's own 'gosem.cut.vars' lays the variable. In a bare row this is a premise. The card (YtgbdplmpojkklaaDoorCards.lean) ties it to the program's text. -/
def laid_math_sin {H : Type} : DataW H := .agg [.lit (.float .f64 4460209587652500685), .lit (.float .f64 13716528389658582877), .lit (.float .f64 4523617212962785441), .lit (.float .f64 13774824197404483331), .lit (.float .f64 4575957461383575504), .lit (.float .f64 13818544856648471880)]
def laid_math_cos {H : Type} : DataW H := .agg [.lit (.float .f64 13666448263388469915), .lit (.float .f64 4477121864728985349), .lit (.float .f64 13732177093698800582), .lit (.float .f64 4537941361668146421), .lit (.float .f64 13787419979223748497), .lit (.float .f64 4586165620538955083)]
def laid_math_tanP {H : Type} : DataW H := .agg [.lit (.float .f64 13891795985540005688), .lit (.float .f64 4697705128000265693), .lit (.float .f64 13938957415113920886)]
def laid_math_tanQ {H : Type} : DataW H := .agg [.lit (.float .f64 4607182418800017408), .lit (.float .f64 4668746986536789362), .lit (.float .f64 13921796037995576470), .lit (.float .f64 4717478346167605487), .lit (.float .f64 13945871098756094513)]
def laid_math_mPi4 {H : Type} : DataW H := .agg [.lit (.int .u64 1), .lit (.int .u64 5040379952546458195), .lit (.int .u64 17892431488136887169), .lit (.int .u64 13169980181085364355), .lit (.int .u64 18204331823439776451), .lit (.int .u64 7946843935494350272), .lit (.int .u64 905889640498799673), .lit (.int .u64 18175356263134875261), .lit (.int .u64 15061281708168349961), .lit (.int .u64 15220161563773041794), .lit (.int .u64 8296664548579374057), .lit (.int .u64 4109744767560208502), .lit (.int .u64 4607516669194743839), .lit (.int .u64 16023283104648321598), .lit (.int .u64 15739233654134936430), .lit (.int .u64 11424645774684705882), .lit (.int .u64 16883842788696515318), .lit (.int .u64 8795094592981902804), .lit (.int .u64 15561835991111744016), .lit (.int .u64 12395701187267450711)]

/-- 'laws.FnArcBack': WHATEVER THE INPUT: true; the input reads as it did. -/
def fnArcBackSpec : ChangeSpec := { name := "fnArcBack", fn := fun _ => fun
  | [d] => { results := [.lit (.bool true)], args := [d] }
  | _ => none }
def fnArcBackRow : OpenClaim := { program := "ytgbdplmpojkklaadoor", sum := "0381dcce9261e70ef60bf7ab3ca4f0a7596cacbf7344448fb196eaa2c66eba7c", func := "loop.example/lib-g03232/laws.FnArcBack", spec := "fnArcBack", inPlace := ["math.Float64bits", "math.Float64frombits", "math/bits.Add64", "math.sqrt"], named := ["math._cos", "math._sin", "math.mPi4", "math._tanP", "math._tanQ"], apart := false, laid := [("math._sin", laid_math_sin), ("math._cos", laid_math_cos), ("math._tanP", laid_math_tanP), ("math._tanQ", laid_math_tanQ), ("math.mPi4", laid_math_mPi4)] }
def FnArcBackSaid : Prop := fnArcBackRow.holds Tryd.pinned (OpenSpec.ofChange fnArcBackSpec)

/-- ITS FALSE NEIGHBOUR: 'it returns false'. Refute it at one input. -/
def fnArcBackWrong : ChangeSpec := { name := "fnArcBack", fn := fun _ => fun
  | [d] => { results := [.lit (.bool false)], args := [d] }
  | _ => none }
def FnArcBackWrongFalsely : Prop := fnArcBackRow.holds Tryd.pinned (OpenSpec.ofChange fnArcBackWrong)

/-- 'laws.FnNearZero': WHATEVER THE INPUT: true; the input reads as it did. -/
def fnNearZeroSpec : ChangeSpec := { name := "fnNearZero", fn := fun _ => fun
  | [d] => { results := [.lit (.bool true)], args := [d] }
  | _ => none }
def fnNearZeroRow : OpenClaim := { program := "ytgbdplmpojkklaadoor", sum := "0381dcce9261e70ef60bf7ab3ca4f0a7596cacbf7344448fb196eaa2c66eba7c", func := "loop.example/lib-g03232/laws.FnNearZero", spec := "fnNearZero", inPlace := ["math.Float64bits", "math.Float64frombits", "math/bits.Add64", "math.sqrt", "math.archLog"], named := ["math._cos", "math._sin", "math.mPi4", "math._tanP", "math._tanQ"], apart := false, laid := [("math._sin", laid_math_sin), ("math._cos", laid_math_cos), ("math._tanP", laid_math_tanP), ("math._tanQ", laid_math_tanQ), ("math.mPi4", laid_math_mPi4)] }
def FnNearZeroSaid : Prop := fnNearZeroRow.holds Tryd.pinned (OpenSpec.ofChange fnNearZeroSpec)

/-- ITS FALSE NEIGHBOUR: 'it returns false'. Refute it at one input. -/
def fnNearZeroWrong : ChangeSpec := { name := "fnNearZero", fn := fun _ => fun
  | [d] => { results := [.lit (.bool false)], args := [d] }
  | _ => none }
def FnNearZeroWrongFalsely : Prop := fnNearZeroRow.holds Tryd.pinned (OpenSpec.ofChange fnNearZeroWrong)

/-- 'laws.FnSincosCases': WHATEVER THE INPUT: true; the input reads as it did. -/
def fnSincosCasesSpec : ChangeSpec := { name := "fnSincosCases", fn := fun _ => fun
  | [d] => { results := [.lit (.bool true)], args := [d] }
  | _ => none }
def fnSincosCasesRow : OpenClaim := { program := "ytgbdplmpojkklaadoor", sum := "0381dcce9261e70ef60bf7ab3ca4f0a7596cacbf7344448fb196eaa2c66eba7c", func := "loop.example/lib-g03232/laws.FnSincosCases", spec := "fnSincosCases", inPlace := ["math.Float64bits", "math.Float64frombits", "math/bits.Add64"], named := ["math._cos", "math._sin", "math.mPi4"], apart := false, laid := [("math._sin", laid_math_sin), ("math._cos", laid_math_cos), ("math.mPi4", laid_math_mPi4)] }
def FnSincosCasesSaid : Prop := fnSincosCasesRow.holds Tryd.pinned (OpenSpec.ofChange fnSincosCasesSpec)

/-- ITS FALSE NEIGHBOUR: 'it returns false'. Refute it at one input. -/
def fnSincosCasesWrong : ChangeSpec := { name := "fnSincosCases", fn := fun _ => fun
  | [d] => { results := [.lit (.bool false)], args := [d] }
  | _ => none }
def FnSincosCasesWrongFalsely : Prop := fnSincosCasesRow.holds Tryd.pinned (OpenSpec.ofChange fnSincosCasesWrong)

/-- 'laws.FnTanCases': WHATEVER THE INPUT: true; the input reads as it did. -/
def fnTanCasesSpec : ChangeSpec := { name := "fnTanCases", fn := fun _ => fun
  | [d] => { results := [.lit (.bool true)], args := [d] }
  | _ => none }
def fnTanCasesRow : OpenClaim := { program := "ytgbdplmpojkklaadoor", sum := "0381dcce9261e70ef60bf7ab3ca4f0a7596cacbf7344448fb196eaa2c66eba7c", func := "loop.example/lib-g03232/laws.FnTanCases", spec := "fnTanCases", inPlace := ["math.Float64bits", "math.Float64frombits", "math/bits.Add64"], named := ["math._tanP", "math._tanQ", "math.mPi4"], apart := false, laid := [("math._tanP", laid_math_tanP), ("math._tanQ", laid_math_tanQ), ("math.mPi4", laid_math_mPi4)] }
def FnTanCasesSaid : Prop := fnTanCasesRow.holds Tryd.pinned (OpenSpec.ofChange fnTanCasesSpec)

/-- ITS FALSE NEIGHBOUR: 'it returns false'. Refute it at one input. -/
def fnTanCasesWrong : ChangeSpec := { name := "fnTanCases", fn := fun _ => fun
  | [d] => { results := [.lit (.bool false)], args := [d] }
  | _ => none }
def FnTanCasesWrongFalsely : Prop := fnTanCasesRow.holds Tryd.pinned (OpenSpec.ofChange fnTanCasesWrong)

/-- 'laws.FnCosCases': WHATEVER THE INPUT: true; the input reads as it did. -/
def fnCosCasesSpec : ChangeSpec := { name := "fnCosCases", fn := fun _ => fun
  | [d] => { results := [.lit (.bool true)], args := [d] }
  | _ => none }
def fnCosCasesRow : OpenClaim := { program := "ytgbdplmpojkklaadoor", sum := "0381dcce9261e70ef60bf7ab3ca4f0a7596cacbf7344448fb196eaa2c66eba7c", func := "loop.example/lib-g03232/laws.FnCosCases", spec := "fnCosCases", inPlace := ["math.Float64bits", "math.Float64frombits", "math/bits.Add64"], named := ["math._sin", "math._cos", "math.mPi4"], apart := false, laid := [("math._sin", laid_math_sin), ("math._cos", laid_math_cos), ("math.mPi4", laid_math_mPi4)] }
def FnCosCasesSaid : Prop := fnCosCasesRow.holds Tryd.pinned (OpenSpec.ofChange fnCosCasesSpec)

/-- ITS FALSE NEIGHBOUR: 'it returns false'. Refute it at one input. -/
def fnCosCasesWrong : ChangeSpec := { name := "fnCosCases", fn := fun _ => fun
  | [d] => { results := [.lit (.bool false)], args := [d] }
  | _ => none }
def FnCosCasesWrongFalsely : Prop := fnCosCasesRow.holds Tryd.pinned (OpenSpec.ofChange fnCosCasesWrong)

/-- 'laws.FnSinCases': WHATEVER THE INPUT: true; the input reads as it did. -/
def fnSinCasesSpec : ChangeSpec := { name := "fnSinCases", fn := fun _ => fun
  | [d] => { results := [.lit (.bool true)], args := [d] }
  | _ => none }
def fnSinCasesRow : OpenClaim := { program := "ytgbdplmpojkklaadoor", sum := "0381dcce9261e70ef60bf7ab3ca4f0a7596cacbf7344448fb196eaa2c66eba7c", func := "loop.example/lib-g03232/laws.FnSinCases", spec := "fnSinCases", inPlace := ["math.Float64bits", "math.Float64frombits", "math/bits.Add64"], named := ["math._cos", "math._sin", "math.mPi4"], apart := false, laid := [("math._sin", laid_math_sin), ("math._cos", laid_math_cos), ("math.mPi4", laid_math_mPi4)] }
def FnSinCasesSaid : Prop := fnSinCasesRow.holds Tryd.pinned (OpenSpec.ofChange fnSinCasesSpec)

/-- ITS FALSE NEIGHBOUR: 'it returns false'. Refute it at one input. -/
def fnSinCasesWrong : ChangeSpec := { name := "fnSinCases", fn := fun _ => fun
  | [d] => { results := [.lit (.bool false)], args := [d] }
  | _ => none }
def FnSinCasesWrongFalsely : Prop := fnSinCasesRow.holds Tryd.pinned (OpenSpec.ofChange fnSinCasesWrong)

/-- 'laws.FnRound': WHATEVER THE INPUT: true; the input reads as it did. -/
def fnRoundSpec : ChangeSpec := { name := "fnRound", fn := fun _ => fun
  | [d] => { results := [.lit (.bool true)], args := [d] }
  | _ => none }
def fnRoundRow : OpenClaim := { program := "ytgbdplmpojkklaadoor", sum := "0381dcce9261e70ef60bf7ab3ca4f0a7596cacbf7344448fb196eaa2c66eba7c", func := "loop.example/lib-g03232/laws.FnRound", spec := "fnRound", inPlace := ["math.Float64bits", "math.Float64frombits", "math/bits.Add64"], named := ["math._cos", "math._sin", "math.mPi4"], apart := false, laid := [("math._sin", laid_math_sin), ("math._cos", laid_math_cos), ("math.mPi4", laid_math_mPi4)] }
def FnRoundSaid : Prop := fnRoundRow.holds Tryd.pinned (OpenSpec.ofChange fnRoundSpec)

/-- ITS FALSE NEIGHBOUR: 'it returns false'. Refute it at one input. -/
def fnRoundWrong : ChangeSpec := { name := "fnRound", fn := fun _ => fun
  | [d] => { results := [.lit (.bool false)], args := [d] }
  | _ => none }
def FnRoundWrongFalsely : Prop := fnRoundRow.holds Tryd.pinned (OpenSpec.ofChange fnRoundWrong)

/-- 'laws.FnSincosBoth': WHATEVER THE INPUT: true; the input reads as it did. -/
def fnSincosBothSpec : ChangeSpec := { name := "fnSincosBoth", fn := fun _ => fun
  | [d] => { results := [.lit (.bool true)], args := [d] }
  | _ => none }
def fnSincosBothRow : OpenClaim := { program := "ytgbdplmpojkklaadoor", sum := "0381dcce9261e70ef60bf7ab3ca4f0a7596cacbf7344448fb196eaa2c66eba7c", func := "loop.example/lib-g03232/laws.FnSincosBoth", spec := "fnSincosBoth", inPlace := ["math.Float64bits", "math.Float64frombits", "math/bits.Add64"], named := ["math._cos", "math._sin", "math.mPi4"], apart := false, laid := [("math._sin", laid_math_sin), ("math._cos", laid_math_cos), ("math.mPi4", laid_math_mPi4)] }
def FnSincosBothSaid : Prop := fnSincosBothRow.holds Tryd.pinned (OpenSpec.ofChange fnSincosBothSpec)

/-- ITS FALSE NEIGHBOUR: 'it returns false'. Refute it at one input. -/
def fnSincosBothWrong : ChangeSpec := { name := "fnSincosBoth", fn := fun _ => fun
  | [d] => { results := [.lit (.bool false)], args := [d] }
  | _ => none }
def FnSincosBothWrongFalsely : Prop := fnSincosBothRow.holds Tryd.pinned (OpenSpec.ofChange fnSincosBothWrong)

/-- 'laws.FnTanIsQuotient': WHATEVER THE INPUT: true; the input reads as it did. -/
def fnTanIsQuotientSpec : ChangeSpec := { name := "fnTanIsQuotient", fn := fun _ => fun
  | [d] => { results := [.lit (.bool true)], args := [d] }
  | _ => none }
def fnTanIsQuotientRow : OpenClaim := { program := "ytgbdplmpojkklaadoor", sum := "0381dcce9261e70ef60bf7ab3ca4f0a7596cacbf7344448fb196eaa2c66eba7c", func := "loop.example/lib-g03232/laws.FnTanIsQuotient", spec := "fnTanIsQuotient", inPlace := ["math.Float64bits", "math.Float64frombits", "math/bits.Add64"], named := ["math._tanP", "math._tanQ", "math.mPi4", "math._sin", "math._cos"], apart := false, laid := [("math._sin", laid_math_sin), ("math._cos", laid_math_cos), ("math._tanP", laid_math_tanP), ("math._tanQ", laid_math_tanQ), ("math.mPi4", laid_math_mPi4)] }
def FnTanIsQuotientSaid : Prop := fnTanIsQuotientRow.holds Tryd.pinned (OpenSpec.ofChange fnTanIsQuotientSpec)

/-- ITS FALSE NEIGHBOUR: 'it returns false'. Refute it at one input. -/
def fnTanIsQuotientWrong : ChangeSpec := { name := "fnTanIsQuotient", fn := fun _ => fun
  | [d] => { results := [.lit (.bool false)], args := [d] }
  | _ => none }
def FnTanIsQuotientWrongFalsely : Prop := fnTanIsQuotientRow.holds Tryd.pinned (OpenSpec.ofChange fnTanIsQuotientWrong)

/-- 'laws.FnTurnedRound': WHATEVER THE INPUT: true; the input reads as it did. -/
def fnTurnedRoundSpec : ChangeSpec := { name := "fnTurnedRound", fn := fun _ => fun
  | [d] => { results := [.lit (.bool true)], args := [d] }
  | _ => none }
def fnTurnedRoundRow : OpenClaim := { program := "ytgbdplmpojkklaadoor", sum := "0381dcce9261e70ef60bf7ab3ca4f0a7596cacbf7344448fb196eaa2c66eba7c", func := "loop.example/lib-g03232/laws.FnTurnedRound", spec := "fnTurnedRound", inPlace := ["math.Float64bits", "math.Float64frombits", "math/bits.Add64"], named := ["math._cos", "math._sin", "math.mPi4", "math._tanP", "math._tanQ"], apart := false, laid := [("math._sin", laid_math_sin), ("math._cos", laid_math_cos), ("math._tanP", laid_math_tanP), ("math._tanQ", laid_math_tanQ), ("math.mPi4", laid_math_mPi4)] }
def FnTurnedRoundSaid : Prop := fnTurnedRoundRow.holds Tryd.pinned (OpenSpec.ofChange fnTurnedRoundSpec)

/-- ITS FALSE NEIGHBOUR: 'it returns false'. Refute it at one input. -/
def fnTurnedRoundWrong : ChangeSpec := { name := "fnTurnedRound", fn := fun _ => fun
  | [d] => { results := [.lit (.bool false)], args := [d] }
  | _ => none }
def FnTurnedRoundWrongFalsely : Prop := fnTurnedRoundRow.holds Tryd.pinned (OpenSpec.ofChange fnTurnedRoundWrong)

/- THE SECOND FORM. 'bulk': how many values and letters a reading holds, each counted each time it is reached (what is shared counts as often as it is met; a slice's spare places count too). A statement '..UptoSaid' is the law's where the arguments, and the package variables that the reading takes, are together of bulk at most 1048576: NARROWER than '..Said'. Prove '..Said' where nothing that the law and all that it calls make is longer than what came in: it says more and counts as full. Else prove '..UptoSaid'. A law counts once. -/
mutual
def uptoBulk {H : Type} : DataW H → Nat
  | .lit (.string bytes) => bytes.length + 1
  | .lit _ => 1
  | .nil => 1
  | .ptr d => uptoBulk d + 1
  | .slice elems spare => uptoBulkAll elems + uptoBulkAll spare + 1
  | .agg parts => uptoBulkAll parts + 1
  | .iface _ d => uptoBulk d + 1
  | .map entries => uptoBulkEntries entries + 1
  | .held _ => 1
def uptoBulkAll {H : Type} : List (DataW H) → Nat
  | [] => 0
  | d :: r => uptoBulk d + uptoBulkAll r
def uptoBulkEntries {H : Type} : List (Lit × DataW H) → Nat
  | [] => 0
  | x :: r => uptoBulkEntry x + uptoBulkEntries r
def uptoBulkEntry {H : Type} : Lit × DataW H → Nat
  | (.string bytes, d) => bytes.length + uptoBulk d + 1
  | (_, d) => uptoBulk d + 1
 end
def uptoSmall : (H : Type) → List (DataW H) → Bool := fun _ ds => decide (uptoBulkAll ds ≤ 1048576)
def OpenSpec.upto (s : _root_.Go.ChangeSpec) : _root_.Go.OpenSpec := { _root_.Go.OpenSpec.ofChange s with cond := some uptoSmall }

/-- 'laws.FnArcBack', WHERE WHAT IT READS IS OF BULK AT MOST 1048576: true; the input reads as it did. -/
def fnArcBackUptoRow : OpenClaim := { program := "ytgbdplmpojkklaadoor", sum := "0381dcce9261e70ef60bf7ab3ca4f0a7596cacbf7344448fb196eaa2c66eba7c", func := "loop.example/lib-g03232/laws.FnArcBack", spec := "fnArcBack", inPlace := ["math.Float64bits", "math.Float64frombits", "math/bits.Add64", "math.sqrt"], named := ["math._cos", "math._sin", "math.mPi4", "math._tanP", "math._tanQ"], apart := false, laid := [("math._sin", laid_math_sin), ("math._cos", laid_math_cos), ("math._tanP", laid_math_tanP), ("math._tanQ", laid_math_tanQ), ("math.mPi4", laid_math_mPi4)], narrowed := true }
def FnArcBackUptoSaid : Prop := fnArcBackUptoRow.holds Tryd.pinned (OpenSpec.upto fnArcBackSpec)

/-- 'laws.FnNearZero', WHERE WHAT IT READS IS OF BULK AT MOST 1048576: true; the input reads as it did. -/
def fnNearZeroUptoRow : OpenClaim := { program := "ytgbdplmpojkklaadoor", sum := "0381dcce9261e70ef60bf7ab3ca4f0a7596cacbf7344448fb196eaa2c66eba7c", func := "loop.example/lib-g03232/laws.FnNearZero", spec := "fnNearZero", inPlace := ["math.Float64bits", "math.Float64frombits", "math/bits.Add64", "math.sqrt", "math.archLog"], named := ["math._cos", "math._sin", "math.mPi4", "math._tanP", "math._tanQ"], apart := false, laid := [("math._sin", laid_math_sin), ("math._cos", laid_math_cos), ("math._tanP", laid_math_tanP), ("math._tanQ", laid_math_tanQ), ("math.mPi4", laid_math_mPi4)], narrowed := true }
def FnNearZeroUptoSaid : Prop := fnNearZeroUptoRow.holds Tryd.pinned (OpenSpec.upto fnNearZeroSpec)

/-- 'laws.FnSincosCases', WHERE WHAT IT READS IS OF BULK AT MOST 1048576: true; the input reads as it did. -/
def fnSincosCasesUptoRow : OpenClaim := { program := "ytgbdplmpojkklaadoor", sum := "0381dcce9261e70ef60bf7ab3ca4f0a7596cacbf7344448fb196eaa2c66eba7c", func := "loop.example/lib-g03232/laws.FnSincosCases", spec := "fnSincosCases", inPlace := ["math.Float64bits", "math.Float64frombits", "math/bits.Add64"], named := ["math._cos", "math._sin", "math.mPi4"], apart := false, laid := [("math._sin", laid_math_sin), ("math._cos", laid_math_cos), ("math.mPi4", laid_math_mPi4)], narrowed := true }
def FnSincosCasesUptoSaid : Prop := fnSincosCasesUptoRow.holds Tryd.pinned (OpenSpec.upto fnSincosCasesSpec)

/-- 'laws.FnTanCases', WHERE WHAT IT READS IS OF BULK AT MOST 1048576: true; the input reads as it did. -/
def fnTanCasesUptoRow : OpenClaim := { program := "ytgbdplmpojkklaadoor", sum := "0381dcce9261e70ef60bf7ab3ca4f0a7596cacbf7344448fb196eaa2c66eba7c", func := "loop.example/lib-g03232/laws.FnTanCases", spec := "fnTanCases", inPlace := ["math.Float64bits", "math.Float64frombits", "math/bits.Add64"], named := ["math._tanP", "math._tanQ", "math.mPi4"], apart := false, laid := [("math._tanP", laid_math_tanP), ("math._tanQ", laid_math_tanQ), ("math.mPi4", laid_math_mPi4)], narrowed := true }
def FnTanCasesUptoSaid : Prop := fnTanCasesUptoRow.holds Tryd.pinned (OpenSpec.upto fnTanCasesSpec)

/-- 'laws.FnCosCases', WHERE WHAT IT READS IS OF BULK AT MOST 1048576: true; the input reads as it did. -/
def fnCosCasesUptoRow : OpenClaim := { program := "ytgbdplmpojkklaadoor", sum := "0381dcce9261e70ef60bf7ab3ca4f0a7596cacbf7344448fb196eaa2c66eba7c", func := "loop.example/lib-g03232/laws.FnCosCases", spec := "fnCosCases", inPlace := ["math.Float64bits", "math.Float64frombits", "math/bits.Add64"], named := ["math._sin", "math._cos", "math.mPi4"], apart := false, laid := [("math._sin", laid_math_sin), ("math._cos", laid_math_cos), ("math.mPi4", laid_math_mPi4)], narrowed := true }
def FnCosCasesUptoSaid : Prop := fnCosCasesUptoRow.holds Tryd.pinned (OpenSpec.upto fnCosCasesSpec)

/-- 'laws.FnSinCases', WHERE WHAT IT READS IS OF BULK AT MOST 1048576: true; the input reads as it did. -/
def fnSinCasesUptoRow : OpenClaim := { program := "ytgbdplmpojkklaadoor", sum := "0381dcce9261e70ef60bf7ab3ca4f0a7596cacbf7344448fb196eaa2c66eba7c", func := "loop.example/lib-g03232/laws.FnSinCases", spec := "fnSinCases", inPlace := ["math.Float64bits", "math.Float64frombits", "math/bits.Add64"], named := ["math._cos", "math._sin", "math.mPi4"], apart := false, laid := [("math._sin", laid_math_sin), ("math._cos", laid_math_cos), ("math.mPi4", laid_math_mPi4)], narrowed := true }
def FnSinCasesUptoSaid : Prop := fnSinCasesUptoRow.holds Tryd.pinned (OpenSpec.upto fnSinCasesSpec)

/-- 'laws.FnRound', WHERE WHAT IT READS IS OF BULK AT MOST 1048576: true; the input reads as it did. -/
def fnRoundUptoRow : OpenClaim := { program := "ytgbdplmpojkklaadoor", sum := "0381dcce9261e70ef60bf7ab3ca4f0a7596cacbf7344448fb196eaa2c66eba7c", func := "loop.example/lib-g03232/laws.FnRound", spec := "fnRound", inPlace := ["math.Float64bits", "math.Float64frombits", "math/bits.Add64"], named := ["math._cos", "math._sin", "math.mPi4"], apart := false, laid := [("math._sin", laid_math_sin), ("math._cos", laid_math_cos), ("math.mPi4", laid_math_mPi4)], narrowed := true }
def FnRoundUptoSaid : Prop := fnRoundUptoRow.holds Tryd.pinned (OpenSpec.upto fnRoundSpec)

/-- 'laws.FnSincosBoth', WHERE WHAT IT READS IS OF BULK AT MOST 1048576: true; the input reads as it did. -/
def fnSincosBothUptoRow : OpenClaim := { program := "ytgbdplmpojkklaadoor", sum := "0381dcce9261e70ef60bf7ab3ca4f0a7596cacbf7344448fb196eaa2c66eba7c", func := "loop.example/lib-g03232/laws.FnSincosBoth", spec := "fnSincosBoth", inPlace := ["math.Float64bits", "math.Float64frombits", "math/bits.Add64"], named := ["math._cos", "math._sin", "math.mPi4"], apart := false, laid := [("math._sin", laid_math_sin), ("math._cos", laid_math_cos), ("math.mPi4", laid_math_mPi4)], narrowed := true }
def FnSincosBothUptoSaid : Prop := fnSincosBothUptoRow.holds Tryd.pinned (OpenSpec.upto fnSincosBothSpec)

/-- 'laws.FnTanIsQuotient', WHERE WHAT IT READS IS OF BULK AT MOST 1048576: true; the input reads as it did. -/
def fnTanIsQuotientUptoRow : OpenClaim := { program := "ytgbdplmpojkklaadoor", sum := "0381dcce9261e70ef60bf7ab3ca4f0a7596cacbf7344448fb196eaa2c66eba7c", func := "loop.example/lib-g03232/laws.FnTanIsQuotient", spec := "fnTanIsQuotient", inPlace := ["math.Float64bits", "math.Float64frombits", "math/bits.Add64"], named := ["math._tanP", "math._tanQ", "math.mPi4", "math._sin", "math._cos"], apart := false, laid := [("math._sin", laid_math_sin), ("math._cos", laid_math_cos), ("math._tanP", laid_math_tanP), ("math._tanQ", laid_math_tanQ), ("math.mPi4", laid_math_mPi4)], narrowed := true }
def FnTanIsQuotientUptoSaid : Prop := fnTanIsQuotientUptoRow.holds Tryd.pinned (OpenSpec.upto fnTanIsQuotientSpec)

/-- 'laws.FnTurnedRound', WHERE WHAT IT READS IS OF BULK AT MOST 1048576: true; the input reads as it did. -/
def fnTurnedRoundUptoRow : OpenClaim := { program := "ytgbdplmpojkklaadoor", sum := "0381dcce9261e70ef60bf7ab3ca4f0a7596cacbf7344448fb196eaa2c66eba7c", func := "loop.example/lib-g03232/laws.FnTurnedRound", spec := "fnTurnedRound", inPlace := ["math.Float64bits", "math.Float64frombits", "math/bits.Add64"], named := ["math._cos", "math._sin", "math.mPi4", "math._tanP", "math._tanQ"], apart := false, laid := [("math._sin", laid_math_sin), ("math._cos", laid_math_cos), ("math._tanP", laid_math_tanP), ("math._tanQ", laid_math_tanQ), ("math.mPi4", laid_math_mPi4)], narrowed := true }
def FnTurnedRoundUptoSaid : Prop := fnTurnedRoundUptoRow.holds Tryd.pinned (OpenSpec.upto fnTurnedRoundSpec)

end Rows
end Go.Proofs.YtgbdplmpojkklaaDoor
