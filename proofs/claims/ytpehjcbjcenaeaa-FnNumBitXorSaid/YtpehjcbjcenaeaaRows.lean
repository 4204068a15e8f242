/-
  No cell of these rows narrows 'for every input' (looked for: loops, veiled, ifaces, maps, wideKeys, modest, calm, conditions, laid).
  DERIVED. THE GIVEN ROWS OF THIS SEAT. 6 by the template 'for every input the law returns true; each argument reads behind the call as it read before'; 0 by the template 'total and deterministic' (their statements: YtpehjcbjcenaeaaTotals.lean).
  GIVEN WITH THE SEED: the statements are not yours to turn. If you find one false, say at which input.
  Laid BY PROGRAM, IN A SANDBOX (cutbox-rows.mjs): the forced cells as the released guide's own fill.sh prints them over the translation 4e5bab67f01c96c5… (all of the seat's roots in one cut). By AI agents, Wed Nov 11 2026. No macro, syntax, notation, axiom, sorry.
-/
import Derived.Test.YtpehjcbjcenaeaaChecked
import GoSem.Claim
import GoSem.ClaimJoined
import GoSem.ClaimMapViews
import Derived.JoinedTies
import Derived.KernelRfl
namespace Go.Proofs.Ytpehjcbjcenaeaa
/- THE CELL 'sum', in the pinned program and in every row, IS THE sha256 OF THE DUMP (.gsa) THAT YtpehjcbjcenaeaaProg.lean LOADS. Nothing in Lean hashes anything: it is a label: what it is worth is what the hold of that sum in a sandbox is worth. -/
noncomputable def Try.pinned : Pinned := { name := "ytpehjcbjcenaeaa", sum := "4e5bab67f01c96c5a08c3247073ae38e5e8a52ea51038f93f10f409627ed37a6", checked := Try.checked }
namespace Rows
def none {H : Type} : Left H := { results := [], args := [] }

/-- 'laws.FnLogic': WHATEVER THE INPUT: true; the input reads as it did. -/
def fnLogicSpec : ChangeSpec := { name := "fnLogic", fn := fun _ => fun
  | [d1, d2] => { results := [.lit (.bool true)], args := [d1, d2] }
  | _ => none }
def fnLogicRow : OpenClaim := { program := "ytpehjcbjcenaeaa", sum := "4e5bab67f01c96c5a08c3247073ae38e5e8a52ea51038f93f10f409627ed37a6", func := "given.example/pub-rondel/laws.FnLogic", spec := "fnLogic", plainKeys := false, apart := false }
def FnLogicSaid : Prop := fnLogicRow.holds Try.pinned (OpenSpec.ofChange fnLogicSpec)

/-- ITS FALSE NEIGHBOUR: 'it returns false'. Refute it at one input. -/
def fnLogicWrong : ChangeSpec := { name := "fnLogic", fn := fun _ => fun
  | [d1, d2] => { results := [.lit (.bool false)], args := [d1, d2] }
  | _ => none }
def FnLogicWrongFalsely : Prop := fnLogicRow.holds Try.pinned (OpenSpec.ofChange fnLogicWrong)

/-- 'laws.FnNumMinus': WHATEVER THE INPUT: true; the input reads as it did. -/
def fnNumMinusSpec : ChangeSpec := { name := "fnNumMinus", fn := fun _ => fun
  | [d1, d2] => { results := [.lit (.bool true)], args := [d1, d2] }
  | _ => none }
def fnNumMinusRow : OpenClaim := { program := "ytpehjcbjcenaeaa", sum := "4e5bab67f01c96c5a08c3247073ae38e5e8a52ea51038f93f10f409627ed37a6", func := "given.example/pub-rondel/laws.FnNumMinus", spec := "fnNumMinus", inPlace := ["math.Float64bits", "math.Float64frombits"], plainKeys := false, apart := false }
def FnNumMinusSaid : Prop := fnNumMinusRow.holds Try.pinned (OpenSpec.ofChange fnNumMinusSpec)

/-- ITS FALSE NEIGHBOUR: 'it returns false'. Refute it at one input. -/
def fnNumMinusWrong : ChangeSpec := { name := "fnNumMinus", fn := fun _ => fun
  | [d1, d2] => { results := [.lit (.bool false)], args := [d1, d2] }
  | _ => none }
def FnNumMinusWrongFalsely : Prop := fnNumMinusRow.holds Try.pinned (OpenSpec.ofChange fnNumMinusWrong)

/-- 'laws.FnNumInteger': WHATEVER THE INPUT: true; the input reads as it did. -/
def fnNumIntegerSpec : ChangeSpec := { name := "fnNumInteger", fn := fun _ => fun
  | [d] => { results := [.lit (.bool true)], args := [d] }
  | _ => none }
def fnNumIntegerRow : OpenClaim := { program := "ytpehjcbjcenaeaa", sum := "4e5bab67f01c96c5a08c3247073ae38e5e8a52ea51038f93f10f409627ed37a6", func := "given.example/pub-rondel/laws.FnNumInteger", spec := "fnNumInteger", inPlace := ["math.archTrunc", "math.Float64bits", "math.Float64frombits"], unfollowed := true, recurses := true, plainKeys := false, apart := false }
def FnNumIntegerSaid : Prop := fnNumIntegerRow.holds Try.pinned (OpenSpec.ofChange fnNumIntegerSpec)

/-- ITS FALSE NEIGHBOUR: 'it returns false'. Refute it at one input. -/
def fnNumIntegerWrong : ChangeSpec := { name := "fnNumInteger", fn := fun _ => fun
  | [d] => { results := [.lit (.bool false)], args := [d] }
  | _ => none }
def FnNumIntegerWrongFalsely : Prop := fnNumIntegerRow.holds Try.pinned (OpenSpec.ofChange fnNumIntegerWrong)

/-- 'laws.FnNumBitXor': WHATEVER THE INPUT: true; the input reads as it did. -/
def fnNumBitXorSpec : ChangeSpec := { name := "fnNumBitXor", fn := fun _ => fun
  | [d1, d2] => { results := [.lit (.bool true)], args := [d1, d2] }
  | _ => none }
def fnNumBitXorRow : OpenClaim := { program := "ytpehjcbjcenaeaa", sum := "4e5bab67f01c96c5a08c3247073ae38e5e8a52ea51038f93f10f409627ed37a6", func := "given.example/pub-rondel/laws.FnNumBitXor", spec := "fnNumBitXor", inPlace := ["math.Float64bits", "math.Float64frombits", "math.archTrunc"], unfollowed := true, recurses := true, plainKeys := false, apart := false }
def FnNumBitXorSaid : Prop := fnNumBitXorRow.holds Try.pinned (OpenSpec.ofChange fnNumBitXorSpec)

/-- ITS FALSE NEIGHBOUR: 'it returns false'. Refute it at one input. -/
def fnNumBitXorWrong : ChangeSpec := { name := "fnNumBitXor", fn := fun _ => fun
  | [d1, d2] => { results := [.lit (.bool false)], args := [d1, d2] }
  | _ => none }
def FnNumBitXorWrongFalsely : Prop := fnNumBitXorRow.holds Try.pinned (OpenSpec.ofChange fnNumBitXorWrong)

/-- 'laws.FnNumFloor': WHATEVER THE INPUT: true; the input reads as it did. -/
def fnNumFloorSpec : ChangeSpec := { name := "fnNumFloor", fn := fun _ => fun
  | [d] => { results := [.lit (.bool true)], args := [d] }
  | _ => none }
def fnNumFloorRow : OpenClaim := { program := "ytpehjcbjcenaeaa", sum := "4e5bab67f01c96c5a08c3247073ae38e5e8a52ea51038f93f10f409627ed37a6", func := "given.example/pub-rondel/laws.FnNumFloor", spec := "fnNumFloor", inPlace := ["math.Float64bits", "math.Float64frombits", "math.archFloor", "math.archTrunc"], unfollowed := true, recurses := true, plainKeys := false, apart := false }
def FnNumFloorSaid : Prop := fnNumFloorRow.holds Try.pinned (OpenSpec.ofChange fnNumFloorSpec)

/-- ITS FALSE NEIGHBOUR: 'it returns false'. Refute it at one input. -/
def fnNumFloorWrong : ChangeSpec := { name := "fnNumFloor", fn := fun _ => fun
  | [d] => { results := [.lit (.bool false)], args := [d] }
  | _ => none }
def FnNumFloorWrongFalsely : Prop := fnNumFloorRow.holds Try.pinned (OpenSpec.ofChange fnNumFloorWrong)

/-- 'laws.FnNumsRemoved': WHATEVER THE INPUT: true; the input reads as it did. -/
def fnNumsRemovedSpec : ChangeSpec := { name := "fnNumsRemoved", fn := fun _ => fun
  | [d1, d2, d3] => { results := [.lit (.bool true)], args := [d1, d2, d3] }
  | _ => none }
def fnNumsRemovedRow : OpenClaim := { program := "ytpehjcbjcenaeaa", sum := "4e5bab67f01c96c5a08c3247073ae38e5e8a52ea51038f93f10f409627ed37a6", func := "given.example/pub-rondel/laws.FnNumsRemoved", spec := "fnNumsRemoved", inPlace := ["math.Float64bits", "math.Float64frombits"], plainKeys := false, apart := false }
def FnNumsRemovedSaid : Prop := fnNumsRemovedRow.holds Try.pinned (OpenSpec.ofChange fnNumsRemovedSpec)

/-- ITS FALSE NEIGHBOUR: 'it returns false'. Refute it at one input. -/
def fnNumsRemovedWrong : ChangeSpec := { name := "fnNumsRemoved", fn := fun _ => fun
  | [d1, d2, d3] => { results := [.lit (.bool false)], args := [d1, d2, d3] }
  | _ => none }
def FnNumsRemovedWrongFalsely : Prop := fnNumsRemovedRow.holds Try.pinned (OpenSpec.ofChange fnNumsRemovedWrong)

/- THE SECOND FORM. 'bulk': how many values and letters a reading holds, each counted each time it is reached (what is shared counts as often as it is met; a slice's spare places count too). A statement '..UptoSaid' is the law's where the arguments, and the package variables that the reading takes, are together of bulk at most 1048576: NARROWER than '..Said'. Prove '..Said' where nothing that the law and all that it calls make is longer than what came in: it says more and counts as full. Else prove '..UptoSaid'. A law counts once. -/
mutual
def uptoBulk {H : Type} : DataW H → Nat
  | .lit (.string bytes) => bytes.length + 1
  | .lit _ => 1
  | .nil => 1
  | .ptr d => uptoBulk d + 1
  | .slice elems spare => uptoBulkAll elems + uptoBulkAll spare + 1
  | .agg parts => uptoBulkAll parts + 1
  | .iface _ d => uptoBulk d + 1
  | .map entries => uptoBulkEntries entries + 1
  | .held _ => 1
def uptoBulkAll {H : Type} : List (DataW H) → Nat
  | [] => 0
  | d :: r => uptoBulk d + uptoBulkAll r
def uptoBulkEntries {H : Type} : List (Lit × DataW H) → Nat
  | [] => 0
  | x :: r => uptoBulkEntry x + uptoBulkEntries r
def uptoBulkEntry {H : Type} : Lit × DataW H → Nat
  | (.string bytes, d) => bytes.length + uptoBulk d + 1
  | (_, d) => uptoBulk d + 1
 end
def uptoSmall : (H : Type) → List (DataW H) → Bool := fun _ ds => decide (uptoBulkAll ds ≤ 1048576)
def OpenSpec.upto (s : _root_.Go.ChangeSpec) : _root_.Go.OpenSpec := { _root_.Go.OpenSpec.ofChange s with cond := some uptoSmall }

/-- 'laws.FnLogic', WHERE WHAT IT READS IS OF BULK AT MOST 1048576: true; the input reads as it did. -/
def fnLogicUptoRow : OpenClaim := { program := "ytpehjcbjcenaeaa", sum := "4e5bab67f01c96c5a08c3247073ae38e5e8a52ea51038f93f10f409627ed37a6", func := "given.example/pub-rondel/laws.FnLogic", spec := "fnLogic", plainKeys := false, apart := false, narrowed := true }
def FnLogicUptoSaid : Prop := fnLogicUptoRow.holds Try.pinned (OpenSpec.upto fnLogicSpec)

/-- 'laws.FnNumMinus', WHERE WHAT IT READS IS OF BULK AT MOST 1048576: true; the input reads as it did. -/
def fnNumMinusUptoRow : OpenClaim := { program := "ytpehjcbjcenaeaa", sum := "4e5bab67f01c96c5a08c3247073ae38e5e8a52ea51038f93f10f409627ed37a6", func := "given.example/pub-rondel/laws.FnNumMinus", spec := "fnNumMinus", inPlace := ["math.Float64bits", "math.Float64frombits"], plainKeys := false, apart := false, narrowed := true }
def FnNumMinusUptoSaid : Prop := fnNumMinusUptoRow.holds Try.pinned (OpenSpec.upto fnNumMinusSpec)

/-- 'laws.FnNumInteger', WHERE WHAT IT READS IS OF BULK AT MOST 1048576: true; the input reads as it did. -/
def fnNumIntegerUptoRow : OpenClaim := { program := "ytpehjcbjcenaeaa", sum := "4e5bab67f01c96c5a08c3247073ae38e5e8a52ea51038f93f10f409627ed37a6", func := "given.example/pub-rondel/laws.FnNumInteger", spec := "fnNumInteger", inPlace := ["math.archTrunc", "math.Float64bits", "math.Float64frombits"], unfollowed := true, recurses := true, plainKeys := false, apart := false, narrowed := true }
def FnNumIntegerUptoSaid : Prop := fnNumIntegerUptoRow.holds Try.pinned (OpenSpec.upto fnNumIntegerSpec)

/-- 'laws.FnNumBitXor', WHERE WHAT IT READS IS OF BULK AT MOST 1048576: true; the input reads as it did. -/
def fnNumBitXorUptoRow : OpenClaim := { program := "ytpehjcbjcenaeaa", sum := "4e5bab67f01c96c5a08c3247073ae38e5e8a52ea51038f93f10f409627ed37a6", func := "given.example/pub-rondel/laws.FnNumBitXor", spec := "fnNumBitXor", inPlace := ["math.Float64bits", "math.Float64frombits", "math.archTrunc"], unfollowed := true, recurses := true, plainKeys := false, apart := false, narrowed := true }
def FnNumBitXorUptoSaid : Prop := fnNumBitXorUptoRow.holds Try.pinned (OpenSpec.upto fnNumBitXorSpec)

/-- 'laws.FnNumFloor', WHERE WHAT IT READS IS OF BULK AT MOST 1048576: true; the input reads as it did. -/
def fnNumFloorUptoRow : OpenClaim := { program := "ytpehjcbjcenaeaa", sum := "4e5bab67f01c96c5a08c3247073ae38e5e8a52ea51038f93f10f409627ed37a6", func := "given.example/pub-rondel/laws.FnNumFloor", spec := "fnNumFloor", inPlace := ["math.Float64bits", "math.Float64frombits", "math.archFloor", "math.archTrunc"], unfollowed := true, recurses := true, plainKeys := false, apart := false, narrowed := true }
def FnNumFloorUptoSaid : Prop := fnNumFloorUptoRow.holds Try.pinned (OpenSpec.upto fnNumFloorSpec)

/-- 'laws.FnNumsRemoved', WHERE WHAT IT READS IS OF BULK AT MOST 1048576: true; the input reads as it did. -/
def fnNumsRemovedUptoRow : OpenClaim := { program := "ytpehjcbjcenaeaa", sum := "4e5bab67f01c96c5a08c3247073ae38e5e8a52ea51038f93f10f409627ed37a6", func := "given.example/pub-rondel/laws.FnNumsRemoved", spec := "fnNumsRemoved", inPlace := ["math.Float64bits", "math.Float64frombits"], plainKeys := false, apart := false, narrowed := true }
def FnNumsRemovedUptoSaid : Prop := fnNumsRemovedUptoRow.holds Try.pinned (OpenSpec.upto fnNumsRemovedSpec)

end Rows
end Go.Proofs.Ytpehjcbjcenaeaa
