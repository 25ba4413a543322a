/-
  No cell of these rows narrows 'for every input' (looked for: loops, veiled, ifaces, maps, wideKeys, modest, calm, conditions, laid).
  DERIVED. THE GIVEN ROWS OF THIS SEAT. 14 by the template 'for every input the law returns true; each argument reads behind the call as it read before'; 0 by the template 'total and deterministic' (their statements: YtgkbkocakinmfaaTotals.lean).
  GIVEN WITH THE SEED: the statements are not yours to turn. If you find one false, say at which input.
  Laid BY PROGRAM, IN A SANDBOX (cutbox-rows.mjs): the forced cells as the released guide's own fill.sh prints them over the translation aa2391d69f4bae12… (all of the seat's roots in one cut). By AI agents, Wed Nov 11 2026. No macro, syntax, notation, axiom, sorry.
-/
import Derived.Test.YtgkbkocakinmfaaChecked
import GoSem.Claim
import GoSem.ClaimJoined
import GoSem.ClaimMapViews
import Derived.JoinedTies
import Derived.KernelRfl
namespace Go.Proofs.Ytgkbkocakinmfaa
/- THE CELL 'sum', in the pinned program and in every row, IS THE sha256 OF THE DUMP (.gsa) THAT YtgkbkocakinmfaaProg.lean LOADS. Nothing in Lean hashes anything: it is a label: what it is worth is what the hold of that sum in a sandbox is worth. -/
noncomputable def Try.pinned : Pinned := { name := "ytgkbkocakinmfaa", sum := "aa2391d69f4bae122618ccc7f7f42699062ed9647fcab6809dd1c4eefc86c26e", checked := Try.checked }
namespace Rows
def none {H : Type} : Left H := { results := [], args := [] }

/-- 'laws.FnRelSelf': WHATEVER THE INPUT: true; the input reads as it did. -/
def fnRelSelfSpec : ChangeSpec := { name := "fnRelSelf", fn := fun _ => fun
  | [d1, d2] => { results := [.lit (.bool true)], args := [d1, d2] }
  | _ => none }
def fnRelSelfRow : OpenClaim := { program := "ytgkbkocakinmfaa", sum := "aa2391d69f4bae122618ccc7f7f42699062ed9647fcab6809dd1c4eefc86c26e", func := "lib-greenlane/laws.FnRelSelf", spec := "fnRelSelf", inPlace := ["internal/bytealg.IndexByteString", "internal/bytealg.CountString"], apart := false }
def FnRelSelfSaid : Prop := fnRelSelfRow.holds Try.pinned (OpenSpec.ofChange fnRelSelfSpec)

/-- ITS FALSE NEIGHBOUR: 'it returns false'. Refute it at one input. -/
def fnRelSelfWrong : ChangeSpec := { name := "fnRelSelf", fn := fun _ => fun
  | [d1, d2] => { results := [.lit (.bool false)], args := [d1, d2] }
  | _ => none }
def FnRelSelfWrongFalsely : Prop := fnRelSelfRow.holds Try.pinned (OpenSpec.ofChange fnRelSelfWrong)

/-- 'laws.FnRelFromRoot': WHATEVER THE INPUT: true; the input reads as it did. -/
def fnRelFromRootSpec : ChangeSpec := { name := "fnRelFromRoot", fn := fun _ => fun
  | [d] => { results := [.lit (.bool true)], args := [d] }
  | _ => none }
def fnRelFromRootRow : OpenClaim := { program := "ytgkbkocakinmfaa", sum := "aa2391d69f4bae122618ccc7f7f42699062ed9647fcab6809dd1c4eefc86c26e", func := "lib-greenlane/laws.FnRelFromRoot", spec := "fnRelFromRoot", inPlace := ["internal/bytealg.IndexByteString", "internal/bytealg.CountString"], apart := false }
def FnRelFromRootSaid : Prop := fnRelFromRootRow.holds Try.pinned (OpenSpec.ofChange fnRelFromRootSpec)

/-- ITS FALSE NEIGHBOUR: 'it returns false'. Refute it at one input. -/
def fnRelFromRootWrong : ChangeSpec := { name := "fnRelFromRoot", fn := fun _ => fun
  | [d] => { results := [.lit (.bool false)], args := [d] }
  | _ => none }
def FnRelFromRootWrongFalsely : Prop := fnRelFromRootRow.holds Try.pinned (OpenSpec.ofChange fnRelFromRootWrong)

/-- 'laws.FnJoinOfRel': WHATEVER THE INPUT: true; the input reads as it did. -/
def fnJoinOfRelSpec : ChangeSpec := { name := "fnJoinOfRel", fn := fun _ => fun
  | [d1, d2, d3] => { results := [.lit (.bool true)], args := [d1, d2, d3] }
  | _ => none }
def fnJoinOfRelRow : OpenClaim := { program := "ytgkbkocakinmfaa", sum := "aa2391d69f4bae122618ccc7f7f42699062ed9647fcab6809dd1c4eefc86c26e", func := "lib-greenlane/laws.FnJoinOfRel", spec := "fnJoinOfRel", inPlace := ["internal/bytealg.IndexByteString", "internal/bytealg.CountString", "internal/abi.NoEscape", "internal/bytealg.MakeNoZero"], apart := false }
def FnJoinOfRelSaid : Prop := fnJoinOfRelRow.holds Try.pinned (OpenSpec.ofChange fnJoinOfRelSpec)

/-- ITS FALSE NEIGHBOUR: 'it returns false'. Refute it at one input. -/
def fnJoinOfRelWrong : ChangeSpec := { name := "fnJoinOfRel", fn := fun _ => fun
  | [d1, d2, d3] => { results := [.lit (.bool false)], args := [d1, d2, d3] }
  | _ => none }
def FnJoinOfRelWrongFalsely : Prop := fnJoinOfRelRow.holds Try.pinned (OpenSpec.ofChange fnJoinOfRelWrong)

/-- 'laws.FnRel': WHATEVER THE INPUT: true; the input reads as it did. -/
def fnRelSpec : ChangeSpec := { name := "fnRel", fn := fun _ => fun
  | [d1, d2] => { results := [.lit (.bool true)], args := [d1, d2] }
  | _ => none }
def fnRelRow : OpenClaim := { program := "ytgkbkocakinmfaa", sum := "aa2391d69f4bae122618ccc7f7f42699062ed9647fcab6809dd1c4eefc86c26e", func := "lib-greenlane/laws.FnRel", spec := "fnRel", inPlace := ["internal/bytealg.IndexByteString", "internal/bytealg.CountString", "internal/abi.NoEscape", "internal/bytealg.MakeNoZero"], apart := false }
def FnRelSaid : Prop := fnRelRow.holds Try.pinned (OpenSpec.ofChange fnRelSpec)

/-- ITS FALSE NEIGHBOUR: 'it returns false'. Refute it at one input. -/
def fnRelWrong : ChangeSpec := { name := "fnRel", fn := fun _ => fun
  | [d1, d2] => { results := [.lit (.bool false)], args := [d1, d2] }
  | _ => none }
def FnRelWrongFalsely : Prop := fnRelRow.holds Try.pinned (OpenSpec.ofChange fnRelWrong)

/-- 'laws.FnRelChain': WHATEVER THE INPUT: true; the input reads as it did. -/
def fnRelChainSpec : ChangeSpec := { name := "fnRelChain", fn := fun _ => fun
  | [d] => { results := [.lit (.bool true)], args := [d] }
  | _ => none }
def fnRelChainRow : OpenClaim := { program := "ytgkbkocakinmfaa", sum := "aa2391d69f4bae122618ccc7f7f42699062ed9647fcab6809dd1c4eefc86c26e", func := "lib-greenlane/laws.FnRelChain", spec := "fnRelChain", inPlace := ["internal/bytealg.IndexByteString", "internal/bytealg.CountString", "internal/abi.NoEscape", "internal/bytealg.MakeNoZero"], apart := false }
def FnRelChainSaid : Prop := fnRelChainRow.holds Try.pinned (OpenSpec.ofChange fnRelChainSpec)

/-- ITS FALSE NEIGHBOUR: 'it returns false'. Refute it at one input. -/
def fnRelChainWrong : ChangeSpec := { name := "fnRelChain", fn := fun _ => fun
  | [d] => { results := [.lit (.bool false)], args := [d] }
  | _ => none }
def FnRelChainWrongFalsely : Prop := fnRelChainRow.holds Try.pinned (OpenSpec.ofChange fnRelChainWrong)

/-- 'laws.FnRelChainOfRoots': WHATEVER THE INPUT: true; the input reads as it did. -/
def fnRelChainOfRootsSpec : ChangeSpec := { name := "fnRelChainOfRoots", fn := fun _ => fun
  | [d] => { results := [.lit (.bool true)], args := [d] }
  | _ => none }
def fnRelChainOfRootsRow : OpenClaim := { program := "ytgkbkocakinmfaa", sum := "aa2391d69f4bae122618ccc7f7f42699062ed9647fcab6809dd1c4eefc86c26e", func := "lib-greenlane/laws.FnRelChainOfRoots", spec := "fnRelChainOfRoots", inPlace := ["internal/bytealg.IndexByteString", "internal/bytealg.CountString", "internal/abi.NoEscape", "internal/bytealg.MakeNoZero"], apart := false }
def FnRelChainOfRootsSaid : Prop := fnRelChainOfRootsRow.holds Try.pinned (OpenSpec.ofChange fnRelChainOfRootsSpec)

/-- ITS FALSE NEIGHBOUR: 'it returns false'. Refute it at one input. -/
def fnRelChainOfRootsWrong : ChangeSpec := { name := "fnRelChainOfRoots", fn := fun _ => fun
  | [d] => { results := [.lit (.bool false)], args := [d] }
  | _ => none }
def FnRelChainOfRootsWrongFalsely : Prop := fnRelChainOfRootsRow.holds Try.pinned (OpenSpec.ofChange fnRelChainOfRootsWrong)

/-- 'laws.FnRelJoins': WHATEVER THE INPUT: true; the input reads as it did. -/
def fnRelJoinsSpec : ChangeSpec := { name := "fnRelJoins", fn := fun _ => fun
  | [d1, d2] => { results := [.lit (.bool true)], args := [d1, d2] }
  | _ => none }
def fnRelJoinsRow : OpenClaim := { program := "ytgkbkocakinmfaa", sum := "aa2391d69f4bae122618ccc7f7f42699062ed9647fcab6809dd1c4eefc86c26e", func := "lib-greenlane/laws.FnRelJoins", spec := "fnRelJoins", inPlace := ["internal/bytealg.IndexByteString", "internal/bytealg.CountString", "internal/abi.NoEscape", "internal/bytealg.MakeNoZero"], apart := false }
def FnRelJoinsSaid : Prop := fnRelJoinsRow.holds Try.pinned (OpenSpec.ofChange fnRelJoinsSpec)

/-- ITS FALSE NEIGHBOUR: 'it returns false'. Refute it at one input. -/
def fnRelJoinsWrong : ChangeSpec := { name := "fnRelJoins", fn := fun _ => fun
  | [d1, d2] => { results := [.lit (.bool false)], args := [d1, d2] }
  | _ => none }
def FnRelJoinsWrongFalsely : Prop := fnRelJoinsRow.holds Try.pinned (OpenSpec.ofChange fnRelJoinsWrong)

/-- 'laws.FnRelLeadsWhereItShould': WHATEVER THE INPUT: true; the input reads as it did. -/
def fnRelLeadsWhereItShouldSpec : ChangeSpec := { name := "fnRelLeadsWhereItShould", fn := fun _ => fun
  | [d1, d2] => { results := [.lit (.bool true)], args := [d1, d2] }
  | _ => none }
def fnRelLeadsWhereItShouldRow : OpenClaim := { program := "ytgkbkocakinmfaa", sum := "aa2391d69f4bae122618ccc7f7f42699062ed9647fcab6809dd1c4eefc86c26e", func := "lib-greenlane/laws.FnRelLeadsWhereItShould", spec := "fnRelLeadsWhereItShould", inPlace := ["internal/bytealg.IndexByteString", "internal/bytealg.CountString", "internal/abi.NoEscape", "internal/bytealg.MakeNoZero"], apart := false }
def FnRelLeadsWhereItShouldSaid : Prop := fnRelLeadsWhereItShouldRow.holds Try.pinned (OpenSpec.ofChange fnRelLeadsWhereItShouldSpec)

/-- ITS FALSE NEIGHBOUR: 'it returns false'. Refute it at one input. -/
def fnRelLeadsWhereItShouldWrong : ChangeSpec := { name := "fnRelLeadsWhereItShould", fn := fun _ => fun
  | [d1, d2] => { results := [.lit (.bool false)], args := [d1, d2] }
  | _ => none }
def FnRelLeadsWhereItShouldWrongFalsely : Prop := fnRelLeadsWhereItShouldRow.holds Try.pinned (OpenSpec.ofChange fnRelLeadsWhereItShouldWrong)

/-- 'laws.FnRelNamesDoNotMatter': WHATEVER THE INPUT: true; the input reads as it did. -/
def fnRelNamesDoNotMatterSpec : ChangeSpec := { name := "fnRelNamesDoNotMatter", fn := fun _ => fun
  | [d1, d2, d3, d4] => { results := [.lit (.bool true)], args := [d1, d2, d3, d4] }
  | _ => none }
def fnRelNamesDoNotMatterRow : OpenClaim := { program := "ytgkbkocakinmfaa", sum := "aa2391d69f4bae122618ccc7f7f42699062ed9647fcab6809dd1c4eefc86c26e", func := "lib-greenlane/laws.FnRelNamesDoNotMatter", spec := "fnRelNamesDoNotMatter", inPlace := ["internal/bytealg.IndexByteString", "internal/bytealg.CountString", "internal/abi.NoEscape", "internal/bytealg.MakeNoZero"], apart := false }
def FnRelNamesDoNotMatterSaid : Prop := fnRelNamesDoNotMatterRow.holds Try.pinned (OpenSpec.ofChange fnRelNamesDoNotMatterSpec)

/-- ITS FALSE NEIGHBOUR: 'it returns false'. Refute it at one input. -/
def fnRelNamesDoNotMatterWrong : ChangeSpec := { name := "fnRelNamesDoNotMatter", fn := fun _ => fun
  | [d1, d2, d3, d4] => { results := [.lit (.bool false)], args := [d1, d2, d3, d4] }
  | _ => none }
def FnRelNamesDoNotMatterWrongFalsely : Prop := fnRelNamesDoNotMatterRow.holds Try.pinned (OpenSpec.ofChange fnRelNamesDoNotMatterWrong)

/-- 'laws.FnRelOfClean': WHATEVER THE INPUT: true; the input reads as it did. -/
def fnRelOfCleanSpec : ChangeSpec := { name := "fnRelOfClean", fn := fun _ => fun
  | [d1, d2] => { results := [.lit (.bool true)], args := [d1, d2] }
  | _ => none }
def fnRelOfCleanRow : OpenClaim := { program := "ytgkbkocakinmfaa", sum := "aa2391d69f4bae122618ccc7f7f42699062ed9647fcab6809dd1c4eefc86c26e", func := "lib-greenlane/laws.FnRelOfClean", spec := "fnRelOfClean", inPlace := ["internal/bytealg.IndexByteString", "internal/bytealg.CountString", "internal/abi.NoEscape", "internal/bytealg.MakeNoZero"], apart := false }
def FnRelOfCleanSaid : Prop := fnRelOfCleanRow.holds Try.pinned (OpenSpec.ofChange fnRelOfCleanSpec)

/-- ITS FALSE NEIGHBOUR: 'it returns false'. Refute it at one input. -/
def fnRelOfCleanWrong : ChangeSpec := { name := "fnRelOfClean", fn := fun _ => fun
  | [d1, d2] => { results := [.lit (.bool false)], args := [d1, d2] }
  | _ => none }
def FnRelOfCleanWrongFalsely : Prop := fnRelOfCleanRow.holds Try.pinned (OpenSpec.ofChange fnRelOfCleanWrong)

/-- 'laws.FnRelIsClean': WHATEVER THE INPUT: true; the input reads as it did. -/
def fnRelIsCleanSpec : ChangeSpec := { name := "fnRelIsClean", fn := fun _ => fun
  | [d1, d2] => { results := [.lit (.bool true)], args := [d1, d2] }
  | _ => none }
def fnRelIsCleanRow : OpenClaim := { program := "ytgkbkocakinmfaa", sum := "aa2391d69f4bae122618ccc7f7f42699062ed9647fcab6809dd1c4eefc86c26e", func := "lib-greenlane/laws.FnRelIsClean", spec := "fnRelIsClean", inPlace := ["internal/bytealg.IndexByteString", "internal/bytealg.CountString", "internal/abi.NoEscape", "internal/bytealg.MakeNoZero"], apart := false }
def FnRelIsCleanSaid : Prop := fnRelIsCleanRow.holds Try.pinned (OpenSpec.ofChange fnRelIsCleanSpec)

/-- ITS FALSE NEIGHBOUR: 'it returns false'. Refute it at one input. -/
def fnRelIsCleanWrong : ChangeSpec := { name := "fnRelIsClean", fn := fun _ => fun
  | [d1, d2] => { results := [.lit (.bool false)], args := [d1, d2] }
  | _ => none }
def FnRelIsCleanWrongFalsely : Prop := fnRelIsCleanRow.holds Try.pinned (OpenSpec.ofChange fnRelIsCleanWrong)

/-- 'laws.FnRelOfSplit': WHATEVER THE INPUT: true; the input reads as it did. -/
def fnRelOfSplitSpec : ChangeSpec := { name := "fnRelOfSplit", fn := fun _ => fun
  | [d] => { results := [.lit (.bool true)], args := [d] }
  | _ => none }
def fnRelOfSplitRow : OpenClaim := { program := "ytgkbkocakinmfaa", sum := "aa2391d69f4bae122618ccc7f7f42699062ed9647fcab6809dd1c4eefc86c26e", func := "lib-greenlane/laws.FnRelOfSplit", spec := "fnRelOfSplit", inPlace := ["internal/bytealg.IndexByteString", "internal/bytealg.CountString", "internal/abi.NoEscape", "internal/bytealg.MakeNoZero"], apart := false }
def FnRelOfSplitSaid : Prop := fnRelOfSplitRow.holds Try.pinned (OpenSpec.ofChange fnRelOfSplitSpec)

/-- ITS FALSE NEIGHBOUR: 'it returns false'. Refute it at one input. -/
def fnRelOfSplitWrong : ChangeSpec := { name := "fnRelOfSplit", fn := fun _ => fun
  | [d] => { results := [.lit (.bool false)], args := [d] }
  | _ => none }
def FnRelOfSplitWrongFalsely : Prop := fnRelOfSplitRow.holds Try.pinned (OpenSpec.ofChange fnRelOfSplitWrong)

/-- 'laws.FnSplitOfRel': WHATEVER THE INPUT: true; the input reads as it did. -/
def fnSplitOfRelSpec : ChangeSpec := { name := "fnSplitOfRel", fn := fun _ => fun
  | [d1, d2] => { results := [.lit (.bool true)], args := [d1, d2] }
  | _ => none }
def fnSplitOfRelRow : OpenClaim := { program := "ytgkbkocakinmfaa", sum := "aa2391d69f4bae122618ccc7f7f42699062ed9647fcab6809dd1c4eefc86c26e", func := "lib-greenlane/laws.FnSplitOfRel", spec := "fnSplitOfRel", inPlace := ["internal/bytealg.IndexByteString", "internal/bytealg.CountString", "internal/abi.NoEscape", "internal/bytealg.MakeNoZero"], apart := false }
def FnSplitOfRelSaid : Prop := fnSplitOfRelRow.holds Try.pinned (OpenSpec.ofChange fnSplitOfRelSpec)

/-- ITS FALSE NEIGHBOUR: 'it returns false'. Refute it at one input. -/
def fnSplitOfRelWrong : ChangeSpec := { name := "fnSplitOfRel", fn := fun _ => fun
  | [d1, d2] => { results := [.lit (.bool false)], args := [d1, d2] }
  | _ => none }
def FnSplitOfRelWrongFalsely : Prop := fnSplitOfRelRow.holds Try.pinned (OpenSpec.ofChange fnSplitOfRelWrong)

/-- 'laws.FnRelOfDir': WHATEVER THE INPUT: true; the input reads as it did. -/
def fnRelOfDirSpec : ChangeSpec := { name := "fnRelOfDir", fn := fun _ => fun
  | [d] => { results := [.lit (.bool true)], args := [d] }
  | _ => none }
def fnRelOfDirRow : OpenClaim := { program := "ytgkbkocakinmfaa", sum := "aa2391d69f4bae122618ccc7f7f42699062ed9647fcab6809dd1c4eefc86c26e", func := "lib-greenlane/laws.FnRelOfDir", spec := "fnRelOfDir", inPlace := ["internal/bytealg.IndexByteString", "internal/bytealg.CountString", "internal/abi.NoEscape", "internal/bytealg.MakeNoZero"], apart := false }
def FnRelOfDirSaid : Prop := fnRelOfDirRow.holds Try.pinned (OpenSpec.ofChange fnRelOfDirSpec)

/-- ITS FALSE NEIGHBOUR: 'it returns false'. Refute it at one input. -/
def fnRelOfDirWrong : ChangeSpec := { name := "fnRelOfDir", fn := fun _ => fun
  | [d] => { results := [.lit (.bool false)], args := [d] }
  | _ => none }
def FnRelOfDirWrongFalsely : Prop := fnRelOfDirRow.holds Try.pinned (OpenSpec.ofChange fnRelOfDirWrong)

/- THE SECOND FORM. 'bulk': how many values and letters a reading holds, each counted each time it is reached (what is shared counts as often as it is met; a slice's spare places count too). A statement '..UptoSaid' is the law's where the arguments, and the package variables that the reading takes, are together of bulk at most 1048576: NARROWER than '..Said'. Prove '..Said' where nothing that the law and all that it calls make is longer than what came in: it says more and counts as full. Else prove '..UptoSaid'. A law counts once. -/
mutual
def uptoBulk {H : Type} : DataW H → Nat
  | .lit (.string bytes) => bytes.length + 1
  | .lit _ => 1
  | .nil => 1
  | .ptr d => uptoBulk d + 1
  | .slice elems spare => uptoBulkAll elems + uptoBulkAll spare + 1
  | .agg parts => uptoBulkAll parts + 1
  | .iface _ d => uptoBulk d + 1
  | .map entries => uptoBulkEntries entries + 1
  | .held _ => 1
def uptoBulkAll {H : Type} : List (DataW H) → Nat
  | [] => 0
  | d :: r => uptoBulk d + uptoBulkAll r
def uptoBulkEntries {H : Type} : List (Lit × DataW H) → Nat
  | [] => 0
  | x :: r => uptoBulkEntry x + uptoBulkEntries r
def uptoBulkEntry {H : Type} : Lit × DataW H → Nat
  | (.string bytes, d) => bytes.length + uptoBulk d + 1
  | (_, d) => uptoBulk d + 1
 end
def uptoSmall : (H : Type) → List (DataW H) → Bool := fun _ ds => decide (uptoBulkAll ds ≤ 1048576)
def OpenSpec.upto (s : _root_.Go.ChangeSpec) : _root_.Go.OpenSpec := { _root_.Go.OpenSpec.ofChange s with cond := some uptoSmall }

/-- 'laws.FnRelSelf', WHERE WHAT IT READS IS OF BULK AT MOST 1048576: true; the input reads as it did. -/
def fnRelSelfUptoRow : OpenClaim := { program := "ytgkbkocakinmfaa", sum := "aa2391d69f4bae122618ccc7f7f42699062ed9647fcab6809dd1c4eefc86c26e", func := "lib-greenlane/laws.FnRelSelf", spec := "fnRelSelf", inPlace := ["internal/bytealg.IndexByteString", "internal/bytealg.CountString"], apart := false, narrowed := true }
def FnRelSelfUptoSaid : Prop := fnRelSelfUptoRow.holds Try.pinned (OpenSpec.upto fnRelSelfSpec)

/-- 'laws.FnRelFromRoot', WHERE WHAT IT READS IS OF BULK AT MOST 1048576: true; the input reads as it did. -/
def fnRelFromRootUptoRow : OpenClaim := { program := "ytgkbkocakinmfaa", sum := "aa2391d69f4bae122618ccc7f7f42699062ed9647fcab6809dd1c4eefc86c26e", func := "lib-greenlane/laws.FnRelFromRoot", spec := "fnRelFromRoot", inPlace := ["internal/bytealg.IndexByteString", "internal/bytealg.CountString"], apart := false, narrowed := true }
def FnRelFromRootUptoSaid : Prop := fnRelFromRootUptoRow.holds Try.pinned (OpenSpec.upto fnRelFromRootSpec)

/-- 'laws.FnJoinOfRel', WHERE WHAT IT READS IS OF BULK AT MOST 1048576: true; the input reads as it did. -/
def fnJoinOfRelUptoRow : OpenClaim := { program := "ytgkbkocakinmfaa", sum := "aa2391d69f4bae122618ccc7f7f42699062ed9647fcab6809dd1c4eefc86c26e", func := "lib-greenlane/laws.FnJoinOfRel", spec := "fnJoinOfRel", inPlace := ["internal/bytealg.IndexByteString", "internal/bytealg.CountString", "internal/abi.NoEscape", "internal/bytealg.MakeNoZero"], apart := false, narrowed := true }
def FnJoinOfRelUptoSaid : Prop := fnJoinOfRelUptoRow.holds Try.pinned (OpenSpec.upto fnJoinOfRelSpec)

/-- 'laws.FnRel', WHERE WHAT IT READS IS OF BULK AT MOST 1048576: true; the input reads as it did. -/
def fnRelUptoRow : OpenClaim := { program := "ytgkbkocakinmfaa", sum := "aa2391d69f4bae122618ccc7f7f42699062ed9647fcab6809dd1c4eefc86c26e", func := "lib-greenlane/laws.FnRel", spec := "fnRel", inPlace := ["internal/bytealg.IndexByteString", "internal/bytealg.CountString", "internal/abi.NoEscape", "internal/bytealg.MakeNoZero"], apart := false, narrowed := true }
def FnRelUptoSaid : Prop := fnRelUptoRow.holds Try.pinned (OpenSpec.upto fnRelSpec)

/-- 'laws.FnRelChain', WHERE WHAT IT READS IS OF BULK AT MOST 1048576: true; the input reads as it did. -/
def fnRelChainUptoRow : OpenClaim := { program := "ytgkbkocakinmfaa", sum := "aa2391d69f4bae122618ccc7f7f42699062ed9647fcab6809dd1c4eefc86c26e", func := "lib-greenlane/laws.FnRelChain", spec := "fnRelChain", inPlace := ["internal/bytealg.IndexByteString", "internal/bytealg.CountString", "internal/abi.NoEscape", "internal/bytealg.MakeNoZero"], apart := false, narrowed := true }
def FnRelChainUptoSaid : Prop := fnRelChainUptoRow.holds Try.pinned (OpenSpec.upto fnRelChainSpec)

/-- 'laws.FnRelChainOfRoots', WHERE WHAT IT READS IS OF BULK AT MOST 1048576: true; the input reads as it did. -/
def fnRelChainOfRootsUptoRow : OpenClaim := { program := "ytgkbkocakinmfaa", sum := "aa2391d69f4bae122618ccc7f7f42699062ed9647fcab6809dd1c4eefc86c26e", func := "lib-greenlane/laws.FnRelChainOfRoots", spec := "fnRelChainOfRoots", inPlace := ["internal/bytealg.IndexByteString", "internal/bytealg.CountString", "internal/abi.NoEscape", "internal/bytealg.MakeNoZero"], apart := false, narrowed := true }
def FnRelChainOfRootsUptoSaid : Prop := fnRelChainOfRootsUptoRow.holds Try.pinned (OpenSpec.upto fnRelChainOfRootsSpec)

/-- 'laws.FnRelJoins', WHERE WHAT IT READS IS OF BULK AT MOST 1048576: true; the input reads as it did. -/
def fnRelJoinsUptoRow : OpenClaim := { program := "ytgkbkocakinmfaa", sum := "aa2391d69f4bae122618ccc7f7f42699062ed9647fcab6809dd1c4eefc86c26e", func := "lib-greenlane/laws.FnRelJoins", spec := "fnRelJoins", inPlace := ["internal/bytealg.IndexByteString", "internal/bytealg.CountString", "internal/abi.NoEscape", "internal/bytealg.MakeNoZero"], apart := false, narrowed := true }
def FnRelJoinsUptoSaid : Prop := fnRelJoinsUptoRow.holds Try.pinned (OpenSpec.upto fnRelJoinsSpec)

/-- 'laws.FnRelLeadsWhereItShould', WHERE WHAT IT READS IS OF BULK AT MOST 1048576: true; the input reads as it did. -/
def fnRelLeadsWhereItShouldUptoRow : OpenClaim := { program := "ytgkbkocakinmfaa", sum := "aa2391d69f4bae122618ccc7f7f42699062ed9647fcab6809dd1c4eefc86c26e", func := "lib-greenlane/laws.FnRelLeadsWhereItShould", spec := "fnRelLeadsWhereItShould", inPlace := ["internal/bytealg.IndexByteString", "internal/bytealg.CountString", "internal/abi.NoEscape", "internal/bytealg.MakeNoZero"], apart := false, narrowed := true }
def FnRelLeadsWhereItShouldUptoSaid : Prop := fnRelLeadsWhereItShouldUptoRow.holds Try.pinned (OpenSpec.upto fnRelLeadsWhereItShouldSpec)

/-- 'laws.FnRelNamesDoNotMatter', WHERE WHAT IT READS IS OF BULK AT MOST 1048576: true; the input reads as it did. -/
def fnRelNamesDoNotMatterUptoRow : OpenClaim := { program := "ytgkbkocakinmfaa", sum := "aa2391d69f4bae122618ccc7f7f42699062ed9647fcab6809dd1c4eefc86c26e", func := "lib-greenlane/laws.FnRelNamesDoNotMatter", spec := "fnRelNamesDoNotMatter", inPlace := ["internal/bytealg.IndexByteString", "internal/bytealg.CountString", "internal/abi.NoEscape", "internal/bytealg.MakeNoZero"], apart := false, narrowed := true }
def FnRelNamesDoNotMatterUptoSaid : Prop := fnRelNamesDoNotMatterUptoRow.holds Try.pinned (OpenSpec.upto fnRelNamesDoNotMatterSpec)

/-- 'laws.FnRelOfClean', WHERE WHAT IT READS IS OF BULK AT MOST 1048576: true; the input reads as it did. -/
def fnRelOfCleanUptoRow : OpenClaim := { program := "ytgkbkocakinmfaa", sum := "aa2391d69f4bae122618ccc7f7f42699062ed9647fcab6809dd1c4eefc86c26e", func := "lib-greenlane/laws.FnRelOfClean", spec := "fnRelOfClean", inPlace := ["internal/bytealg.IndexByteString", "internal/bytealg.CountString", "internal/abi.NoEscape", "internal/bytealg.MakeNoZero"], apart := false, narrowed := true }
def FnRelOfCleanUptoSaid : Prop := fnRelOfCleanUptoRow.holds Try.pinned (OpenSpec.upto fnRelOfCleanSpec)

/-- 'laws.FnRelIsClean', WHERE WHAT IT READS IS OF BULK AT MOST 1048576: true; the input reads as it did. -/
def fnRelIsCleanUptoRow : OpenClaim := { program := "ytgkbkocakinmfaa", sum := "aa2391d69f4bae122618ccc7f7f42699062ed9647fcab6809dd1c4eefc86c26e", func := "lib-greenlane/laws.FnRelIsClean", spec := "fnRelIsClean", inPlace := ["internal/bytealg.IndexByteString", "internal/bytealg.CountString", "internal/abi.NoEscape", "internal/bytealg.MakeNoZero"], apart := false, narrowed := true }
def FnRelIsCleanUptoSaid : Prop := fnRelIsCleanUptoRow.holds Try.pinned (OpenSpec.upto fnRelIsCleanSpec)

/-- 'laws.FnRelOfSplit', WHERE WHAT IT READS IS OF BULK AT MOST 1048576: true; the input reads as it did. -/
def fnRelOfSplitUptoRow : OpenClaim := { program := "ytgkbkocakinmfaa", sum := "aa2391d69f4bae122618ccc7f7f42699062ed9647fcab6809dd1c4eefc86c26e", func := "lib-greenlane/laws.FnRelOfSplit", spec := "fnRelOfSplit", inPlace := ["internal/bytealg.IndexByteString", "internal/bytealg.CountString", "internal/abi.NoEscape", "internal/bytealg.MakeNoZero"], apart := false, narrowed := true }
def FnRelOfSplitUptoSaid : Prop := fnRelOfSplitUptoRow.holds Try.pinned (OpenSpec.upto fnRelOfSplitSpec)

/-- 'laws.FnSplitOfRel', WHERE WHAT IT READS IS OF BULK AT MOST 1048576: true; the input reads as it did. -/
def fnSplitOfRelUptoRow : OpenClaim := { program := "ytgkbkocakinmfaa", sum := "aa2391d69f4bae122618ccc7f7f42699062ed9647fcab6809dd1c4eefc86c26e", func := "lib-greenlane/laws.FnSplitOfRel", spec := "fnSplitOfRel", inPlace := ["internal/bytealg.IndexByteString", "internal/bytealg.CountString", "internal/abi.NoEscape", "internal/bytealg.MakeNoZero"], apart := false, narrowed := true }
def FnSplitOfRelUptoSaid : Prop := fnSplitOfRelUptoRow.holds Try.pinned (OpenSpec.upto fnSplitOfRelSpec)

/-- 'laws.FnRelOfDir', WHERE WHAT IT READS IS OF BULK AT MOST 1048576: true; the input reads as it did. -/
def fnRelOfDirUptoRow : OpenClaim := { program := "ytgkbkocakinmfaa", sum := "aa2391d69f4bae122618ccc7f7f42699062ed9647fcab6809dd1c4eefc86c26e", func := "lib-greenlane/laws.FnRelOfDir", spec := "fnRelOfDir", inPlace := ["internal/bytealg.IndexByteString", "internal/bytealg.CountString", "internal/abi.NoEscape", "internal/bytealg.MakeNoZero"], apart := false, narrowed := true }
def FnRelOfDirUptoSaid : Prop := fnRelOfDirUptoRow.holds Try.pinned (OpenSpec.upto fnRelOfDirSpec)

end Rows
end Go.Proofs.Ytgkbkocakinmfaa
