/-
  NARROWER THAN 'FOR EVERY INPUT', by the rows' own cells (each row's printed sentence says how): FnRelErrors: laid · FnRelFewest: laid · FnRelBelow: laid · FnRelByDirs: laid · FnRelJoined: laid · FnRelPrefix: laid · FnRelSteps: laid · FnRelThereAndBack: laid · FnRelTriangle: laid · FnRelBothWays: laid.
  DERIVED. THE GIVEN ROWS OF THIS SEAT. 10 by the template 'for every input the law returns true; each argument reads behind the call as it read before'; 0 by the template 'total and deterministic' (their statements: YtgkbkocakinmfaaDoorTotals.lean).
  GIVEN WITH THE SEED: the statements are not yours to turn. If you find one false, say at which input.
  Laid BY PROGRAM, IN A SANDBOX (cutbox-rows.mjs): the forced cells as the released guide's own fill.sh prints them over the translation d71d708c7d3bb3ed… (all of the seat's roots in one cut). By AI agents, Wed Nov 11 2026. No macro, syntax, notation, axiom, sorry.
-/
import Derived.Test.YtgkbkocakinmfaaDoorChecked
import GoSem.PinnedTables
import GoSem.Claim
import GoSem.ClaimJoined
import GoSem.ClaimMapViews
import Derived.JoinedTies
import Derived.KernelRfl
namespace Go.Proofs.YtgkbkocakinmfaaDoor
/- THE CELL 'sum', in the pinned program and in every row, IS THE sha256 OF THE DUMP (.gsa) THAT YtgkbkocakinmfaaDoorProg.lean LOADS. Nothing in Lean hashes anything: it is a label: what it is worth is what the hold of that sum in a sandbox is worth. -/
noncomputable def Tryd.pinned : Pinned := { name := "ytgkbkocakinmfaadoor", sum := "d71d708c7d3bb3edd0e824f3a179c2ea427e2583035efda5fef8984d78329aa7", checked := Tryd.checked }
namespace Rows
def none {H : Type} : Left H := { results := [], args := [] }

/- WHAT THE LISTED PACKAGE-LEVEL VARIABLES READ AS WHEN THE CALL BEGINS. Each datum BY PROGRAM (the guide's laid-datum.mjs) off the statement by which the dump's own 'gosem.cut.vars' lays the variable. In a bare row this is a premise. The card (YtgkbkocakinmfaaDoorCards.lean) ties it to the program's text. -/
def laid_unicode_utf8_acceptRanges {H : Type} : DataW H := .agg [.agg [.lit (.int .u8 128), .lit (.int .u8 191)], .agg [.lit (.int .u8 160), .lit (.int .u8 191)], .agg [.lit (.int .u8 128), .lit (.int .u8 159)], .agg [.lit (.int .u8 144), .lit (.int .u8 191)], .agg [.lit (.int .u8 128), .lit (.int .u8 143)], .agg [.lit (.int .u8 0), .lit (.int .u8 0)], .agg [.lit (.int .u8 0), .lit (.int .u8 0)], .agg [.lit (.int .u8 0), .lit (.int .u8 0)], .agg [.lit (.int .u8 0), .lit (.int .u8 0)], .agg [.lit (.int .u8 0), .lit (.int .u8 0)], .agg [.lit (.int .u8 0), .lit (.int .u8 0)], .agg [.lit (.int .u8 0), .lit (.int .u8 0)], .agg [.lit (.int .u8 0), .lit (.int .u8 0)], .agg [.lit (.int .u8 0), .lit (.int .u8 0)], .agg [.lit (.int .u8 0), .lit (.int .u8 0)], .agg [.lit (.int .u8 0), .lit (.int .u8 0)]]
/-- One of Go's own tables, pinned by name: the form's constant. -/
def laid_unicode_utf8_first : DataW Unit := Go.Pinned.utf8First

/-- 'laws.FnRelErrors': WHATEVER THE INPUT: true; the input reads as it did. -/
def fnRelErrorsSpec : ChangeSpec := { name := "fnRelErrors", fn := fun _ => fun
  | [d1, d2] => { results := [.lit (.bool true)], args := [d1, d2] }
  | _ => none }
def fnRelErrorsRow : OpenClaim := { program := "ytgkbkocakinmfaadoor", sum := "d71d708c7d3bb3edd0e824f3a179c2ea427e2583035efda5fef8984d78329aa7", func := "lib-greenlane/laws.FnRelErrors", spec := "fnRelErrors", inPlace := ["internal/bytealg.IndexByteString", "internal/bytealg.CountString", "internal/abi.NoEscape", "internal/bytealg.MakeNoZero", "internal/bytealg.IndexString"], named := ["unicode/utf8.first", "unicode/utf8.acceptRanges", "internal/bytealg.MaxLen"], apart := false, laid := [("unicode/utf8.acceptRanges", laid_unicode_utf8_acceptRanges), ("unicode/utf8.first", laid_unicode_utf8_first)] }
def FnRelErrorsSaid : Prop := fnRelErrorsRow.holds Tryd.pinned (OpenSpec.ofChange fnRelErrorsSpec)

/-- ITS FALSE NEIGHBOUR: 'it returns false'. Refute it at one input. -/
def fnRelErrorsWrong : ChangeSpec := { name := "fnRelErrors", fn := fun _ => fun
  | [d1, d2] => { results := [.lit (.bool false)], args := [d1, d2] }
  | _ => none }
def FnRelErrorsWrongFalsely : Prop := fnRelErrorsRow.holds Tryd.pinned (OpenSpec.ofChange fnRelErrorsWrong)

/-- 'laws.FnRelFewest': WHATEVER THE INPUT: true; the input reads as it did. -/
def fnRelFewestSpec : ChangeSpec := { name := "fnRelFewest", fn := fun _ => fun
  | [d1, d2, d3] => { results := [.lit (.bool true)], args := [d1, d2, d3] }
  | _ => none }
def fnRelFewestRow : OpenClaim := { program := "ytgkbkocakinmfaadoor", sum := "d71d708c7d3bb3edd0e824f3a179c2ea427e2583035efda5fef8984d78329aa7", func := "lib-greenlane/laws.FnRelFewest", spec := "fnRelFewest", inPlace := ["internal/bytealg.IndexByteString", "internal/bytealg.CountString", "internal/abi.NoEscape", "internal/bytealg.MakeNoZero", "internal/bytealg.IndexString"], named := ["unicode/utf8.first", "unicode/utf8.acceptRanges", "internal/bytealg.MaxLen"], apart := false, laid := [("unicode/utf8.acceptRanges", laid_unicode_utf8_acceptRanges), ("unicode/utf8.first", laid_unicode_utf8_first)] }
def FnRelFewestSaid : Prop := fnRelFewestRow.holds Tryd.pinned (OpenSpec.ofChange fnRelFewestSpec)

/-- ITS FALSE NEIGHBOUR: 'it returns false'. Refute it at one input. -/
def fnRelFewestWrong : ChangeSpec := { name := "fnRelFewest", fn := fun _ => fun
  | [d1, d2, d3] => { results := [.lit (.bool false)], args := [d1, d2, d3] }
  | _ => none }
def FnRelFewestWrongFalsely : Prop := fnRelFewestRow.holds Tryd.pinned (OpenSpec.ofChange fnRelFewestWrong)

/-- 'laws.FnRelBelow': WHATEVER THE INPUT: true; the input reads as it did. -/
def fnRelBelowSpec : ChangeSpec := { name := "fnRelBelow", fn := fun _ => fun
  | [d1, d2] => { results := [.lit (.bool true)], args := [d1, d2] }
  | _ => none }
def fnRelBelowRow : OpenClaim := { program := "ytgkbkocakinmfaadoor", sum := "d71d708c7d3bb3edd0e824f3a179c2ea427e2583035efda5fef8984d78329aa7", func := "lib-greenlane/laws.FnRelBelow", spec := "fnRelBelow", inPlace := ["internal/bytealg.IndexByteString", "internal/bytealg.CountString", "internal/abi.NoEscape", "internal/bytealg.MakeNoZero", "internal/bytealg.IndexString"], named := ["unicode/utf8.first", "unicode/utf8.acceptRanges", "internal/bytealg.MaxLen"], apart := false, laid := [("unicode/utf8.acceptRanges", laid_unicode_utf8_acceptRanges), ("unicode/utf8.first", laid_unicode_utf8_first)] }
def FnRelBelowSaid : Prop := fnRelBelowRow.holds Tryd.pinned (OpenSpec.ofChange fnRelBelowSpec)

/-- ITS FALSE NEIGHBOUR: 'it returns false'. Refute it at one input. -/
def fnRelBelowWrong : ChangeSpec := { name := "fnRelBelow", fn := fun _ => fun
  | [d1, d2] => { results := [.lit (.bool false)], args := [d1, d2] }
  | _ => none }
def FnRelBelowWrongFalsely : Prop := fnRelBelowRow.holds Tryd.pinned (OpenSpec.ofChange fnRelBelowWrong)

/-- 'laws.FnRelByDirs': WHATEVER THE INPUT: true; the input reads as it did. -/
def fnRelByDirsSpec : ChangeSpec := { name := "fnRelByDirs", fn := fun _ => fun
  | [d1, d2] => { results := [.lit (.bool true)], args := [d1, d2] }
  | _ => none }
def fnRelByDirsRow : OpenClaim := { program := "ytgkbkocakinmfaadoor", sum := "d71d708c7d3bb3edd0e824f3a179c2ea427e2583035efda5fef8984d78329aa7", func := "lib-greenlane/laws.FnRelByDirs", spec := "fnRelByDirs", inPlace := ["internal/bytealg.IndexByteString", "internal/bytealg.CountString", "internal/bytealg.IndexString"], named := ["unicode/utf8.first", "unicode/utf8.acceptRanges", "internal/bytealg.MaxLen"], apart := false, laid := [("unicode/utf8.acceptRanges", laid_unicode_utf8_acceptRanges), ("unicode/utf8.first", laid_unicode_utf8_first)] }
def FnRelByDirsSaid : Prop := fnRelByDirsRow.holds Tryd.pinned (OpenSpec.ofChange fnRelByDirsSpec)

/-- ITS FALSE NEIGHBOUR: 'it returns false'. Refute it at one input. -/
def fnRelByDirsWrong : ChangeSpec := { name := "fnRelByDirs", fn := fun _ => fun
  | [d1, d2] => { results := [.lit (.bool false)], args := [d1, d2] }
  | _ => none }
def FnRelByDirsWrongFalsely : Prop := fnRelByDirsRow.holds Tryd.pinned (OpenSpec.ofChange fnRelByDirsWrong)

/-- 'laws.FnRelJoined': WHATEVER THE INPUT: true; the input reads as it did. -/
def fnRelJoinedSpec : ChangeSpec := { name := "fnRelJoined", fn := fun _ => fun
  | [d1, d2] => { results := [.lit (.bool true)], args := [d1, d2] }
  | _ => none }
def fnRelJoinedRow : OpenClaim := { program := "ytgkbkocakinmfaadoor", sum := "d71d708c7d3bb3edd0e824f3a179c2ea427e2583035efda5fef8984d78329aa7", func := "lib-greenlane/laws.FnRelJoined", spec := "fnRelJoined", inPlace := ["internal/bytealg.CountString", "internal/bytealg.IndexByteString", "internal/bytealg.IndexString", "internal/abi.NoEscape", "internal/bytealg.MakeNoZero"], named := ["unicode/utf8.first", "unicode/utf8.acceptRanges", "internal/bytealg.MaxLen"], apart := false, laid := [("unicode/utf8.acceptRanges", laid_unicode_utf8_acceptRanges), ("unicode/utf8.first", laid_unicode_utf8_first)] }
def FnRelJoinedSaid : Prop := fnRelJoinedRow.holds Tryd.pinned (OpenSpec.ofChange fnRelJoinedSpec)

/-- ITS FALSE NEIGHBOUR: 'it returns false'. Refute it at one input. -/
def fnRelJoinedWrong : ChangeSpec := { name := "fnRelJoined", fn := fun _ => fun
  | [d1, d2] => { results := [.lit (.bool false)], args := [d1, d2] }
  | _ => none }
def FnRelJoinedWrongFalsely : Prop := fnRelJoinedRow.holds Tryd.pinned (OpenSpec.ofChange fnRelJoinedWrong)

/-- 'laws.FnRelPrefix': WHATEVER THE INPUT: true; the input reads as it did. -/
def fnRelPrefixSpec : ChangeSpec := { name := "fnRelPrefix", fn := fun _ => fun
  | [d1, d2, d3] => { results := [.lit (.bool true)], args := [d1, d2, d3] }
  | _ => none }
def fnRelPrefixRow : OpenClaim := { program := "ytgkbkocakinmfaadoor", sum := "d71d708c7d3bb3edd0e824f3a179c2ea427e2583035efda5fef8984d78329aa7", func := "lib-greenlane/laws.FnRelPrefix", spec := "fnRelPrefix", inPlace := ["internal/bytealg.CountString", "internal/bytealg.IndexByteString", "internal/bytealg.IndexString", "internal/abi.NoEscape", "internal/bytealg.MakeNoZero"], named := ["unicode/utf8.first", "unicode/utf8.acceptRanges", "internal/bytealg.MaxLen"], apart := false, laid := [("unicode/utf8.acceptRanges", laid_unicode_utf8_acceptRanges), ("unicode/utf8.first", laid_unicode_utf8_first)] }
def FnRelPrefixSaid : Prop := fnRelPrefixRow.holds Tryd.pinned (OpenSpec.ofChange fnRelPrefixSpec)

/-- ITS FALSE NEIGHBOUR: 'it returns false'. Refute it at one input. -/
def fnRelPrefixWrong : ChangeSpec := { name := "fnRelPrefix", fn := fun _ => fun
  | [d1, d2, d3] => { results := [.lit (.bool false)], args := [d1, d2, d3] }
  | _ => none }
def FnRelPrefixWrongFalsely : Prop := fnRelPrefixRow.holds Tryd.pinned (OpenSpec.ofChange fnRelPrefixWrong)

/-- 'laws.FnRelSteps': WHATEVER THE INPUT: true; the input reads as it did. -/
def fnRelStepsSpec : ChangeSpec := { name := "fnRelSteps", fn := fun _ => fun
  | [d1, d2] => { results := [.lit (.bool true)], args := [d1, d2] }
  | _ => none }
def fnRelStepsRow : OpenClaim := { program := "ytgkbkocakinmfaadoor", sum := "d71d708c7d3bb3edd0e824f3a179c2ea427e2583035efda5fef8984d78329aa7", func := "lib-greenlane/laws.FnRelSteps", spec := "fnRelSteps", inPlace := ["internal/bytealg.IndexByteString", "internal/bytealg.CountString", "internal/abi.NoEscape", "internal/bytealg.MakeNoZero", "internal/bytealg.IndexString"], named := ["unicode/utf8.first", "unicode/utf8.acceptRanges", "internal/bytealg.MaxLen"], apart := false, laid := [("unicode/utf8.acceptRanges", laid_unicode_utf8_acceptRanges), ("unicode/utf8.first", laid_unicode_utf8_first)] }
def FnRelStepsSaid : Prop := fnRelStepsRow.holds Tryd.pinned (OpenSpec.ofChange fnRelStepsSpec)

/-- ITS FALSE NEIGHBOUR: 'it returns false'. Refute it at one input. -/
def fnRelStepsWrong : ChangeSpec := { name := "fnRelSteps", fn := fun _ => fun
  | [d1, d2] => { results := [.lit (.bool false)], args := [d1, d2] }
  | _ => none }
def FnRelStepsWrongFalsely : Prop := fnRelStepsRow.holds Tryd.pinned (OpenSpec.ofChange fnRelStepsWrong)

/-- 'laws.FnRelThereAndBack': WHATEVER THE INPUT: true; the input reads as it did. -/
def fnRelThereAndBackSpec : ChangeSpec := { name := "fnRelThereAndBack", fn := fun _ => fun
  | [d1, d2] => { results := [.lit (.bool true)], args := [d1, d2] }
  | _ => none }
def fnRelThereAndBackRow : OpenClaim := { program := "ytgkbkocakinmfaadoor", sum := "d71d708c7d3bb3edd0e824f3a179c2ea427e2583035efda5fef8984d78329aa7", func := "lib-greenlane/laws.FnRelThereAndBack", spec := "fnRelThereAndBack", inPlace := ["internal/bytealg.IndexByteString", "internal/bytealg.CountString", "internal/abi.NoEscape", "internal/bytealg.MakeNoZero", "internal/bytealg.IndexString"], named := ["unicode/utf8.first", "unicode/utf8.acceptRanges", "internal/bytealg.MaxLen"], apart := false, laid := [("unicode/utf8.acceptRanges", laid_unicode_utf8_acceptRanges), ("unicode/utf8.first", laid_unicode_utf8_first)] }
def FnRelThereAndBackSaid : Prop := fnRelThereAndBackRow.holds Tryd.pinned (OpenSpec.ofChange fnRelThereAndBackSpec)

/-- ITS FALSE NEIGHBOUR: 'it returns false'. Refute it at one input. -/
def fnRelThereAndBackWrong : ChangeSpec := { name := "fnRelThereAndBack", fn := fun _ => fun
  | [d1, d2] => { results := [.lit (.bool false)], args := [d1, d2] }
  | _ => none }
def FnRelThereAndBackWrongFalsely : Prop := fnRelThereAndBackRow.holds Tryd.pinned (OpenSpec.ofChange fnRelThereAndBackWrong)

/-- 'laws.FnRelTriangle': WHATEVER THE INPUT: true; the input reads as it did. -/
def fnRelTriangleSpec : ChangeSpec := { name := "fnRelTriangle", fn := fun _ => fun
  | [d1, d2, d3] => { results := [.lit (.bool true)], args := [d1, d2, d3] }
  | _ => none }
def fnRelTriangleRow : OpenClaim := { program := "ytgkbkocakinmfaadoor", sum := "d71d708c7d3bb3edd0e824f3a179c2ea427e2583035efda5fef8984d78329aa7", func := "lib-greenlane/laws.FnRelTriangle", spec := "fnRelTriangle", inPlace := ["internal/bytealg.IndexByteString", "internal/bytealg.CountString", "internal/abi.NoEscape", "internal/bytealg.MakeNoZero", "internal/bytealg.IndexString"], named := ["unicode/utf8.first", "unicode/utf8.acceptRanges", "internal/bytealg.MaxLen"], apart := false, laid := [("unicode/utf8.acceptRanges", laid_unicode_utf8_acceptRanges), ("unicode/utf8.first", laid_unicode_utf8_first)] }
def FnRelTriangleSaid : Prop := fnRelTriangleRow.holds Tryd.pinned (OpenSpec.ofChange fnRelTriangleSpec)

/-- ITS FALSE NEIGHBOUR: 'it returns false'. Refute it at one input. -/
def fnRelTriangleWrong : ChangeSpec := { name := "fnRelTriangle", fn := fun _ => fun
  | [d1, d2, d3] => { results := [.lit (.bool false)], args := [d1, d2, d3] }
  | _ => none }
def FnRelTriangleWrongFalsely : Prop := fnRelTriangleRow.holds Tryd.pinned (OpenSpec.ofChange fnRelTriangleWrong)

/-- 'laws.FnRelBothWays': WHATEVER THE INPUT: true; the input reads as it did. -/
def fnRelBothWaysSpec : ChangeSpec := { name := "fnRelBothWays", fn := fun _ => fun
  | [d1, d2] => { results := [.lit (.bool true)], args := [d1, d2] }
  | _ => none }
def fnRelBothWaysRow : OpenClaim := { program := "ytgkbkocakinmfaadoor", sum := "d71d708c7d3bb3edd0e824f3a179c2ea427e2583035efda5fef8984d78329aa7", func := "lib-greenlane/laws.FnRelBothWays", spec := "fnRelBothWays", inPlace := ["internal/bytealg.IndexByteString", "internal/bytealg.CountString", "internal/bytealg.IndexString", "internal/abi.NoEscape", "internal/bytealg.MakeNoZero"], named := ["unicode/utf8.first", "unicode/utf8.acceptRanges", "internal/bytealg.MaxLen"], apart := false, laid := [("unicode/utf8.acceptRanges", laid_unicode_utf8_acceptRanges), ("unicode/utf8.first", laid_unicode_utf8_first)] }
def FnRelBothWaysSaid : Prop := fnRelBothWaysRow.holds Tryd.pinned (OpenSpec.ofChange fnRelBothWaysSpec)

/-- ITS FALSE NEIGHBOUR: 'it returns false'. Refute it at one input. -/
def fnRelBothWaysWrong : ChangeSpec := { name := "fnRelBothWays", fn := fun _ => fun
  | [d1, d2] => { results := [.lit (.bool false)], args := [d1, d2] }
  | _ => none }
def FnRelBothWaysWrongFalsely : Prop := fnRelBothWaysRow.holds Tryd.pinned (OpenSpec.ofChange fnRelBothWaysWrong)

/- THE SECOND FORM. 'bulk': how many values and letters a reading holds, each counted each time it is reached (what is shared counts as often as it is met; a slice's spare places count too). A statement '..UptoSaid' is the law's where the arguments, and the package variables that the reading takes, are together of bulk at most 1048576: NARROWER than '..Said'. Prove '..Said' where nothing that the law and all that it calls make is longer than what came in: it says more and counts as full. Else prove '..UptoSaid'. A law counts once. -/
mutual
def uptoBulk {H : Type} : DataW H → Nat
  | .lit (.string bytes) => bytes.length + 1
  | .lit _ => 1
  | .nil => 1
  | .ptr d => uptoBulk d + 1
  | .slice elems spare => uptoBulkAll elems + uptoBulkAll spare + 1
  | .agg parts => uptoBulkAll parts + 1
  | .iface _ d => uptoBulk d + 1
  | .map entries => uptoBulkEntries entries + 1
  | .held _ => 1
def uptoBulkAll {H : Type} : List (DataW H) → Nat
  | [] => 0
  | d :: r => uptoBulk d + uptoBulkAll r
def uptoBulkEntries {H : Type} : List (Lit × DataW H) → Nat
  | [] => 0
  | x :: r => uptoBulkEntry x + uptoBulkEntries r
def uptoBulkEntry {H : Type} : Lit × DataW H → Nat
  | (.string bytes, d) => bytes.length + uptoBulk d + 1
  | (_, d) => uptoBulk d + 1
 end
def uptoSmall : (H : Type) → List (DataW H) → Bool := fun _ ds => decide (uptoBulkAll ds ≤ 1048576)
def OpenSpec.upto (s : _root_.Go.ChangeSpec) : _root_.Go.OpenSpec := { _root_.Go.OpenSpec.ofChange s with cond := some uptoSmall }

/-- 'laws.FnRelErrors', WHERE WHAT IT READS IS OF BULK AT MOST 1048576: true; the input reads as it did. -/
def fnRelErrorsUptoRow : OpenClaim := { program := "ytgkbkocakinmfaadoor", sum := "d71d708c7d3bb3edd0e824f3a179c2ea427e2583035efda5fef8984d78329aa7", func := "lib-greenlane/laws.FnRelErrors", spec := "fnRelErrors", inPlace := ["internal/bytealg.IndexByteString", "internal/bytealg.CountString", "internal/abi.NoEscape", "internal/bytealg.MakeNoZero", "internal/bytealg.IndexString"], named := ["unicode/utf8.first", "unicode/utf8.acceptRanges", "internal/bytealg.MaxLen"], apart := false, laid := [("unicode/utf8.acceptRanges", laid_unicode_utf8_acceptRanges), ("unicode/utf8.first", laid_unicode_utf8_first)], narrowed := true }
def FnRelErrorsUptoSaid : Prop := fnRelErrorsUptoRow.holds Tryd.pinned (OpenSpec.upto fnRelErrorsSpec)

/-- 'laws.FnRelFewest', WHERE WHAT IT READS IS OF BULK AT MOST 1048576: true; the input reads as it did. -/
def fnRelFewestUptoRow : OpenClaim := { program := "ytgkbkocakinmfaadoor", sum := "d71d708c7d3bb3edd0e824f3a179c2ea427e2583035efda5fef8984d78329aa7", func := "lib-greenlane/laws.FnRelFewest", spec := "fnRelFewest", inPlace := ["internal/bytealg.IndexByteString", "internal/bytealg.CountString", "internal/abi.NoEscape", "internal/bytealg.MakeNoZero", "internal/bytealg.IndexString"], named := ["unicode/utf8.first", "unicode/utf8.acceptRanges", "internal/bytealg.MaxLen"], apart := false, laid := [("unicode/utf8.acceptRanges", laid_unicode_utf8_acceptRanges), ("unicode/utf8.first", laid_unicode_utf8_first)], narrowed := true }
def FnRelFewestUptoSaid : Prop := fnRelFewestUptoRow.holds Tryd.pinned (OpenSpec.upto fnRelFewestSpec)

/-- 'laws.FnRelBelow', WHERE WHAT IT READS IS OF BULK AT MOST 1048576: true; the input reads as it did. -/
def fnRelBelowUptoRow : OpenClaim := { program := "ytgkbkocakinmfaadoor", sum := "d71d708c7d3bb3edd0e824f3a179c2ea427e2583035efda5fef8984d78329aa7", func := "lib-greenlane/laws.FnRelBelow", spec := "fnRelBelow", inPlace := ["internal/bytealg.IndexByteString", "internal/bytealg.CountString", "internal/abi.NoEscape", "internal/bytealg.MakeNoZero", "internal/bytealg.IndexString"], named := ["unicode/utf8.first", "unicode/utf8.acceptRanges", "internal/bytealg.MaxLen"], apart := false, laid := [("unicode/utf8.acceptRanges", laid_unicode_utf8_acceptRanges), ("unicode/utf8.first", laid_unicode_utf8_first)], narrowed := true }
def FnRelBelowUptoSaid : Prop := fnRelBelowUptoRow.holds Tryd.pinned (OpenSpec.upto fnRelBelowSpec)

/-- 'laws.FnRelByDirs', WHERE WHAT IT READS IS OF BULK AT MOST 1048576: true; the input reads as it did. -/
def fnRelByDirsUptoRow : OpenClaim := { program := "ytgkbkocakinmfaadoor", sum := "d71d708c7d3bb3edd0e824f3a179c2ea427e2583035efda5fef8984d78329aa7", func := "lib-greenlane/laws.FnRelByDirs", spec := "fnRelByDirs", inPlace := ["internal/bytealg.IndexByteString", "internal/bytealg.CountString", "internal/bytealg.IndexString"], named := ["unicode/utf8.first", "unicode/utf8.acceptRanges", "internal/bytealg.MaxLen"], apart := false, laid := [("unicode/utf8.acceptRanges", laid_unicode_utf8_acceptRanges), ("unicode/utf8.first", laid_unicode_utf8_first)], narrowed := true }
def FnRelByDirsUptoSaid : Prop := fnRelByDirsUptoRow.holds Tryd.pinned (OpenSpec.upto fnRelByDirsSpec)

/-- 'laws.FnRelJoined', WHERE WHAT IT READS IS OF BULK AT MOST 1048576: true; the input reads as it did. -/
def fnRelJoinedUptoRow : OpenClaim := { program := "ytgkbkocakinmfaadoor", sum := "d71d708c7d3bb3edd0e824f3a179c2ea427e2583035efda5fef8984d78329aa7", func := "lib-greenlane/laws.FnRelJoined", spec := "fnRelJoined", inPlace := ["internal/bytealg.CountString", "internal/bytealg.IndexByteString", "internal/bytealg.IndexString", "internal/abi.NoEscape", "internal/bytealg.MakeNoZero"], named := ["unicode/utf8.first", "unicode/utf8.acceptRanges", "internal/bytealg.MaxLen"], apart := false, laid := [("unicode/utf8.acceptRanges", laid_unicode_utf8_acceptRanges), ("unicode/utf8.first", laid_unicode_utf8_first)], narrowed := true }
def FnRelJoinedUptoSaid : Prop := fnRelJoinedUptoRow.holds Tryd.pinned (OpenSpec.upto fnRelJoinedSpec)

/-- 'laws.FnRelPrefix', WHERE WHAT IT READS IS OF BULK AT MOST 1048576: true; the input reads as it did. -/
def fnRelPrefixUptoRow : OpenClaim := { program := "ytgkbkocakinmfaadoor", sum := "d71d708c7d3bb3edd0e824f3a179c2ea427e2583035efda5fef8984d78329aa7", func := "lib-greenlane/laws.FnRelPrefix", spec := "fnRelPrefix", inPlace := ["internal/bytealg.CountString", "internal/bytealg.IndexByteString", "internal/bytealg.IndexString", "internal/abi.NoEscape", "internal/bytealg.MakeNoZero"], named := ["unicode/utf8.first", "unicode/utf8.acceptRanges", "internal/bytealg.MaxLen"], apart := false, laid := [("unicode/utf8.acceptRanges", laid_unicode_utf8_acceptRanges), ("unicode/utf8.first", laid_unicode_utf8_first)], narrowed := true }
def FnRelPrefixUptoSaid : Prop := fnRelPrefixUptoRow.holds Tryd.pinned (OpenSpec.upto fnRelPrefixSpec)

/-- 'laws.FnRelSteps', WHERE WHAT IT READS IS OF BULK AT MOST 1048576: true; the input reads as it did. -/
def fnRelStepsUptoRow : OpenClaim := { program := "ytgkbkocakinmfaadoor", sum := "d71d708c7d3bb3edd0e824f3a179c2ea427e2583035efda5fef8984d78329aa7", func := "lib-greenlane/laws.FnRelSteps", spec := "fnRelSteps", inPlace := ["internal/bytealg.IndexByteString", "internal/bytealg.CountString", "internal/abi.NoEscape", "internal/bytealg.MakeNoZero", "internal/bytealg.IndexString"], named := ["unicode/utf8.first", "unicode/utf8.acceptRanges", "internal/bytealg.MaxLen"], apart := false, laid := [("unicode/utf8.acceptRanges", laid_unicode_utf8_acceptRanges), ("unicode/utf8.first", laid_unicode_utf8_first)], narrowed := true }
def FnRelStepsUptoSaid : Prop := fnRelStepsUptoRow.holds Tryd.pinned (OpenSpec.upto fnRelStepsSpec)

/-- 'laws.FnRelThereAndBack', WHERE WHAT IT READS IS OF BULK AT MOST 1048576: true; the input reads as it did. -/
def fnRelThereAndBackUptoRow : OpenClaim := { program := "ytgkbkocakinmfaadoor", sum := "d71d708c7d3bb3edd0e824f3a179c2ea427e2583035efda5fef8984d78329aa7", func := "lib-greenlane/laws.FnRelThereAndBack", spec := "fnRelThereAndBack", inPlace := ["internal/bytealg.IndexByteString", "internal/bytealg.CountString", "internal/abi.NoEscape", "internal/bytealg.MakeNoZero", "internal/bytealg.IndexString"], named := ["unicode/utf8.first", "unicode/utf8.acceptRanges", "internal/bytealg.MaxLen"], apart := false, laid := [("unicode/utf8.acceptRanges", laid_unicode_utf8_acceptRanges), ("unicode/utf8.first", laid_unicode_utf8_first)], narrowed := true }
def FnRelThereAndBackUptoSaid : Prop := fnRelThereAndBackUptoRow.holds Tryd.pinned (OpenSpec.upto fnRelThereAndBackSpec)

/-- 'laws.FnRelTriangle', WHERE WHAT IT READS IS OF BULK AT MOST 1048576: true; the input reads as it did. -/
def fnRelTriangleUptoRow : OpenClaim := { program := "ytgkbkocakinmfaadoor", sum := "d71d708c7d3bb3edd0e824f3a179c2ea427e2583035efda5fef8984d78329aa7", func := "lib-greenlane/laws.FnRelTriangle", spec := "fnRelTriangle", inPlace := ["internal/bytealg.IndexByteString", "internal/bytealg.CountString", "internal/abi.NoEscape", "internal/bytealg.MakeNoZero", "internal/bytealg.IndexString"], named := ["unicode/utf8.first", "unicode/utf8.acceptRanges", "internal/bytealg.MaxLen"], apart := false, laid := [("unicode/utf8.acceptRanges", laid_unicode_utf8_acceptRanges), ("unicode/utf8.first", laid_unicode_utf8_first)], narrowed := true }
def FnRelTriangleUptoSaid : Prop := fnRelTriangleUptoRow.holds Tryd.pinned (OpenSpec.upto fnRelTriangleSpec)

/-- 'laws.FnRelBothWays', WHERE WHAT IT READS IS OF BULK AT MOST 1048576: true; the input reads as it did. -/
def fnRelBothWaysUptoRow : OpenClaim := { program := "ytgkbkocakinmfaadoor", sum := "d71d708c7d3bb3edd0e824f3a179c2ea427e2583035efda5fef8984d78329aa7", func := "lib-greenlane/laws.FnRelBothWays", spec := "fnRelBothWays", inPlace := ["internal/bytealg.IndexByteString", "internal/bytealg.CountString", "internal/bytealg.IndexString", "internal/abi.NoEscape", "internal/bytealg.MakeNoZero"], named := ["unicode/utf8.first", "unicode/utf8.acceptRanges", "internal/bytealg.MaxLen"], apart := false, laid := [("unicode/utf8.acceptRanges", laid_unicode_utf8_acceptRanges), ("unicode/utf8.first", laid_unicode_utf8_first)], narrowed := true }
def FnRelBothWaysUptoSaid : Prop := fnRelBothWaysUptoRow.holds Tryd.pinned (OpenSpec.upto fnRelBothWaysSpec)

end Rows
end Go.Proofs.YtgkbkocakinmfaaDoor
