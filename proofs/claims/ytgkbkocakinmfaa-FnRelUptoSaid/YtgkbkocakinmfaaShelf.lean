/-
  The library's contracts at this program's numbers: each is one application of a theorem that the kit proved over any program. Conditions: as each theorem states them.
-/
import Derived.Shelf.Strings.Builder1
import Derived.Shelf.Strings.Builder2
import Derived.Shelf.Strings.OnBuilder
import Derived.Shelf.Strings.Search1
import Derived.Shelf.Strings.Prefix
import Derived.Ground.PaProg
import Derived.Shelf.Path.FileSmall
import Derived.Shelf.Path.FLazyBuf
import Derived.Shelf.Path.FCleanPre
import Derived.Shelf.Path.FCleanRel
import Derived.Shelf.Path.FCleanAbs
import Derived.Shelf.Path.FClean
import Derived.Shelf.Path.FJoin
import Derived.Test.YtgkbkocakinmfaaProg
namespace Go.Proofs
open Go.Shelf
def Try.lays99_ren : Go.Shelf.Ren := ⟨fun | 99 => 35 | 206 => 53 | n => n, fun | 9 => 9 | 4 => 4 | 3 => 3 | n => n, fun | n => n⟩
theorem Try.lays99 : Go.Proofs.Lays.n99 Try.prog Try.lays99_ren := {
  mixed := by kernel_rfl
  f99 := Try.func35.trans (congrArg some (by kernel_rfl))
  f206 := Try.func53.trans (congrArg some (by kernel_rfl))
  t3 := Try.underlying3
  a3 := Try.isAgg3
  z3 := Try.sizeOf3
  v3 := Try.zeroValue3
  t4 := Try.underlying4
  a4 := Try.isAgg4
  z4 := Try.sizeOf4
  v4 := Try.zeroValue4
  t9 := Try.underlying9
  a9 := Try.isAgg9
  z9 := Try.sizeOf9
  v9 := Try.zeroValue9 }
open Go.RowKit Go.Lib in
theorem Try.strings_HasPrefix (s p : ByteArray) (w : World) :
    Calls Try.prog 35 #[.string s, .string p] w fun e w' => e = .returned (.bool (Lib.hasPrefix s.data.toList p.data.toList)) ∧ w' = w := Any.strings_HasPrefix Try.lays99 s p w
def Try.laysPa57_ren : Go.Shelf.Ren := ⟨fun | 57 => 59 | 59 => 60 | 60 => 62 | 66 => 68 | 70 => 72 | 73 => 75 | n => n, fun | 9 => 9 | 3 => 3 | 5 => 5 | 4 => 4 | 30 => 51 | 0 => 0 | n => n, fun | n => n⟩
theorem Try.laysPa57 : Go.Proofs.Lays.p57 Try.prog Try.laysPa57_ren := {
  mixed := by kernel_rfl
  f57 := Try.func59.trans (congrArg some (by kernel_rfl))
  f59 := Try.func60.trans (congrArg some (by kernel_rfl))
  f60 := Try.func62.trans (congrArg some (by kernel_rfl))
  f66 := Try.func68.trans (congrArg some (by kernel_rfl))
  f70 := Try.func72.trans (congrArg some (by kernel_rfl))
  f73 := Try.func75.trans (congrArg some (by kernel_rfl))
  t0 := Try.underlying0
  a0 := Try.isAgg0
  z0 := Try.sizeOf0
  v0 := Try.zeroValue0
  t3 := Try.underlying3
  a3 := Try.isAgg3
  z3 := Try.sizeOf3
  v3 := Try.zeroValue3
  t4 := Try.underlying4
  a4 := Try.isAgg4
  z4 := Try.sizeOf4
  v4 := Try.zeroValue4
  t5 := Try.underlying5
  a5 := Try.isAgg5
  z5 := Try.sizeOf5
  v5 := Try.zeroValue5
  t9 := Try.underlying9
  a9 := Try.isAgg9
  z9 := Try.sizeOf9
  v9 := Try.zeroValue9
  t30 := Try.underlying51
  a30 := Try.isAgg51
  z30 := Try.sizeOf51
  v30 := Try.zeroValue51 }
open Go.RowKit Go.Lib in
theorem Try.filepathlite_VolumeName (s : ByteArray) (w : World) :
    Calls Try.prog 59 #[.string s] w fun e w' => e = .returned (.string ⟨#[]⟩) ∧ w' = w := Any.filepathlite_VolumeName Try.laysPa57 s w
def Try.laysPa35_ren : Go.Shelf.Ren := ⟨fun | 35 => 43 | 52 => 55 | 58 => 53 | n => n, fun | 9 => 9 | 4 => 4 | 3 => 3 | n => n, fun | n => n⟩
theorem Try.laysPa35 : Go.Proofs.Lays.p35 Try.prog Try.laysPa35_ren := {
  mixed := by kernel_rfl
  f35 := Try.func43.trans (congrArg some (by kernel_rfl))
  f52 := Try.func55.trans (congrArg some (by kernel_rfl))
  f58 := Try.func53.trans (congrArg some (by kernel_rfl))
  t3 := Try.underlying3
  a3 := Try.isAgg3
  z3 := Try.sizeOf3
  v3 := Try.zeroValue3
  t4 := Try.underlying4
  a4 := Try.isAgg4
  z4 := Try.sizeOf4
  v4 := Try.zeroValue4
  t9 := Try.underlying9
  a9 := Try.isAgg9
  z9 := Try.sizeOf9
  v9 := Try.zeroValue9 }
open Go.RowKit Go.Lib in
theorem Try.filepath_IsAbs (s : ByteArray) (w : World) :
    Calls Try.prog 43 #[.string s] w fun e w' => e = .returned (.bool (Pa.isAbs s.data.toList)) ∧ w' = w := Any.filepath_IsAbs Try.laysPa35 s w
def Try.laysPa32_ren : Go.Shelf.Ren := ⟨fun | 32 => 45 | 49 => 57 | 56 => 61 | 57 => 59 | 59 => 60 | 60 => 62 | 66 => 68 | 70 => 72 | 73 => 75 | n => n, fun | 9 => 9 | 4 => 4 | 3 => 3 | 5 => 5 | 30 => 51 | 0 => 0 | n => n, fun | n => n⟩
theorem Try.laysPa32 : Go.Proofs.Lays.p32 Try.prog Try.laysPa32_ren := {
  mixed := by kernel_rfl
  f32 := Try.func45.trans (congrArg some (by kernel_rfl))
  f49 := Try.func57.trans (congrArg some (by kernel_rfl))
  f56 := Try.func61.trans (congrArg some (by kernel_rfl))
  f57 := Try.func59.trans (congrArg some (by kernel_rfl))
  f59 := Try.func60.trans (congrArg some (by kernel_rfl))
  f60 := Try.func62.trans (congrArg some (by kernel_rfl))
  f66 := Try.func68.trans (congrArg some (by kernel_rfl))
  f70 := Try.func72.trans (congrArg some (by kernel_rfl))
  f73 := Try.func75.trans (congrArg some (by kernel_rfl))
  t0 := Try.underlying0
  a0 := Try.isAgg0
  z0 := Try.sizeOf0
  v0 := Try.zeroValue0
  t3 := Try.underlying3
  a3 := Try.isAgg3
  z3 := Try.sizeOf3
  v3 := Try.zeroValue3
  t4 := Try.underlying4
  a4 := Try.isAgg4
  z4 := Try.sizeOf4
  v4 := Try.zeroValue4
  t5 := Try.underlying5
  a5 := Try.isAgg5
  z5 := Try.sizeOf5
  v5 := Try.zeroValue5
  t9 := Try.underlying9
  a9 := Try.isAgg9
  z9 := Try.sizeOf9
  v9 := Try.zeroValue9
  t30 := Try.underlying51
  a30 := Try.isAgg51
  z30 := Try.sizeOf51
  v30 := Try.zeroValue51 }
open Go.RowKit Go.Lib in
theorem Try.filepath_Base (s : ByteArray) (w : World) (hs : s.size ≤ 9223372036854775807) :
    Calls Try.prog 45 #[.string s] w fun e w' => e = .returned (.string ⟨(Pa.base s.data.toList).toArray⟩) ∧ w' = w := Any.filepath_Base Try.laysPa32 s w hs
def Try.laysPa36_ren : Go.Shelf.Ren := ⟨fun | 36 => 44 | 53 => 56 | 57 => 59 | 56 => 61 | 59 => 60 | 60 => 62 | 66 => 68 | 70 => 72 | 73 => 75 | n => n, fun | 9 => 9 | 24 => 39 | 3 => 3 | 4 => 4 | 5 => 5 | 30 => 51 | 0 => 0 | n => n, fun | n => n⟩
theorem Try.laysPa36 : Go.Proofs.Lays.p36 Try.prog Try.laysPa36_ren := {
  mixed := by kernel_rfl
  f36 := Try.func44.trans (congrArg some (by kernel_rfl))
  f53 := Try.func56.trans (congrArg some (by kernel_rfl))
  f56 := Try.func61.trans (congrArg some (by kernel_rfl))
  f57 := Try.func59.trans (congrArg some (by kernel_rfl))
  f59 := Try.func60.trans (congrArg some (by kernel_rfl))
  f60 := Try.func62.trans (congrArg some (by kernel_rfl))
  f66 := Try.func68.trans (congrArg some (by kernel_rfl))
  f70 := Try.func72.trans (congrArg some (by kernel_rfl))
  f73 := Try.func75.trans (congrArg some (by kernel_rfl))
  t0 := Try.underlying0
  a0 := Try.isAgg0
  z0 := Try.sizeOf0
  v0 := Try.zeroValue0
  t3 := Try.underlying3
  a3 := Try.isAgg3
  z3 := Try.sizeOf3
  v3 := Try.zeroValue3
  t4 := Try.underlying4
  a4 := Try.isAgg4
  z4 := Try.sizeOf4
  v4 := Try.zeroValue4
  t5 := Try.underlying5
  a5 := Try.isAgg5
  z5 := Try.sizeOf5
  v5 := Try.zeroValue5
  t9 := Try.underlying9
  a9 := Try.isAgg9
  z9 := Try.sizeOf9
  v9 := Try.zeroValue9
  t24 := Try.underlying39
  a24 := Try.isAgg39
  z24 := Try.sizeOf39
  v24 := Try.zeroValue39
  t30 := Try.underlying51
  a30 := Try.isAgg51
  z30 := Try.sizeOf51
  v30 := Try.zeroValue51 }
open Go.RowKit Go.Lib in
theorem Try.filepath_Split (s : ByteArray) (w : World) (hs : s.size ≤ 9223372036854775807) :
    Calls Try.prog 44 #[.string s] w fun e w' => e = .returned (.tuple #[.string ⟨(Pa.split s.data.toList).1.toArray⟩, .string ⟨(Pa.split s.data.toList).2.toArray⟩]) ∧ ∃ n, w' = w.drewN n := Any.filepath_Split Try.laysPa36 s w hs
def Try.laysPah37_ren : Go.Shelf.Ren := ⟨fun | 37 => 34 | 54 => 52 | 59 => 60 | 56 => 61 | 60 => 62 | 61 => 63 | 62 => 64 | 63 => 65 | 64 => 66 | 66 => 68 | 70 => 72 | 73 => 75 | n => n, fun | 9 => 9 | 3 => 3 | 4 => 4 | 5 => 5 | 53 => 60 | 0 => 0 | 55 => 64 | 30 => 51 | n => n, fun | n => n⟩
theorem Try.laysPah37 : Go.Proofs.Lays.ph37 Try.prog Try.laysPah37_ren := {
  mixed := by kernel_rfl
  f37 := Try.func34.trans (congrArg some (by kernel_rfl))
  f54 := Try.func52.trans (congrArg some (by kernel_rfl))
  f56 := Try.func61.trans (congrArg some (by kernel_rfl))
  f59 := Try.func60.trans (congrArg some (by kernel_rfl))
  f60 := Try.func62.trans (congrArg some (by kernel_rfl))
  f61 := Try.func63.trans (congrArg some (by kernel_rfl))
  f62 := Try.func64.trans (congrArg some (by kernel_rfl))
  f63 := Try.func65.trans (congrArg some (by kernel_rfl))
  f64 := Try.func66.trans (congrArg some (by kernel_rfl))
  f66 := Try.func68.trans (congrArg some (by kernel_rfl))
  f70 := Try.func72.trans (congrArg some (by kernel_rfl))
  f73 := Try.func75.trans (congrArg some (by kernel_rfl))
  t0 := Try.underlying0
  a0 := Try.isAgg0
  z0 := Try.sizeOf0
  v0 := Try.zeroValue0
  t3 := Try.underlying3
  a3 := Try.isAgg3
  z3 := Try.sizeOf3
  v3 := Try.zeroValue3
  t4 := Try.underlying4
  a4 := Try.isAgg4
  z4 := Try.sizeOf4
  v4 := Try.zeroValue4
  t5 := Try.underlying5
  a5 := Try.isAgg5
  z5 := Try.sizeOf5
  v5 := Try.zeroValue5
  t9 := Try.underlying9
  a9 := Try.isAgg9
  z9 := Try.sizeOf9
  v9 := Try.zeroValue9
  t30 := Try.underlying51
  a30 := Try.isAgg51
  z30 := Try.sizeOf51
  v30 := Try.zeroValue51
  t53 := Try.underlying60
  a53 := Try.isAgg60
  z53 := Try.sizeOf60
  v53 := Try.zeroValue60
  t55 := Try.underlying64
  a55 := Try.isAgg64
  z55 := Try.sizeOf64
  v55 := Try.zeroValue64
  info5 := by kernel_rfl }
open Go.RowKit Go.Lib in
theorem Try.filepath_Clean (s : ByteArray) (w : World) (hbig : s.size ≤ 281474976710656) :
    Calls Try.prog 34 #[.string s] w fun e w' => e = .returned (.string ⟨(Pa.clean s.data.toList).toArray⟩) ∧ Below w.heap.size w w' := Any.filepath_Clean Try.laysPah37 s w hbig
def Try.laysPah34_ren : Go.Shelf.Ren := ⟨fun | 34 => 46 | 51 => 58 | 57 => 59 | 56 => 61 | 54 => 52 | 59 => 60 | 60 => 62 | 61 => 63 | 62 => 64 | 63 => 65 | 64 => 66 | 66 => 68 | 70 => 72 | 73 => 75 | n => n, fun | 9 => 9 | 3 => 3 | 4 => 4 | 5 => 5 | 53 => 60 | 0 => 0 | 55 => 64 | 30 => 51 | n => n, fun | n => n⟩
theorem Try.laysPah34 : Go.Proofs.Lays.ph34 Try.prog Try.laysPah34_ren := {
  mixed := by kernel_rfl
  f34 := Try.func46.trans (congrArg some (by kernel_rfl))
  f51 := Try.func58.trans (congrArg some (by kernel_rfl))
  f54 := Try.func52.trans (congrArg some (by kernel_rfl))
  f56 := Try.func61.trans (congrArg some (by kernel_rfl))
  f57 := Try.func59.trans (congrArg some (by kernel_rfl))
  f59 := Try.func60.trans (congrArg some (by kernel_rfl))
  f60 := Try.func62.trans (congrArg some (by kernel_rfl))
  f61 := Try.func63.trans (congrArg some (by kernel_rfl))
  f62 := Try.func64.trans (congrArg some (by kernel_rfl))
  f63 := Try.func65.trans (congrArg some (by kernel_rfl))
  f64 := Try.func66.trans (congrArg some (by kernel_rfl))
  f66 := Try.func68.trans (congrArg some (by kernel_rfl))
  f70 := Try.func72.trans (congrArg some (by kernel_rfl))
  f73 := Try.func75.trans (congrArg some (by kernel_rfl))
  t0 := Try.underlying0
  a0 := Try.isAgg0
  z0 := Try.sizeOf0
  v0 := Try.zeroValue0
  t3 := Try.underlying3
  a3 := Try.isAgg3
  z3 := Try.sizeOf3
  v3 := Try.zeroValue3
  t4 := Try.underlying4
  a4 := Try.isAgg4
  z4 := Try.sizeOf4
  v4 := Try.zeroValue4
  t5 := Try.underlying5
  a5 := Try.isAgg5
  z5 := Try.sizeOf5
  v5 := Try.zeroValue5
  t9 := Try.underlying9
  a9 := Try.isAgg9
  z9 := Try.sizeOf9
  v9 := Try.zeroValue9
  t30 := Try.underlying51
  a30 := Try.isAgg51
  z30 := Try.sizeOf51
  v30 := Try.zeroValue51
  t53 := Try.underlying60
  a53 := Try.isAgg60
  z53 := Try.sizeOf60
  v53 := Try.zeroValue60
  t55 := Try.underlying64
  a55 := Try.isAgg64
  z55 := Try.sizeOf64
  v55 := Try.zeroValue64
  info5 := by kernel_rfl }
open Go.RowKit Go.Lib in
theorem Try.filepath_Dir (s : ByteArray) (w : World) (hbig : s.size ≤ 281474976710656) :
    Calls Try.prog 46 #[.string s] w fun e w' => e = .returned (.string ⟨(Pa.dir s.data.toList).toArray⟩) ∧ Below w.heap.size w w' := Any.filepath_Dir Try.laysPah34 s w hbig
def Try.laysPah38_ren : Go.Shelf.Ren := ⟨fun | 38 => 36 | 55 => 54 | 65 => 67 | 37 => 34 | 67 => 69 | 68 => 70 | 69 => 71 | 54 => 52 | 71 => 73 | 72 => 74 | 59 => 60 | 56 => 61 | 60 => 62 | 61 => 63 | 62 => 64 | 63 => 65 | 64 => 66 | 74 => 76 | 75 => 77 | 66 => 68 | 70 => 72 | 73 => 75 | n => n, fun | 26 => 27 | 9 => 9 | 3 => 3 | 0 => 0 | 4 => 4 | 20 => 20 | 60 => 69 | 38 => 71 | 58 => 67 | 30 => 51 | 35 => 42 | 63 => 73 | 5 => 5 | 53 => 60 | 55 => 64 | 64 => 74 | 45 => 65 | n => n, fun | n => n⟩
theorem Try.laysPah38 : Go.Proofs.Lays.ph38 Try.prog Try.laysPah38_ren := {
  mixed := by kernel_rfl
  f37 := Try.func34.trans (congrArg some (by kernel_rfl))
  f38 := Try.func36.trans (congrArg some (by kernel_rfl))
  f54 := Try.func52.trans (congrArg some (by kernel_rfl))
  f55 := Try.func54.trans (congrArg some (by kernel_rfl))
  f56 := Try.func61.trans (congrArg some (by kernel_rfl))
  f59 := Try.func60.trans (congrArg some (by kernel_rfl))
  f60 := Try.func62.trans (congrArg some (by kernel_rfl))
  f61 := Try.func63.trans (congrArg some (by kernel_rfl))
  f62 := Try.func64.trans (congrArg some (by kernel_rfl))
  f63 := Try.func65.trans (congrArg some (by kernel_rfl))
  f64 := Try.func66.trans (congrArg some (by kernel_rfl))
  f65 := Try.func67.trans (congrArg some (by kernel_rfl))
  f66 := Try.func68.trans (congrArg some (by kernel_rfl))
  f67 := Try.func69.trans (congrArg some (by kernel_rfl))
  f68 := Try.func70.trans (congrArg some (by kernel_rfl))
  f69 := Try.func71.trans (congrArg some (by kernel_rfl))
  f70 := Try.func72.trans (congrArg some (by kernel_rfl))
  f71 := Try.func73.trans (congrArg some (by kernel_rfl))
  f72 := Try.func74.trans (congrArg some (by kernel_rfl))
  f73 := Try.func75.trans (congrArg some (by kernel_rfl))
  f74 := Try.func76.trans (congrArg some (by kernel_rfl))
  f75 := Try.func77.trans (congrArg some (by kernel_rfl))
  t0 := Try.underlying0
  a0 := Try.isAgg0
  z0 := Try.sizeOf0
  v0 := Try.zeroValue0
  t3 := Try.underlying3
  a3 := Try.isAgg3
  z3 := Try.sizeOf3
  v3 := Try.zeroValue3
  t4 := Try.underlying4
  a4 := Try.isAgg4
  z4 := Try.sizeOf4
  v4 := Try.zeroValue4
  t5 := Try.underlying5
  a5 := Try.isAgg5
  z5 := Try.sizeOf5
  v5 := Try.zeroValue5
  t9 := Try.underlying9
  a9 := Try.isAgg9
  z9 := Try.sizeOf9
  v9 := Try.zeroValue9
  t20 := Try.underlying20
  a20 := Try.isAgg20
  z20 := Try.sizeOf20
  v20 := Try.zeroValue20
  t26 := Try.underlying27
  a26 := Try.isAgg27
  z26 := Try.sizeOf27
  v26 := Try.zeroValue27
  t30 := Try.underlying51
  a30 := Try.isAgg51
  z30 := Try.sizeOf51
  v30 := Try.zeroValue51
  t35 := Try.underlying42
  a35 := Try.isAgg42
  z35 := Try.sizeOf42
  v35 := Try.zeroValue42
  t38 := Try.underlying71
  a38 := Try.isAgg71
  z38 := Try.sizeOf71
  v38 := Try.zeroValue71
  t45 := Try.underlying65
  a45 := Try.isAgg65
  z45 := Try.sizeOf65
  v45 := Try.zeroValue65
  t53 := Try.underlying60
  a53 := Try.isAgg60
  z53 := Try.sizeOf60
  v53 := Try.zeroValue60
  t55 := Try.underlying64
  a55 := Try.isAgg64
  z55 := Try.sizeOf64
  v55 := Try.zeroValue64
  t58 := Try.underlying67
  a58 := Try.isAgg67
  z58 := Try.sizeOf67
  v58 := Try.zeroValue67
  t60 := Try.underlying69
  a60 := Try.isAgg69
  z60 := Try.sizeOf69
  v60 := Try.zeroValue69
  t63 := Try.underlying73
  a63 := Try.isAgg73
  z63 := Try.sizeOf73
  v63 := Try.zeroValue73
  t64 := Try.underlying74
  a64 := Try.isAgg74
  z64 := Try.sizeOf74
  v64 := Try.zeroValue74
  sizeBuilder := by kernel_rfl
  liesBuilder := by kernel_rfl
  info5 := by kernel_rfl
  cellsByte := by kernel_rfl
  sizeByte := by kernel_rfl
  neB5 := by kernel_rfl }
open Go.RowKit Go.Lib in
theorem Try.filepath_Join (bk o c : Nat) (xs : List ByteArray) (w : World) (hcells : ∀ (j : Nat) x, xs[j]? = some x → w.cell? ⟨bk, o + j, none⟩ = some (.string x)) (hbk : bk < w.heap.size) (hcap : xs.length ≤ c) (hlen : Lib.lens (xs.map (·.data.toList)) + xs.length ≤ 140737488355328) :
    Calls Try.prog 36 #[.slice (some ⟨bk, o, none⟩) xs.length c] w fun e w' => e = .returned (.string ⟨(Pa.fjoin (xs.map (·.data.toList))).toArray⟩) ∧ Below w.heap.size w w' := Any.filepath_Join Try.laysPah38 bk o c xs w hcells hbk hcap hlen
def Try.laysPa38_ren : Go.Shelf.Ren := ⟨fun | 38 => 36 | 55 => 54 | 65 => 67 | 37 => 34 | 67 => 69 | 68 => 70 | 69 => 71 | 54 => 52 | 71 => 73 | 72 => 74 | 59 => 60 | 56 => 61 | 60 => 62 | 61 => 63 | 62 => 64 | 63 => 65 | 64 => 66 | 74 => 76 | 75 => 77 | 66 => 68 | 70 => 72 | 73 => 75 | n => n, fun | 26 => 27 | 9 => 9 | 3 => 3 | 0 => 0 | 4 => 4 | 20 => 20 | 60 => 69 | 38 => 71 | 58 => 67 | 30 => 51 | 35 => 42 | 63 => 73 | 5 => 5 | 53 => 60 | 55 => 64 | 64 => 74 | 45 => 65 | n => n, fun | n => n⟩
theorem Try.laysPa38 : Go.Proofs.Lays.p38 Try.prog Try.laysPa38_ren := {
  mixed := by kernel_rfl
  f37 := Try.func34.trans (congrArg some (by kernel_rfl))
  f38 := Try.func36.trans (congrArg some (by kernel_rfl))
  f54 := Try.func52.trans (congrArg some (by kernel_rfl))
  f55 := Try.func54.trans (congrArg some (by kernel_rfl))
  f56 := Try.func61.trans (congrArg some (by kernel_rfl))
  f59 := Try.func60.trans (congrArg some (by kernel_rfl))
  f60 := Try.func62.trans (congrArg some (by kernel_rfl))
  f61 := Try.func63.trans (congrArg some (by kernel_rfl))
  f62 := Try.func64.trans (congrArg some (by kernel_rfl))
  f63 := Try.func65.trans (congrArg some (by kernel_rfl))
  f64 := Try.func66.trans (congrArg some (by kernel_rfl))
  f65 := Try.func67.trans (congrArg some (by kernel_rfl))
  f66 := Try.func68.trans (congrArg some (by kernel_rfl))
  f67 := Try.func69.trans (congrArg some (by kernel_rfl))
  f68 := Try.func70.trans (congrArg some (by kernel_rfl))
  f69 := Try.func71.trans (congrArg some (by kernel_rfl))
  f70 := Try.func72.trans (congrArg some (by kernel_rfl))
  f71 := Try.func73.trans (congrArg some (by kernel_rfl))
  f72 := Try.func74.trans (congrArg some (by kernel_rfl))
  f73 := Try.func75.trans (congrArg some (by kernel_rfl))
  f74 := Try.func76.trans (congrArg some (by kernel_rfl))
  f75 := Try.func77.trans (congrArg some (by kernel_rfl))
  t0 := Try.underlying0
  a0 := Try.isAgg0
  z0 := Try.sizeOf0
  v0 := Try.zeroValue0
  t3 := Try.underlying3
  a3 := Try.isAgg3
  z3 := Try.sizeOf3
  v3 := Try.zeroValue3
  t4 := Try.underlying4
  a4 := Try.isAgg4
  z4 := Try.sizeOf4
  v4 := Try.zeroValue4
  t5 := Try.underlying5
  a5 := Try.isAgg5
  z5 := Try.sizeOf5
  v5 := Try.zeroValue5
  t9 := Try.underlying9
  a9 := Try.isAgg9
  z9 := Try.sizeOf9
  v9 := Try.zeroValue9
  t20 := Try.underlying20
  a20 := Try.isAgg20
  z20 := Try.sizeOf20
  v20 := Try.zeroValue20
  t26 := Try.underlying27
  a26 := Try.isAgg27
  z26 := Try.sizeOf27
  v26 := Try.zeroValue27
  t30 := Try.underlying51
  a30 := Try.isAgg51
  z30 := Try.sizeOf51
  v30 := Try.zeroValue51
  t35 := Try.underlying42
  a35 := Try.isAgg42
  z35 := Try.sizeOf42
  v35 := Try.zeroValue42
  t38 := Try.underlying71
  a38 := Try.isAgg71
  z38 := Try.sizeOf71
  v38 := Try.zeroValue71
  t45 := Try.underlying65
  a45 := Try.isAgg65
  z45 := Try.sizeOf65
  v45 := Try.zeroValue65
  t53 := Try.underlying60
  a53 := Try.isAgg60
  z53 := Try.sizeOf60
  v53 := Try.zeroValue60
  t55 := Try.underlying64
  a55 := Try.isAgg64
  z55 := Try.sizeOf64
  v55 := Try.zeroValue64
  t58 := Try.underlying67
  a58 := Try.isAgg67
  z58 := Try.sizeOf67
  v58 := Try.zeroValue67
  t60 := Try.underlying69
  a60 := Try.isAgg69
  z60 := Try.sizeOf69
  v60 := Try.zeroValue69
  t63 := Try.underlying73
  a63 := Try.isAgg73
  z63 := Try.sizeOf73
  v63 := Try.zeroValue73
  t64 := Try.underlying74
  a64 := Try.isAgg74
  z64 := Try.sizeOf74
  v64 := Try.zeroValue74 }
open Go.RowKit Go.Lib in
theorem Try.filepath_Join_nil (w : World) :
    Calls Try.prog 36 #[.slice none 0 0] w fun e w' => e = .returned (.string ⟨#[]⟩) ∧ w' = w := Any.filepath_Join_nil Try.laysPa38 w
end Go.Proofs
