/-
  The library's contracts at this program's numbers: each is one application of a theorem that the kit proved over any program. Conditions: as each theorem states them.
-/
import Derived.Shelf.Strings.Builder1
import Derived.Shelf.Strings.Builder2
import Derived.Shelf.Strings.OnBuilder
import Derived.Shelf.Strings.Search1
import Derived.Shelf.Strings.Search2
import Derived.Shelf.Strings.Search3
import Derived.Shelf.Strings.Count
import Derived.Shelf.LaysM
import Derived.Shelf.Strings.Shaped
import Derived.Shelf.Strings.Prefix
import Derived.Shelf.Strings.Split
import Derived.Shelf.Strings.SplitShaped
import Derived.Shelf.Unicode.DecodeSlow
import Derived.Ground.PaProg
import Derived.Shelf.Path.FileSmall
import Derived.Shelf.Path.FLazyBuf
import Derived.Shelf.Path.FCleanPre
import Derived.Shelf.Path.FCleanRel
import Derived.Shelf.Path.FCleanAbs
import Derived.Shelf.Path.FClean
import Derived.Shelf.Path.FJoin
import Derived.Test.YtgkbkocakinmfaaDoorProg
namespace Go.Proofs
open Go.Shelf
def Tryd.lays99_ren : Go.Shelf.Ren := ⟨fun | 99 => 20 | 206 => 28 | n => n, fun | 9 => 9 | 4 => 4 | 3 => 3 | n => n, fun | n => n⟩
theorem Tryd.lays99 : Go.Proofs.Lays.n99 Tryd.prog Tryd.lays99_ren := {
  mixed := by kernel_rfl
  f99 := Tryd.func20.trans (congrArg some (by kernel_rfl))
  f206 := Tryd.func28.trans (congrArg some (by kernel_rfl))
  t3 := Tryd.underlying3
  a3 := Tryd.isAgg3
  z3 := Tryd.sizeOf3
  v3 := Tryd.zeroValue3
  t4 := Tryd.underlying4
  a4 := Tryd.isAgg4
  z4 := Tryd.sizeOf4
  v4 := Tryd.zeroValue4
  t9 := Tryd.underlying9
  a9 := Tryd.isAgg9
  z9 := Tryd.sizeOf9
  v9 := Tryd.zeroValue9 }
open Go.RowKit Go.Lib in
theorem Tryd.strings_HasPrefix (s p : ByteArray) (w : World) :
    Calls Tryd.prog 20 #[.string s, .string p] w fun e w' => e = .returned (.bool (Lib.hasPrefix s.data.toList p.data.toList)) ∧ w' = w := Any.strings_HasPrefix Tryd.lays99 s p w
def Tryd.lays100_ren : Go.Shelf.Ren := ⟨fun | 100 => 21 | 207 => 29 | n => n, fun | 9 => 9 | 4 => 4 | 3 => 3 | n => n, fun | n => n⟩
theorem Tryd.lays100 : Go.Proofs.Lays.n100 Tryd.prog Tryd.lays100_ren := {
  mixed := by kernel_rfl
  f100 := Tryd.func21.trans (congrArg some (by kernel_rfl))
  f207 := Tryd.func29.trans (congrArg some (by kernel_rfl))
  t3 := Tryd.underlying3
  a3 := Tryd.isAgg3
  z3 := Tryd.sizeOf3
  v3 := Tryd.zeroValue3
  t4 := Tryd.underlying4
  a4 := Tryd.isAgg4
  z4 := Tryd.sizeOf4
  v4 := Tryd.zeroValue4
  t9 := Tryd.underlying9
  a9 := Tryd.isAgg9
  z9 := Tryd.sizeOf9
  v9 := Tryd.zeroValue9 }
open Go.RowKit Go.Lib in
theorem Tryd.strings_HasSuffix (s p : ByteArray) (w : World) (hs : s.size ≤ 9223372036854775807) :
    Calls Tryd.prog 21 #[.string s, .string p] w fun e w' => e = .returned (.bool (Lib.hasSuffix s.data.toList p.data.toList)) ∧ w' = w := Any.strings_HasSuffix Tryd.lays100 s p w hs
def Tryd.lays146_ren : Go.Shelf.Ren := ⟨fun | 146 => 27 | 221 => 38 | 268 => 49 | 138 => 50 | 143 => 51 | 195 => 56 | 197 => 57 | 218 => 35 | 219 => 58 | 260 => 62 | 217 => 59 | 225 => 63 | 224 => 64 | 267 => 65 | 266 => 66 | 314 => 69 | n => n, fun | 9 => 9 | 31 => 30 | 3 => 3 | 4 => 4 | 0 => 0 | 105 => 64 | 21 => 21 | 5 => 5 | 46 => 68 | 119 => 72 | 139 => 75 | 138 => 74 | 146 => 77 | 51 => 76 | n => n, fun | 1 => 0 | 3 => 1 | 4 => 2 | n => n⟩
theorem Tryd.lays146 : Go.Proofs.Lays.n146 Tryd.prog Tryd.lays146_ren := {
  mixed := by kernel_rfl
  f138 := Tryd.func50.trans (congrArg some (by kernel_rfl))
  f143 := Tryd.func51.trans (congrArg some (by kernel_rfl))
  f146 := Tryd.func27.trans (congrArg some (by kernel_rfl))
  f195 := Tryd.func56.trans (congrArg some (by kernel_rfl))
  f197 := Tryd.func57.trans (congrArg some (by kernel_rfl))
  f217 := Tryd.func59.trans (congrArg some (by kernel_rfl))
  f218 := Tryd.func35.trans (congrArg some (by kernel_rfl))
  f219 := Tryd.func58.trans (congrArg some (by kernel_rfl))
  f221 := Tryd.func38.trans (congrArg some (by kernel_rfl))
  f224 := Tryd.func64.trans (congrArg some (by kernel_rfl))
  f225 := Tryd.func63.trans (congrArg some (by kernel_rfl))
  f260 := Tryd.func62.trans (congrArg some (by kernel_rfl))
  f266 := Tryd.func66.trans (congrArg some (by kernel_rfl))
  f267 := Tryd.func65.trans (congrArg some (by kernel_rfl))
  f268 := Tryd.func49.trans (congrArg some (by kernel_rfl))
  f314 := Tryd.func69.trans (congrArg some (by kernel_rfl))
  t0 := Tryd.underlying0
  a0 := Tryd.isAgg0
  z0 := Tryd.sizeOf0
  v0 := Tryd.zeroValue0
  t3 := Tryd.underlying3
  a3 := Tryd.isAgg3
  z3 := Tryd.sizeOf3
  v3 := Tryd.zeroValue3
  t4 := Tryd.underlying4
  a4 := Tryd.isAgg4
  z4 := Tryd.sizeOf4
  v4 := Tryd.zeroValue4
  t5 := Tryd.underlying5
  a5 := Tryd.isAgg5
  z5 := Tryd.sizeOf5
  v5 := Tryd.zeroValue5
  t9 := Tryd.underlying9
  a9 := Tryd.isAgg9
  z9 := Tryd.sizeOf9
  v9 := Tryd.zeroValue9
  t21 := Tryd.underlying21
  a21 := Tryd.isAgg21
  z21 := Tryd.sizeOf21
  v21 := Tryd.zeroValue21
  t31 := Tryd.underlying30
  a31 := Tryd.isAgg30
  z31 := Tryd.sizeOf30
  v31 := Tryd.zeroValue30
  t46 := Tryd.underlying68
  a46 := Tryd.isAgg68
  z46 := Tryd.sizeOf68
  v46 := Tryd.zeroValue68
  t51 := Tryd.underlying76
  a51 := Tryd.isAgg76
  z51 := Tryd.sizeOf76
  v51 := Tryd.zeroValue76
  t105 := Tryd.underlying64
  a105 := Tryd.isAgg64
  z105 := Tryd.sizeOf64
  v105 := Tryd.zeroValue64
  t119 := Tryd.underlying72
  a119 := Tryd.isAgg72
  z119 := Tryd.sizeOf72
  t138 := Tryd.underlying74
  a138 := Tryd.isAgg74
  z138 := Tryd.sizeOf74
  v138 := Tryd.zeroValue74
  t139 := Tryd.underlying75
  a139 := Tryd.isAgg75
  z139 := Tryd.sizeOf75
  v139 := Tryd.zeroValue75
  t146 := Tryd.underlying77
  a146 := Tryd.isAgg77
  z146 := Tryd.sizeOf77
  v146 := Tryd.zeroValue77
  g1 := by kernel_rfl
  g3 := by kernel_rfl
  g4 := by kernel_rfl }
open Go.RowKit Go.Lib in
theorem Tryd.strings_Split (s sep : ByteArray) (m : Int) (w : World) (hs : s.size < 4294967281) (hm : w.cell? ⟨0, 0, none⟩ = some (.int .i64 m)) (h1 : 1 ≤ sep.size) :
    Calls Tryd.prog 27 #[.string s, .string sep] w fun e w' =>
      e = .returned (.slice (some ⟨w.heap.size, 0, none⟩) (Lib.countB s sep + 1) (Lib.countB s sep + 1)) ∧ w' = w.alloc (.cells ((Lib.splitB sep 0 (Lib.countB s sep) s).map Value.string).toArray 9) := Any.strings_Split Tryd.lays146 (by kernel_rfl) s sep m w hs hm h1
def Tryd.laysM146_ren : Go.Shelf.Ren := ⟨fun | 146 => 27 | 221 => 38 | 268 => 49 | 138 => 50 | 143 => 51 | 195 => 56 | 197 => 57 | 218 => 35 | 219 => 58 | 260 => 62 | 217 => 59 | 225 => 63 | 224 => 64 | 267 => 65 | 266 => 66 | 314 => 69 | n => n, fun | 9 => 9 | 31 => 30 | 3 => 3 | 4 => 4 | 0 => 0 | 105 => 64 | 21 => 21 | 5 => 5 | 46 => 68 | 119 => 72 | 139 => 75 | 138 => 74 | 146 => 77 | 51 => 76 | n => n, fun | 1 => 0 | 3 => 1 | 4 => 2 | n => n⟩
theorem Tryd.laysM146 : Go.Proofs.LaysM.n146 Tryd.prog Tryd.laysM146_ren := {
  mixed := by kernel_rfl
  f138 := Tryd.func50.trans (congrArg some (by kernel_rfl))
  f143 := Tryd.func51.trans (congrArg some (by kernel_rfl))
  f146 := Tryd.func27.trans (congrArg some (by kernel_rfl))
  f195 := Tryd.func56.trans (congrArg some (by kernel_rfl))
  f197 := Tryd.func57.trans (congrArg some (by kernel_rfl))
  f217 := Tryd.func59.trans (congrArg some (by kernel_rfl))
  f218 := Tryd.func35.trans (congrArg some (by kernel_rfl))
  f219 := Tryd.func58.trans (congrArg some (by kernel_rfl))
  f221 := Tryd.func38.trans (congrArg some (by kernel_rfl))
  f224 := Tryd.func64.trans (congrArg some (by kernel_rfl))
  f225 := Tryd.func63.trans (congrArg some (by kernel_rfl))
  f260 := Tryd.func62.trans (congrArg some (by kernel_rfl))
  f266 := Tryd.func66.trans (congrArg some (by kernel_rfl))
  f267 := Tryd.func65.trans (congrArg some (by kernel_rfl))
  f268 := Tryd.func49.trans (congrArg some (by kernel_rfl))
  f314 := Tryd.func69.trans (congrArg some (by kernel_rfl))
  t0 := Tryd.underlying0
  a0 := Tryd.isAgg0
  z0 := Tryd.sizeOf0
  v0 := Tryd.zeroValue0
  t3 := Tryd.underlying3
  a3 := Tryd.isAgg3
  z3 := Tryd.sizeOf3
  v3 := Tryd.zeroValue3
  t4 := Tryd.underlying4
  a4 := Tryd.isAgg4
  z4 := Tryd.sizeOf4
  v4 := Tryd.zeroValue4
  t5 := Tryd.underlying5
  a5 := Tryd.isAgg5
  z5 := Tryd.sizeOf5
  v5 := Tryd.zeroValue5
  t9 := Tryd.underlying9
  a9 := Tryd.isAgg9
  z9 := Tryd.sizeOf9
  v9 := Tryd.zeroValue9
  t21 := Tryd.underlying21
  a21 := Tryd.isAgg21
  z21 := Tryd.sizeOf21
  v21 := Tryd.zeroValue21
  t31 := Tryd.underlying30
  a31 := Tryd.isAgg30
  z31 := Tryd.sizeOf30
  v31 := Tryd.zeroValue30
  t46 := Tryd.underlying68
  a46 := Tryd.isAgg68
  z46 := Tryd.sizeOf68
  v46 := Tryd.zeroValue68
  t51 := Tryd.underlying76
  a51 := Tryd.isAgg76
  z51 := Tryd.sizeOf76
  v51 := Tryd.zeroValue76
  t105 := Tryd.underlying64
  a105 := Tryd.isAgg64
  z105 := Tryd.sizeOf64
  v105 := Tryd.zeroValue64
  t119 := Tryd.underlying72
  a119 := Tryd.isAgg72
  z119 := Tryd.sizeOf72
  t138 := Tryd.underlying74
  a138 := Tryd.isAgg74
  z138 := Tryd.sizeOf74
  v138 := Tryd.zeroValue74
  t139 := Tryd.underlying75
  a139 := Tryd.isAgg75
  z139 := Tryd.sizeOf75
  v139 := Tryd.zeroValue75
  t146 := Tryd.underlying77
  a146 := Tryd.isAgg77
  z146 := Tryd.sizeOf77
  v146 := Tryd.zeroValue77
  g1 := by kernel_rfl
  g3 := by kernel_rfl
  g4 := by kernel_rfl
  i0 := by kernel_rfl
  i3 := by kernel_rfl
  i4 := by kernel_rfl
  i5 := by kernel_rfl
  i9 := by kernel_rfl
  i21 := by kernel_rfl
  i31 := by kernel_rfl
  i46 := by kernel_rfl
  i51 := by kernel_rfl
  i105 := by kernel_rfl
  i138 := by kernel_rfl
  i139 := by kernel_rfl
  i146 := by kernel_rfl
  m1 := by kernel_rfl
  s1_3 := fun w h => Go.Proofs.cell_of_shapedOpen_int (zero := #[.int .i64 0]) (t := 3) h (of_decide_eq_true (by kernel_rfl)) (by kernel_rfl) rfl (by kernel_rfl) (by kernel_rfl) Tryd.underlying3
  m3 := by kernel_rfl
  m4 := by kernel_rfl }
open Go.RowKit Go.Lib in
theorem Tryd.strings_Split_shaped (s sep : ByteArray) (w : World) (h : w.ShapedOpen Tryd.prog) (hs : s.size < 4294967281) (h1 : 1 ≤ sep.size) :
    Calls Tryd.prog 27 #[.string s, .string sep] w fun e w' =>
      e = .returned (.slice (some ⟨w.heap.size, 0, none⟩) (Lib.countB s sep + 1) (Lib.countB s sep + 1)) ∧ w' = w.alloc (.cells ((Lib.splitB sep 0 (Lib.countB s sep) s).map Value.string).toArray 9) := Any.strings_Split_shaped Tryd.laysM146 s sep w h hs h1
def Tryd.laysPa57_ren : Go.Shelf.Ren := ⟨fun | 57 => 40 | 59 => 41 | 60 => 43 | 66 => 52 | 70 => 59 | 73 => 66 | n => n, fun | 9 => 9 | 3 => 3 | 5 => 5 | 4 => 4 | 30 => 41 | 0 => 0 | n => n, fun | n => n⟩
theorem Tryd.laysPa57 : Go.Proofs.Lays.p57 Tryd.prog Tryd.laysPa57_ren := {
  mixed := by kernel_rfl
  f57 := Tryd.func40.trans (congrArg some (by kernel_rfl))
  f59 := Tryd.func41.trans (congrArg some (by kernel_rfl))
  f60 := Tryd.func43.trans (congrArg some (by kernel_rfl))
  f66 := Tryd.func52.trans (congrArg some (by kernel_rfl))
  f70 := Tryd.func59.trans (congrArg some (by kernel_rfl))
  f73 := Tryd.func66.trans (congrArg some (by kernel_rfl))
  t0 := Tryd.underlying0
  a0 := Tryd.isAgg0
  z0 := Tryd.sizeOf0
  v0 := Tryd.zeroValue0
  t3 := Tryd.underlying3
  a3 := Tryd.isAgg3
  z3 := Tryd.sizeOf3
  v3 := Tryd.zeroValue3
  t4 := Tryd.underlying4
  a4 := Tryd.isAgg4
  z4 := Tryd.sizeOf4
  v4 := Tryd.zeroValue4
  t5 := Tryd.underlying5
  a5 := Tryd.isAgg5
  z5 := Tryd.sizeOf5
  v5 := Tryd.zeroValue5
  t9 := Tryd.underlying9
  a9 := Tryd.isAgg9
  z9 := Tryd.sizeOf9
  v9 := Tryd.zeroValue9
  t30 := Tryd.underlying41
  a30 := Tryd.isAgg41
  z30 := Tryd.sizeOf41
  v30 := Tryd.zeroValue41 }
open Go.RowKit Go.Lib in
theorem Tryd.filepathlite_VolumeName (s : ByteArray) (w : World) :
    Calls Tryd.prog 40 #[.string s] w fun e w' => e = .returned (.string ⟨#[]⟩) ∧ w' = w := Any.filepathlite_VolumeName Tryd.laysPa57 s w
def Tryd.laysPah37_ren : Go.Shelf.Ren := ⟨fun | 37 => 25 | 54 => 36 | 59 => 41 | 56 => 42 | 60 => 43 | 61 => 44 | 62 => 45 | 63 => 46 | 64 => 47 | 66 => 52 | 70 => 59 | 73 => 66 | n => n, fun | 9 => 9 | 3 => 3 | 4 => 4 | 5 => 5 | 53 => 48 | 0 => 0 | 55 => 52 | 30 => 41 | n => n, fun | n => n⟩
theorem Tryd.laysPah37 : Go.Proofs.Lays.ph37 Tryd.prog Tryd.laysPah37_ren := {
  mixed := by kernel_rfl
  f37 := Tryd.func25.trans (congrArg some (by kernel_rfl))
  f54 := Tryd.func36.trans (congrArg some (by kernel_rfl))
  f56 := Tryd.func42.trans (congrArg some (by kernel_rfl))
  f59 := Tryd.func41.trans (congrArg some (by kernel_rfl))
  f60 := Tryd.func43.trans (congrArg some (by kernel_rfl))
  f61 := Tryd.func44.trans (congrArg some (by kernel_rfl))
  f62 := Tryd.func45.trans (congrArg some (by kernel_rfl))
  f63 := Tryd.func46.trans (congrArg some (by kernel_rfl))
  f64 := Tryd.func47.trans (congrArg some (by kernel_rfl))
  f66 := Tryd.func52.trans (congrArg some (by kernel_rfl))
  f70 := Tryd.func59.trans (congrArg some (by kernel_rfl))
  f73 := Tryd.func66.trans (congrArg some (by kernel_rfl))
  t0 := Tryd.underlying0
  a0 := Tryd.isAgg0
  z0 := Tryd.sizeOf0
  v0 := Tryd.zeroValue0
  t3 := Tryd.underlying3
  a3 := Tryd.isAgg3
  z3 := Tryd.sizeOf3
  v3 := Tryd.zeroValue3
  t4 := Tryd.underlying4
  a4 := Tryd.isAgg4
  z4 := Tryd.sizeOf4
  v4 := Tryd.zeroValue4
  t5 := Tryd.underlying5
  a5 := Tryd.isAgg5
  z5 := Tryd.sizeOf5
  v5 := Tryd.zeroValue5
  t9 := Tryd.underlying9
  a9 := Tryd.isAgg9
  z9 := Tryd.sizeOf9
  v9 := Tryd.zeroValue9
  t30 := Tryd.underlying41
  a30 := Tryd.isAgg41
  z30 := Tryd.sizeOf41
  v30 := Tryd.zeroValue41
  t53 := Tryd.underlying48
  a53 := Tryd.isAgg48
  z53 := Tryd.sizeOf48
  v53 := Tryd.zeroValue48
  t55 := Tryd.underlying52
  a55 := Tryd.isAgg52
  z55 := Tryd.sizeOf52
  v55 := Tryd.zeroValue52
  info5 := by kernel_rfl }
open Go.RowKit Go.Lib in
theorem Tryd.filepath_Clean (s : ByteArray) (w : World) (hbig : s.size ≤ 281474976710656) :
    Calls Tryd.prog 25 #[.string s] w fun e w' => e = .returned (.string ⟨(Pa.clean s.data.toList).toArray⟩) ∧ Below w.heap.size w w' := Any.filepath_Clean Tryd.laysPah37 s w hbig
def Tryd.laysPah34_ren : Go.Shelf.Ren := ⟨fun | 34 => 30 | 51 => 39 | 57 => 40 | 56 => 42 | 54 => 36 | 59 => 41 | 60 => 43 | 61 => 44 | 62 => 45 | 63 => 46 | 64 => 47 | 66 => 52 | 70 => 59 | 73 => 66 | n => n, fun | 9 => 9 | 3 => 3 | 4 => 4 | 5 => 5 | 53 => 48 | 0 => 0 | 55 => 52 | 30 => 41 | n => n, fun | n => n⟩
theorem Tryd.laysPah34 : Go.Proofs.Lays.ph34 Tryd.prog Tryd.laysPah34_ren := {
  mixed := by kernel_rfl
  f34 := Tryd.func30.trans (congrArg some (by kernel_rfl))
  f51 := Tryd.func39.trans (congrArg some (by kernel_rfl))
  f54 := Tryd.func36.trans (congrArg some (by kernel_rfl))
  f56 := Tryd.func42.trans (congrArg some (by kernel_rfl))
  f57 := Tryd.func40.trans (congrArg some (by kernel_rfl))
  f59 := Tryd.func41.trans (congrArg some (by kernel_rfl))
  f60 := Tryd.func43.trans (congrArg some (by kernel_rfl))
  f61 := Tryd.func44.trans (congrArg some (by kernel_rfl))
  f62 := Tryd.func45.trans (congrArg some (by kernel_rfl))
  f63 := Tryd.func46.trans (congrArg some (by kernel_rfl))
  f64 := Tryd.func47.trans (congrArg some (by kernel_rfl))
  f66 := Tryd.func52.trans (congrArg some (by kernel_rfl))
  f70 := Tryd.func59.trans (congrArg some (by kernel_rfl))
  f73 := Tryd.func66.trans (congrArg some (by kernel_rfl))
  t0 := Tryd.underlying0
  a0 := Tryd.isAgg0
  z0 := Tryd.sizeOf0
  v0 := Tryd.zeroValue0
  t3 := Tryd.underlying3
  a3 := Tryd.isAgg3
  z3 := Tryd.sizeOf3
  v3 := Tryd.zeroValue3
  t4 := Tryd.underlying4
  a4 := Tryd.isAgg4
  z4 := Tryd.sizeOf4
  v4 := Tryd.zeroValue4
  t5 := Tryd.underlying5
  a5 := Tryd.isAgg5
  z5 := Tryd.sizeOf5
  v5 := Tryd.zeroValue5
  t9 := Tryd.underlying9
  a9 := Tryd.isAgg9
  z9 := Tryd.sizeOf9
  v9 := Tryd.zeroValue9
  t30 := Tryd.underlying41
  a30 := Tryd.isAgg41
  z30 := Tryd.sizeOf41
  v30 := Tryd.zeroValue41
  t53 := Tryd.underlying48
  a53 := Tryd.isAgg48
  z53 := Tryd.sizeOf48
  v53 := Tryd.zeroValue48
  t55 := Tryd.underlying52
  a55 := Tryd.isAgg52
  z55 := Tryd.sizeOf52
  v55 := Tryd.zeroValue52
  info5 := by kernel_rfl }
open Go.RowKit Go.Lib in
theorem Tryd.filepath_Dir (s : ByteArray) (w : World) (hbig : s.size ≤ 281474976710656) :
    Calls Tryd.prog 30 #[.string s] w fun e w' => e = .returned (.string ⟨(Pa.dir s.data.toList).toArray⟩) ∧ Below w.heap.size w w' := Any.filepath_Dir Tryd.laysPah34 s w hbig
def Tryd.laysPah38_ren : Go.Shelf.Ren := ⟨fun | 38 => 26 | 55 => 37 | 65 => 48 | 37 => 25 | 67 => 53 | 68 => 54 | 69 => 55 | 54 => 36 | 71 => 60 | 72 => 61 | 59 => 41 | 56 => 42 | 60 => 43 | 61 => 44 | 62 => 45 | 63 => 46 | 64 => 47 | 74 => 67 | 75 => 68 | 66 => 52 | 70 => 59 | 73 => 66 | n => n, fun | 26 => 30 | 9 => 9 | 3 => 3 | 0 => 0 | 4 => 4 | 20 => 20 | 60 => 60 | 38 => 62 | 58 => 58 | 30 => 41 | 35 => 34 | 63 => 66 | 5 => 5 | 53 => 48 | 55 => 52 | 64 => 69 | 45 => 53 | n => n, fun | n => n⟩
theorem Tryd.laysPah38 : Go.Proofs.Lays.ph38 Tryd.prog Tryd.laysPah38_ren := {
  mixed := by kernel_rfl
  f37 := Tryd.func25.trans (congrArg some (by kernel_rfl))
  f38 := Tryd.func26.trans (congrArg some (by kernel_rfl))
  f54 := Tryd.func36.trans (congrArg some (by kernel_rfl))
  f55 := Tryd.func37.trans (congrArg some (by kernel_rfl))
  f56 := Tryd.func42.trans (congrArg some (by kernel_rfl))
  f59 := Tryd.func41.trans (congrArg some (by kernel_rfl))
  f60 := Tryd.func43.trans (congrArg some (by kernel_rfl))
  f61 := Tryd.func44.trans (congrArg some (by kernel_rfl))
  f62 := Tryd.func45.trans (congrArg some (by kernel_rfl))
  f63 := Tryd.func46.trans (congrArg some (by kernel_rfl))
  f64 := Tryd.func47.trans (congrArg some (by kernel_rfl))
  f65 := Tryd.func48.trans (congrArg some (by kernel_rfl))
  f66 := Tryd.func52.trans (congrArg some (by kernel_rfl))
  f67 := Tryd.func53.trans (congrArg some (by kernel_rfl))
  f68 := Tryd.func54.trans (congrArg some (by kernel_rfl))
  f69 := Tryd.func55.trans (congrArg some (by kernel_rfl))
  f70 := Tryd.func59.trans (congrArg some (by kernel_rfl))
  f71 := Tryd.func60.trans (congrArg some (by kernel_rfl))
  f72 := Tryd.func61.trans (congrArg some (by kernel_rfl))
  f73 := Tryd.func66.trans (congrArg some (by kernel_rfl))
  f74 := Tryd.func67.trans (congrArg some (by kernel_rfl))
  f75 := Tryd.func68.trans (congrArg some (by kernel_rfl))
  t0 := Tryd.underlying0
  a0 := Tryd.isAgg0
  z0 := Tryd.sizeOf0
  v0 := Tryd.zeroValue0
  t3 := Tryd.underlying3
  a3 := Tryd.isAgg3
  z3 := Tryd.sizeOf3
  v3 := Tryd.zeroValue3
  t4 := Tryd.underlying4
  a4 := Tryd.isAgg4
  z4 := Tryd.sizeOf4
  v4 := Tryd.zeroValue4
  t5 := Tryd.underlying5
  a5 := Tryd.isAgg5
  z5 := Tryd.sizeOf5
  v5 := Tryd.zeroValue5
  t9 := Tryd.underlying9
  a9 := Tryd.isAgg9
  z9 := Tryd.sizeOf9
  v9 := Tryd.zeroValue9
  t20 := Tryd.underlying20
  a20 := Tryd.isAgg20
  z20 := Tryd.sizeOf20
  v20 := Tryd.zeroValue20
  t26 := Tryd.underlying30
  a26 := Tryd.isAgg30
  z26 := Tryd.sizeOf30
  v26 := Tryd.zeroValue30
  t30 := Tryd.underlying41
  a30 := Tryd.isAgg41
  z30 := Tryd.sizeOf41
  v30 := Tryd.zeroValue41
  t35 := Tryd.underlying34
  a35 := Tryd.isAgg34
  z35 := Tryd.sizeOf34
  v35 := Tryd.zeroValue34
  t38 := Tryd.underlying62
  a38 := Tryd.isAgg62
  z38 := Tryd.sizeOf62
  v38 := Tryd.zeroValue62
  t45 := Tryd.underlying53
  a45 := Tryd.isAgg53
  z45 := Tryd.sizeOf53
  v45 := Tryd.zeroValue53
  t53 := Tryd.underlying48
  a53 := Tryd.isAgg48
  z53 := Tryd.sizeOf48
  v53 := Tryd.zeroValue48
  t55 := Tryd.underlying52
  a55 := Tryd.isAgg52
  z55 := Tryd.sizeOf52
  v55 := Tryd.zeroValue52
  t58 := Tryd.underlying58
  a58 := Tryd.isAgg58
  z58 := Tryd.sizeOf58
  v58 := Tryd.zeroValue58
  t60 := Tryd.underlying60
  a60 := Tryd.isAgg60
  z60 := Tryd.sizeOf60
  v60 := Tryd.zeroValue60
  t63 := Tryd.underlying66
  a63 := Tryd.isAgg66
  z63 := Tryd.sizeOf66
  v63 := Tryd.zeroValue66
  t64 := Tryd.underlying69
  a64 := Tryd.isAgg69
  z64 := Tryd.sizeOf69
  v64 := Tryd.zeroValue69
  sizeBuilder := by kernel_rfl
  liesBuilder := by kernel_rfl
  info5 := by kernel_rfl
  cellsByte := by kernel_rfl
  sizeByte := by kernel_rfl
  neB5 := by kernel_rfl }
open Go.RowKit Go.Lib in
theorem Tryd.filepath_Join (bk o c : Nat) (xs : List ByteArray) (w : World) (hcells : ∀ (j : Nat) x, xs[j]? = some x → w.cell? ⟨bk, o + j, none⟩ = some (.string x)) (hbk : bk < w.heap.size) (hcap : xs.length ≤ c) (hlen : Lib.lens (xs.map (·.data.toList)) + xs.length ≤ 140737488355328) :
    Calls Tryd.prog 26 #[.slice (some ⟨bk, o, none⟩) xs.length c] w fun e w' => e = .returned (.string ⟨(Pa.fjoin (xs.map (·.data.toList))).toArray⟩) ∧ Below w.heap.size w w' := Any.filepath_Join Tryd.laysPah38 bk o c xs w hcells hbk hcap hlen
def Tryd.laysPa38_ren : Go.Shelf.Ren := ⟨fun | 38 => 26 | 55 => 37 | 65 => 48 | 37 => 25 | 67 => 53 | 68 => 54 | 69 => 55 | 54 => 36 | 71 => 60 | 72 => 61 | 59 => 41 | 56 => 42 | 60 => 43 | 61 => 44 | 62 => 45 | 63 => 46 | 64 => 47 | 74 => 67 | 75 => 68 | 66 => 52 | 70 => 59 | 73 => 66 | n => n, fun | 26 => 30 | 9 => 9 | 3 => 3 | 0 => 0 | 4 => 4 | 20 => 20 | 60 => 60 | 38 => 62 | 58 => 58 | 30 => 41 | 35 => 34 | 63 => 66 | 5 => 5 | 53 => 48 | 55 => 52 | 64 => 69 | 45 => 53 | n => n, fun | n => n⟩
theorem Tryd.laysPa38 : Go.Proofs.Lays.p38 Tryd.prog Tryd.laysPa38_ren := {
  mixed := by kernel_rfl
  f37 := Tryd.func25.trans (congrArg some (by kernel_rfl))
  f38 := Tryd.func26.trans (congrArg some (by kernel_rfl))
  f54 := Tryd.func36.trans (congrArg some (by kernel_rfl))
  f55 := Tryd.func37.trans (congrArg some (by kernel_rfl))
  f56 := Tryd.func42.trans (congrArg some (by kernel_rfl))
  f59 := Tryd.func41.trans (congrArg some (by kernel_rfl))
  f60 := Tryd.func43.trans (congrArg some (by kernel_rfl))
  f61 := Tryd.func44.trans (congrArg some (by kernel_rfl))
  f62 := Tryd.func45.trans (congrArg some (by kernel_rfl))
  f63 := Tryd.func46.trans (congrArg some (by kernel_rfl))
  f64 := Tryd.func47.trans (congrArg some (by kernel_rfl))
  f65 := Tryd.func48.trans (congrArg some (by kernel_rfl))
  f66 := Tryd.func52.trans (congrArg some (by kernel_rfl))
  f67 := Tryd.func53.trans (congrArg some (by kernel_rfl))
  f68 := Tryd.func54.trans (congrArg some (by kernel_rfl))
  f69 := Tryd.func55.trans (congrArg some (by kernel_rfl))
  f70 := Tryd.func59.trans (congrArg some (by kernel_rfl))
  f71 := Tryd.func60.trans (congrArg some (by kernel_rfl))
  f72 := Tryd.func61.trans (congrArg some (by kernel_rfl))
  f73 := Tryd.func66.trans (congrArg some (by kernel_rfl))
  f74 := Tryd.func67.trans (congrArg some (by kernel_rfl))
  f75 := Tryd.func68.trans (congrArg some (by kernel_rfl))
  t0 := Tryd.underlying0
  a0 := Tryd.isAgg0
  z0 := Tryd.sizeOf0
  v0 := Tryd.zeroValue0
  t3 := Tryd.underlying3
  a3 := Tryd.isAgg3
  z3 := Tryd.sizeOf3
  v3 := Tryd.zeroValue3
  t4 := Tryd.underlying4
  a4 := Tryd.isAgg4
  z4 := Tryd.sizeOf4
  v4 := Tryd.zeroValue4
  t5 := Tryd.underlying5
  a5 := Tryd.isAgg5
  z5 := Tryd.sizeOf5
  v5 := Tryd.zeroValue5
  t9 := Tryd.underlying9
  a9 := Tryd.isAgg9
  z9 := Tryd.sizeOf9
  v9 := Tryd.zeroValue9
  t20 := Tryd.underlying20
  a20 := Tryd.isAgg20
  z20 := Tryd.sizeOf20
  v20 := Tryd.zeroValue20
  t26 := Tryd.underlying30
  a26 := Tryd.isAgg30
  z26 := Tryd.sizeOf30
  v26 := Tryd.zeroValue30
  t30 := Tryd.underlying41
  a30 := Tryd.isAgg41
  z30 := Tryd.sizeOf41
  v30 := Tryd.zeroValue41
  t35 := Tryd.underlying34
  a35 := Tryd.isAgg34
  z35 := Tryd.sizeOf34
  v35 := Tryd.zeroValue34
  t38 := Tryd.underlying62
  a38 := Tryd.isAgg62
  z38 := Tryd.sizeOf62
  v38 := Tryd.zeroValue62
  t45 := Tryd.underlying53
  a45 := Tryd.isAgg53
  z45 := Tryd.sizeOf53
  v45 := Tryd.zeroValue53
  t53 := Tryd.underlying48
  a53 := Tryd.isAgg48
  z53 := Tryd.sizeOf48
  v53 := Tryd.zeroValue48
  t55 := Tryd.underlying52
  a55 := Tryd.isAgg52
  z55 := Tryd.sizeOf52
  v55 := Tryd.zeroValue52
  t58 := Tryd.underlying58
  a58 := Tryd.isAgg58
  z58 := Tryd.sizeOf58
  v58 := Tryd.zeroValue58
  t60 := Tryd.underlying60
  a60 := Tryd.isAgg60
  z60 := Tryd.sizeOf60
  v60 := Tryd.zeroValue60
  t63 := Tryd.underlying66
  a63 := Tryd.isAgg66
  z63 := Tryd.sizeOf66
  v63 := Tryd.zeroValue66
  t64 := Tryd.underlying69
  a64 := Tryd.isAgg69
  z64 := Tryd.sizeOf69
  v64 := Tryd.zeroValue69 }
open Go.RowKit Go.Lib in
theorem Tryd.filepath_Join_nil (w : World) :
    Calls Tryd.prog 26 #[.slice none 0 0] w fun e w' => e = .returned (.string ⟨#[]⟩) ∧ w' = w := Any.filepath_Join_nil Tryd.laysPa38 w
end Go.Proofs
