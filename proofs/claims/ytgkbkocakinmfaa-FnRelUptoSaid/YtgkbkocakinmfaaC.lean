/-
  What the thin package's functions return, as short words for the laws' walks. For every input. Conditions: as each theorem states them.
-/
import Derived.Test.YtgkbkocakinmfaaImpl
import Derived.Test.YtgkbkocakinmfaaPlainJoin
namespace Go.Proofs.Ytgkbkocakinmfaa
open Go.RowKit Go.Lib

def bs (l : Pl.Bs) : ByteArray := ⟨l.toArray⟩
theorem bs_data (l : Pl.Bs) : (bs l).data.toList = l := rfl
theorem bs_list (l : Pl.Bs) : (bs l).toList = l := by rw [Lib.toList_data]; rfl
theorem bs_size (l : Pl.Bs) : (bs l).size = l.length := Pa.size_mk l
theorem bs_of (s : ByteArray) : bs s.data.toList = s := Lib.mk_data s

def RelC (s t r : ByteArray) (ok : Bool) : Prop := ∀ W : World, Calls Try.prog 17 #[.string s, .string t] W fun e w' => e = .returned (.tuple #[.string r, .bool ok]) ∧ Below W.heap.size W w'
def CleanC (s c : ByteArray) : Prop := ∀ W : World, Calls Try.prog 18 #[.string s] W fun e w' => e = .returned (.string c) ∧ Below W.heap.size W w'
def Join2C (a b j : ByteArray) : Prop := ∀ W : World, Calls Try.prog 20 #[.slice (some ⟨W.heap.size, 0, none⟩) 2 2] (W.alloc (.cells #[.string a, .string b] 9)) fun e w' => e = .returned (.string j) ∧ Below W.heap.size W w'
def Join3C (a b c j : ByteArray) : Prop := ∀ W : World, Calls Try.prog 20 #[.slice (some ⟨W.heap.size, 0, none⟩) 3 3] (W.alloc (.cells #[.string a, .string b, .string c] 9)) fun e w' => e = .returned (.string j) ∧ Below W.heap.size W w'
def WakesC : Prop := ∀ W : World, Calls Try.prog 22 #[] W fun e w' => e = .returned (.bool true) ∧ Below W.heap.size W w'

theorem wakes_c : WakesC := fun W => wakes_any W
theorem rel_c (s t : ByteArray) (hs : s.size ≤ 8796093022208) (ht : t.size ≤ 8796093022208) : RelC s t (bs (Pl.relS s.data.toList t.data.toList)) (Pl.relOk s.data.toList t.data.toList) := fun W => implRel_small s t W hs ht
theorem rel_some {s t : ByteArray} (hs : s.size ≤ 8796093022208) (ht : t.size ≤ 8796093022208) {r : Pl.Place} (h : Pl.way (Pl.to s.data.toList) (Pl.to t.data.toList) = some r) : RelC s t (bs (Pl.text r)) true := by
  have k := rel_c s t hs ht
  rw [(Pl.relS_some h).1, (Pl.relS_some h).2] at k
  exact k
theorem rel_none {s t : ByteArray} (hs : s.size ≤ 8796093022208) (ht : t.size ≤ 8796093022208) (h : Pl.way (Pl.to s.data.toList) (Pl.to t.data.toList) = none) : RelC s t (bs []) false := by
  have k := rel_c s t hs ht
  rw [(Pl.relS_none h).1, (Pl.relS_none h).2] at k
  exact k
theorem clean_c (s : ByteArray) (hs : s.size ≤ 8796093022208) : CleanC s (bs (Pl.text (Pl.to s.data.toList))) := fun W => by
  have k := implClean_any s W (by omega)
  rw [Pl.clean_eq] at k
  exact k
theorem join2_c (a b : ByteArray) (h : a.size + b.size ≤ 70368744177664) : Join2C a b (bs (Pa.join [a.data.toList, b.data.toList])) := fun W => implJoin_two a b W 9 h
theorem join3_c (a b c : ByteArray) (h : a.size + b.size + c.size ≤ 70368744177664) : Join3C a b c (bs (Pa.join [a.data.toList, b.data.toList, c.data.toList])) := fun W => implJoin_three a b c W 9 h

theorem text_size (s : ByteArray) : (bs (Pl.text (Pl.to s.data.toList))).size ≤ s.size + 1 := by
  rw [bs_size, ← Pl.clean_eq, Lib.size_eq]
  exact Pl.clean_len _
theorem way_size {s t : ByteArray} {r : Pl.Place} (h : Pl.way (Pl.to s.data.toList) (Pl.to t.data.toList) = some r) : (bs (Pl.text r)).size ≤ 3 * s.size + 4 * t.size + 12 := by
  have := Pl.rel_len s.data.toList t.data.toList
  rw [(Pl.relS_some h).1, ← Lib.size_eq, ← Lib.size_eq] at this
  rw [bs_size]
  exact this
theorem beq_true (a : ByteArray) : (a.toList == a.toList) = true := by simp
theorem bs_beq (a b : Pl.Bs) : ((bs a).toList == (bs b).toList) = (a == b) := by rw [bs_list, bs_list]
end Go.Proofs.Ytgkbkocakinmfaa
