/-
  The small functions on the road of Rel: the volume's name is empty, two words are held against each other, an error is made. For every input.
-/
import Derived.Test.YtgkbkocakinmfaaShelf
import Derived.Test.YtgkbkocakinmfaaPlainRel
import Derived.WalkKit
import Derived.WalkSpells
import Derived.WalkLawsBesides
import Derived.Lib.Hide
namespace Go.Proofs.Ytgkbkocakinmfaa
open Go.RowKit Go.Lib

theorem volumeName_any (s : ByteArray) (w : World) :
    Calls Try.prog 47 #[.string s] w fun e w' => e = .returned (.string ⟨#[]⟩) ∧ w = w' := by
  go_enter Try.func47, Try.ntmps47
  go_wp2_with fail
  refine (Try.filepathlite_VolumeName _ _).mono ?_
  rintro e w' ⟨rfl, rfl⟩
  go_wp2_with fail
  go_ret
  exact ⟨rfl, rfl⟩

theorem sameWord_any (a b : ByteArray) (w : World) :
    Calls Try.prog 48 #[.string a, .string b] w fun e w' => e = .returned (.bool (a.toList == b.toList)) ∧ w = w' := by
  go_enter Try.func48, Try.ntmps48
  go_wp2_with fail
  go_ret
  exact ⟨rfl, rfl⟩

theorem sameWord_q (a b : ByteArray) (w : World) :
    Calls Try.prog 48 #[.string a, .string b] w fun e w' => e = .returned (.bool (a.toList == b.toList)) ∧ w' = w :=
  (sameWord_any a b w).mono fun _ _ ⟨h1, h2⟩ => ⟨h1, h2.symm⟩

theorem clean_list (l : List UInt8) (w : World) (h : l.length ≤ 281474976710656) :
    Calls Try.prog 34 #[.string ⟨l.toArray⟩] w fun e w' => e = .returned (.string ⟨(Pa.clean l).toArray⟩) ∧ Below w.heap.size w w' :=
  Try.filepath_Clean ⟨l.toArray⟩ w (by rw [Pa.size_mk]; exact h)

theorem errorsNew_any (s : ByteArray) (w : World) :
    Calls Try.prog 50 #[.string s] w fun e w' => e = .returned (.iface 55 (.pointer (some ⟨w.heap.size, 0, none⟩))) ∧ Below w.heap.size w w' := by
  go_enter Try.func50, Try.ntmps50
  go_wp2_with fail
  go_ret
  exact ⟨rfl, (Below.refl _ _).alloc (Nat.le_refl _) _⟩

end Go.Proofs.Ytgkbkocakinmfaa
