/-
  laws.FnRelIsClean returns true at every two paths. Conditions: both together are no longer than 2^20 bytes.
-/
import Derived.Test.YtgkbkocakinmfaaImpl
import Derived.Test.YtgkbkocakinmfaaPlainJoin
namespace Go.Proofs.Ytgkbkocakinmfaa
open Go.RowKit Go.Lib

theorem implIsAbs_any (s : ByteArray) (w : World) :
    Calls Try.prog 28 #[.string s] w fun e w' => e = .returned (.bool (Pl.isR s.data.toList)) ∧ Below w.heap.size w w' := by
  have HC := Lib.hid (Try.filepath_IsAbs s w)
  have e : Pl.isR s.data.toList = Pa.isAbs s.data.toList := rfl
  rw [e]
  clear e
  generalize Pa.isAbs s.data.toList = b at *
  go_enter Try.func28, Try.ntmps28
  go_wp2_with fail
  refine HC.out.mono ?_
  rintro e w1 ⟨rfl, rfl⟩
  go_wp2_with fail
  go_ret
  exact ⟨rfl, Below.refl _ _⟩

theorem fnRelIsClean_walk (b t : ByteArray) (w : World) (h : b.size + t.size ≤ 1048576) :
    Calls Try.prog 13 #[.string b, .string t] w fun e w' => e = .returned (.bool true) ∧ Below w.heap.size w w' := by
  have hl := Pl.rel_len b.data.toList t.data.toList
  rw [← Lib.size_eq, ← Lib.size_eq] at hl
  have c1 := fun W => implRel_small b t W (by omega) (by omega)
  have C9 := Lib.hid (fun W => wakes_any W)
  cases hw : Pl.way (Pl.to b.data.toList) (Pl.to t.data.toList) with
  | none =>
    rw [(Pl.relS_none hw).1, (Pl.relS_none hw).2] at c1
    have C1 := Lib.hid c1
    clear c1 hw hl
    have HB0 := Lib.hid (Below.refl w.heap.size w)
    go_enter Try.func13, Try.ntmps13
    go_wp2_with fail
    refine (C1.out _).mono ?_
    rintro e w1 ⟨rfl, hb1⟩
    have HB1 := Lib.hid (HB0.out.trans (hb1.mono HB0.out.size))
    clear hb1 HB0
    go_wp2_with fail
    refine (C9.out _).mono ?_
    rintro e w2 ⟨rfl, hb2⟩
    have HB2 := Lib.hid (HB1.out.trans (hb2.mono HB1.out.size))
    clear hb2 HB1
    go_wp2_with fail
    go_ret
    exact ⟨rfl, HB2.out⟩
  | some r =>
    obtain ⟨k1, k2, k3⟩ := Pl.relS_ne hw
    rw [(Pl.relS_some hw).2] at c1
    have c2 := fun W => implClean_any ⟨(Pl.relS b.data.toList t.data.toList).toArray⟩ W (by rw [Pa.size_mk]; omega)
    have c3 := fun W => implIsAbs_any ⟨(Pl.relS b.data.toList t.data.toList).toArray⟩ W
    rw [show (⟨(Pl.relS b.data.toList t.data.toList).toArray⟩ : ByteArray).data.toList = Pl.relS b.data.toList t.data.toList from rfl, k3] at c2
    rw [show (⟨(Pl.relS b.data.toList t.data.toList).toArray⟩ : ByteArray).data.toList = Pl.relS b.data.toList t.data.toList from rfl, k2] at c3
    have h1 : (⟨(Pl.relS b.data.toList t.data.toList).toArray⟩ : ByteArray).toList.isEmpty = false := by rw [Lib.toList_data]; simpa using k1
    have C1 := Lib.hid c1
    have C2 := Lib.hid c2
    have C3 := Lib.hid c3
    generalize (⟨(Pl.relS b.data.toList t.data.toList).toArray⟩ : ByteArray) = rr at C1 C2 C3 h1
    have h2 : (!rr.toList.isEmpty) = true := by rw [h1]; rfl
    have hcl : (rr.toList == rr.toList) = true := by simp
    clear c1 c2 c3 hw hl k1 k2 k3
    have HB0 := Lib.hid (Below.refl w.heap.size w)
    go_enter Try.func13, Try.ntmps13
    go_wp2_with fail
    refine (C1.out _).mono ?_
    rintro e w1 ⟨rfl, hb1⟩
    have HB1 := Lib.hid (HB0.out.trans (hb1.mono HB0.out.size))
    clear hb1 HB0
    go_wp2_with fail
    refine (C2.out _).mono ?_
    rintro e w2 ⟨rfl, hb2⟩
    have HB2 := Lib.hid (HB1.out.trans (hb2.mono HB1.out.size))
    clear hb2 HB1
    go_wp2_with fail
    refine (C3.out _).mono ?_
    rintro e w3 ⟨rfl, hb3⟩
    have HB3 := Lib.hid (HB2.out.trans (hb3.mono HB2.out.size))
    clear hb3 HB2
    go_wp2_with fail
    refine (C9.out _).mono ?_
    rintro e w4 ⟨rfl, hb4⟩
    have HB4 := Lib.hid (HB3.out.trans (hb4.mono HB3.out.size))
    clear hb4 HB3
    go_wp2_with fail
    go_ret
    exact ⟨rfl, HB4.out⟩

end Go.Proofs.Ytgkbkocakinmfaa
