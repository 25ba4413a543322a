/-
  laws.FnRelOfSplit returns true at every path. Conditions: the path is no longer than 2^47 - 4096 bytes.
-/
import Derived.Test.YtgkbkocakinmfaaImpl
import Derived.Test.YtgkbkocakinmfaaPlainSplit
namespace Go.Proofs.Ytgkbkocakinmfaa
open Go.RowKit Go.Lib

theorem implSplit_any (s : ByteArray) (w : World) (hs : s.size ≤ 9223372036854775807) :
    Calls Try.prog 29 #[.string s] w fun e w' => e = .returned (.tuple #[.string ⟨(Pa.split s.data.toList).1.toArray⟩, .string ⟨(Pa.split s.data.toList).2.toArray⟩]) ∧ Below w.heap.size w w' := by
  have HC := Lib.hid (Try.filepath_Split s w hs)
  clear hs
  generalize (⟨(Pa.split s.data.toList).1.toArray⟩ : ByteArray) = a at *
  generalize (⟨(Pa.split s.data.toList).2.toArray⟩ : ByteArray) = b at *
  go_enter Try.func29, Try.ntmps29
  go_wp2_with fail
  refine HC.out.mono ?_
  rintro e w1 ⟨rfl, n, rfl⟩
  go_wp2_with fail
  go_ret2
  exact ⟨rfl, below_drewN (Below.refl _ _) _⟩

theorem fnRelOfSplit_walk (p : ByteArray) (w : World) (h : p.size ≤ 140737488351232) :
    Calls Try.prog 14 #[.string p] w fun e w' => e = .returned (.bool true) ∧ Below w.heap.size w w' := by
  have C1 := Lib.hid (fun W => implSplit_any p W (by omega))
  have C9 := Lib.hid (fun W => wakes_any W)
  have hl : (Pa.split p.data.toList).1.length + (Pa.split p.data.toList).2.length = p.size := by
    rw [← List.length_append, Pl.split_app, ← Lib.size_eq]
  have happ : (((⟨(Pa.split p.data.toList).1.toArray⟩ : ByteArray) ++ (⟨(Pa.split p.data.toList).2.toArray⟩ : ByteArray)).toList == p.toList) = true := by
    rw [Lib.toList_data, Lib.toList_data, app_list]
    show ((Pa.split p.data.toList).1 ++ (Pa.split p.data.toList).2 == p.data.toList) = true
    rw [Pl.split_app]
    simp
  have hf : ∀ l : Pl.Bs, ((⟨(Pa.split p.data.toList).2.toArray⟩ : ByteArray).toList == l) = ((Pa.split p.data.toList).2 == l) := by
    intro l
    rw [Lib.toList_data]
  have hsz1 : (⟨(Pa.split p.data.toList).1.toArray⟩ : ByteArray).size ≤ p.size := by rw [show (⟨(Pa.split p.data.toList).1.toArray⟩ : ByteArray).size = (Pa.split p.data.toList).1.length from Pa.size_mk _]; omega
  have hsz2 : (⟨(Pa.split p.data.toList).2.toArray⟩ : ByteArray).size ≤ p.size := by rw [show (⟨(Pa.split p.data.toList).2.toArray⟩ : ByteArray).size = (Pa.split p.data.toList).2.length from Pa.size_mk _]; omega
  have hemp : (⟨(Pa.split p.data.toList).2.toArray⟩ : ByteArray).toList.isEmpty = ((Pa.split p.data.toList).2 == []) := by
    rw [Lib.toList_data]
    show (Pa.split p.data.toList).2.isEmpty = _
    cases (Pa.split p.data.toList).2 <;> rfl
  have hall : ∃ (d f : ByteArray) (e1 e2 e3 : Bool), (∀ W : World, Calls Try.prog 29 #[.string p] W fun e w' => e = .returned (.tuple #[.string d, .string f]) ∧ Below W.heap.size W w') ∧
      ((d ++ f).toList == p.toList) = true ∧ d.size ≤ p.size ∧ f.size ≤ p.size ∧ f.toList.isEmpty = e1 ∧ (f.toList == [46]) = e2 ∧ (f.toList == [46, 46]) = e3 ∧
      (e1 = false → e2 = false → e3 = false → ∀ W : World, Calls Try.prog 17 #[.string d, .string p] W fun e w' => e = .returned (.tuple #[.string f, .bool true]) ∧ Below W.heap.size W w') := by
    refine ⟨_, _, _, _, _, C1.out, happ, hsz1, hsz2, rfl, rfl, rfl, ?_⟩
    intro h1 h2 h3 W
    rw [hemp, beq_eq_false_iff_ne] at h1
    rw [hf, beq_eq_false_iff_ne] at h2 h3
    have hto := Pl.to_split p.data.toList ⟨h1, h2, h3, Pl.split_no47 _⟩
    have c := implRel_any ⟨(Pa.split p.data.toList).1.toArray⟩ p W (by omega) (by omega) (fun _ => (Pl.room_child hto).1)
    rw [show (⟨(Pa.split p.data.toList).1.toArray⟩ : ByteArray).data.toList = (Pa.split p.data.toList).1 from rfl, (Pl.relS_child hto).1, (Pl.relS_child hto).2.1] at c
    exact c
  obtain ⟨d, f, e1, e2, e3, k1, k2, k3, k4, k5, k6, k7, k8⟩ := hall
  have K1 := Lib.hid k1
  have K8 := Lib.hid k8
  clear C1 hl happ hf hsz1 hsz2 hemp k1 k8
  cases e1 with
  | true =>
    have HB0 := Lib.hid (Below.refl w.heap.size w)
    go_enter Try.func14, Try.ntmps14
    go_wp2_with fail
    refine (K1.out _).mono ?_
    rintro e w1 ⟨rfl, hb1⟩
    have HB1 := Lib.hid (HB0.out.trans (hb1.mono HB0.out.size))
    clear hb1 HB0
    go_wp2_with fail
    refine (C9.out _).mono ?_
    rintro e w2 ⟨rfl, hb2⟩
    have HB2 := Lib.hid (HB1.out.trans (hb2.mono HB1.out.size))
    clear hb2 HB1
    go_wp2_with fail
    go_ret
    exact ⟨rfl, HB2.out⟩
  | false =>
    cases e2 with
    | true =>
      have HB0 := Lib.hid (Below.refl w.heap.size w)
      go_enter Try.func14, Try.ntmps14
      go_wp2_with fail
      refine (K1.out _).mono ?_
      rintro e w1 ⟨rfl, hb1⟩
      have HB1 := Lib.hid (HB0.out.trans (hb1.mono HB0.out.size))
      clear hb1 HB0
      go_wp2_with fail
      refine (C9.out _).mono ?_
      rintro e w2 ⟨rfl, hb2⟩
      have HB2 := Lib.hid (HB1.out.trans (hb2.mono HB1.out.size))
      clear hb2 HB1
      go_wp2_with fail
      go_ret
      exact ⟨rfl, HB2.out⟩
    | false =>
      cases e3 with
      | true =>
        have HB0 := Lib.hid (Below.refl w.heap.size w)
        go_enter Try.func14, Try.ntmps14
        go_wp2_with fail
        refine (K1.out _).mono ?_
        rintro e w1 ⟨rfl, hb1⟩
        have HB1 := Lib.hid (HB0.out.trans (hb1.mono HB0.out.size))
        clear hb1 HB0
        go_wp2_with fail
        refine (C9.out _).mono ?_
        rintro e w2 ⟨rfl, hb2⟩
        have HB2 := Lib.hid (HB1.out.trans (hb2.mono HB1.out.size))
        clear hb2 HB1
        go_wp2_with fail
        go_ret
        exact ⟨rfl, HB2.out⟩
      | false =>
        have K := Lib.hid (K8.out rfl rfl rfl)
        have hff : (f.toList == f.toList) = true := by simp
        clear K8
        have HB0 := Lib.hid (Below.refl w.heap.size w)
        go_enter Try.func14, Try.ntmps14
        go_wp2_with fail
        refine (K1.out _).mono ?_
        rintro e w1 ⟨rfl, hb1⟩
        have HB1 := Lib.hid (HB0.out.trans (hb1.mono HB0.out.size))
        clear hb1 HB0
        go_wp2_with fail
        refine (K.out _).mono ?_
        rintro e w2 ⟨rfl, hb2⟩
        have HB2 := Lib.hid (HB1.out.trans (hb2.mono HB1.out.size))
        clear hb2 HB1
        go_wp2_with fail
        go_ret
        exact ⟨rfl, HB2.out⟩

end Go.Proofs.Ytgkbkocakinmfaa
