/-
  laws.FnRelOfDir returns true at every path. Conditions: the path is no longer than 2^47 - 4096 bytes.
-/
import Derived.Test.YtgkbkocakinmfaaImpl
import Derived.Test.YtgkbkocakinmfaaPlainSplit
namespace Go.Proofs.Ytgkbkocakinmfaa
open Go.RowKit Go.Lib

theorem implBase_any (s : ByteArray) (w : World) (hs : s.size ≤ 9223372036854775807) :
    Calls Try.prog 31 #[.string s] w fun e w' => e = .returned (.string ⟨(Pa.base s.data.toList).toArray⟩) ∧ Below w.heap.size w w' := by
  have HC := Lib.hid (Try.filepath_Base s w hs)
  clear hs
  generalize (⟨(Pa.base s.data.toList).toArray⟩ : ByteArray) = a at *
  go_enter Try.func31, Try.ntmps31
  go_wp2_with fail
  refine HC.out.mono ?_
  rintro e w1 ⟨rfl, rfl⟩
  go_wp2_with fail
  go_ret
  exact ⟨rfl, Below.refl _ _⟩

theorem implDir_any (s : ByteArray) (w : World) (hs : s.size ≤ 281474976710656) :
    Calls Try.prog 32 #[.string s] w fun e w' => e = .returned (.string ⟨(Pa.clean (Pa.split s.data.toList).1).toArray⟩) ∧ Below w.heap.size w w' := by
  have HC := Lib.hid (Try.filepath_Dir s w hs)
  unfold Pa.dir at HC
  clear hs
  generalize (⟨(Pa.clean (Pa.split s.data.toList).1).toArray⟩ : ByteArray) = a at *
  go_enter Try.func32, Try.ntmps32
  go_wp2_with fail
  refine HC.out.mono ?_
  rintro e w1 ⟨rfl, hb⟩
  have HB := Lib.hid hb
  clear hb
  go_wp2_with fail
  go_ret
  exact ⟨rfl, HB.out⟩

theorem fnRelOfDir_walk (p0 : ByteArray) (w : World) (h : p0.size ≤ 140737488351232) :
    Calls Try.prog 16 #[.string p0] w fun e w' => e = .returned (.bool true) ∧ Below w.heap.size w w' := by
  have C9 := Lib.hid (fun W => wakes_any W)
  have hall : ∃ (p d f : ByteArray) (e1 e2 e3 : Bool), (∀ W : World, Calls Try.prog 18 #[.string p0] W fun e w' => e = .returned (.string p) ∧ Below W.heap.size W w') ∧
      (∀ W : World, Calls Try.prog 31 #[.string p] W fun e w' => e = .returned (.string f) ∧ Below W.heap.size W w') ∧
      (∀ W : World, Calls Try.prog 32 #[.string p] W fun e w' => e = .returned (.string d) ∧ Below W.heap.size W w') ∧
      (f.toList == [47]) = e1 ∧ (f.toList == [46]) = e2 ∧ (f.toList == [46, 46]) = e3 ∧
      (e1 = false → e2 = false → e3 = false → (∀ W : World, Calls Try.prog 17 #[.string d, .string p] W fun e w' => e = .returned (.tuple #[.string f, .bool true]) ∧ Below W.heap.size W w') ∧
        (∀ W : World, Calls Try.prog 17 #[.string p, .string d] W fun e w' => e = .returned (.tuple #[.string ⟨#[46, 46]⟩, .bool true]) ∧ Below W.heap.size W w')) := by
    have hl := Pl.clean_len p0.data.toList
    rw [← Lib.size_eq] at hl
    have hps : (⟨(Pa.clean p0.data.toList).toArray⟩ : ByteArray).size = (Pa.clean p0.data.toList).length := Pa.size_mk _
    have hz : (⟨(Pa.clean p0.data.toList).toArray⟩ : ByteArray).data.toList = Pa.clean p0.data.toList := rfl
    have c1 := fun W => implClean_any p0 W (by omega)
    have c2 := fun W => implBase_any ⟨(Pa.clean p0.data.toList).toArray⟩ W (by omega)
    have c3 := fun W => implDir_any ⟨(Pa.clean p0.data.toList).toArray⟩ W (by omega)
    refine ⟨_, _, _, _, _, _, c1, c2, c3, rfl, rfl, rfl, ?_⟩
    intro h1 h2 h3
    rw [Lib.toList_data] at h1 h2 h3
    have h1' : Pa.base (Pa.clean p0.data.toList) ≠ [47] := by rw [beq_eq_false_iff_ne] at h1; exact h1
    have h2' : Pa.base (Pa.clean p0.data.toList) ≠ [46] := by rw [beq_eq_false_iff_ne] at h2; exact h2
    have h3' : Pa.base (Pa.clean p0.data.toList) ≠ [46, 46] := by rw [beq_eq_false_iff_ne] at h3; exact h3
    rcases Pl.base_clean p0.data.toList with hb | ⟨hb, hne⟩
    · exact absurd hb h1'
    · rw [hb] at h2' h3'
      have hto := Pl.to_split (Pa.clean p0.data.toList) ⟨hne, h2', h3', Pl.split_no47 _⟩
      have hsl : (Pa.split (Pa.clean p0.data.toList)).1.length ≤ (Pa.clean p0.data.toList).length := Pa.split_fst_le _
      rw [hz, hb]
      generalize (Pa.split (Pa.clean p0.data.toList)).2 = f at *
      generalize Pa.clean p0.data.toList = c at *
      have hdl := Pl.clean_len (Pa.split c).1
      have hds : (⟨(Pa.clean (Pa.split c).1).toArray⟩ : ByteArray).size = (Pa.clean (Pa.split c).1).length := Pa.size_mk _
      have hzd : (⟨(Pa.clean (Pa.split c).1).toArray⟩ : ByteArray).data.toList = Pa.clean (Pa.split c).1 := rfl
      rw [← Pl.to_clean (Pa.split c).1] at hto
      generalize Pa.clean (Pa.split c).1 = dd at *
      refine ⟨fun W => ?_, fun W => ?_⟩
      · have k := implRel_any ⟨dd.toArray⟩ ⟨c.toArray⟩ W (by omega) (by omega) (fun _ => (Pl.room_child hto).1)
        rw [hzd, hz, (Pl.relS_child hto).1, (Pl.relS_child hto).2.1] at k
        exact k
      · have k := implRel_any ⟨c.toArray⟩ ⟨dd.toArray⟩ W (by omega) (by omega) (fun _ => (Pl.room_child hto).2)
        rw [hzd, hz, (Pl.relS_child hto).2.2.1, (Pl.relS_child hto).2.2.2] at k
        exact k
  obtain ⟨p, d, f, e1, e2, e3, k1, k2, k3, k4, k5, k6, k7⟩ := hall
  have K1 := Lib.hid k1
  have K2 := Lib.hid k2
  have K3 := Lib.hid k3
  have K7 := Lib.hid k7
  clear k1 k2 k3 k7
  cases e1 with
  | true =>
    have HB0 := Lib.hid (Below.refl w.heap.size w)
    go_enter Try.func16, Try.ntmps16
    go_wp2_with fail
    refine (K1.out _).mono ?_
    rintro e w1 ⟨rfl, hb1⟩
    have HB1 := Lib.hid (HB0.out.trans (hb1.mono HB0.out.size))
    clear hb1 HB0
    go_wp2_with fail
    refine (K2.out _).mono ?_
    rintro e w2 ⟨rfl, hb2⟩
    have HB2 := Lib.hid (HB1.out.trans (hb2.mono HB1.out.size))
    clear hb2 HB1
    go_wp2_with fail
    refine (C9.out _).mono ?_
    rintro e w3 ⟨rfl, hb3⟩
    have HB3 := Lib.hid (HB2.out.trans (hb3.mono HB2.out.size))
    clear hb3 HB2
    go_wp2_with fail
    go_ret
    exact ⟨rfl, HB3.out⟩
  | false =>
    cases e2 with
    | true =>
      have HB0 := Lib.hid (Below.refl w.heap.size w)
      go_enter Try.func16, Try.ntmps16
      go_wp2_with fail
      refine (K1.out _).mono ?_
      rintro e w1 ⟨rfl, hb1⟩
      have HB1 := Lib.hid (HB0.out.trans (hb1.mono HB0.out.size))
      clear hb1 HB0
      go_wp2_with fail
      refine (K2.out _).mono ?_
      rintro e w2 ⟨rfl, hb2⟩
      have HB2 := Lib.hid (HB1.out.trans (hb2.mono HB1.out.size))
      clear hb2 HB1
      go_wp2_with fail
      refine (C9.out _).mono ?_
      rintro e w3 ⟨rfl, hb3⟩
      have HB3 := Lib.hid (HB2.out.trans (hb3.mono HB2.out.size))
      clear hb3 HB2
      go_wp2_with fail
      go_ret
      exact ⟨rfl, HB3.out⟩
    | false =>
      cases e3 with
      | true =>
        have HB0 := Lib.hid (Below.refl w.heap.size w)
        go_enter Try.func16, Try.ntmps16
        go_wp2_with fail
        refine (K1.out _).mono ?_
        rintro e w1 ⟨rfl, hb1⟩
        have HB1 := Lib.hid (HB0.out.trans (hb1.mono HB0.out.size))
        clear hb1 HB0
        go_wp2_with fail
        refine (K2.out _).mono ?_
        rintro e w2 ⟨rfl, hb2⟩
        have HB2 := Lib.hid (HB1.out.trans (hb2.mono HB1.out.size))
        clear hb2 HB1
        go_wp2_with fail
        refine (C9.out _).mono ?_
        rintro e w3 ⟨rfl, hb3⟩
        have HB3 := Lib.hid (HB2.out.trans (hb3.mono HB2.out.size))
        clear hb3 HB2
        go_wp2_with fail
        go_ret
        exact ⟨rfl, HB3.out⟩
      | false =>
        obtain ⟨k8, k9⟩ := K7.out rfl rfl rfl
        have K8 := Lib.hid k8
        have K9 := Lib.hid k9
        have hff : (f.toList == f.toList) = true := by simp
        clear K7 k8 k9
        have HB0 := Lib.hid (Below.refl w.heap.size w)
        go_enter Try.func16, Try.ntmps16
        go_wp2_with fail
        refine (K1.out _).mono ?_
        rintro e w1 ⟨rfl, hb1⟩
        have HB1 := Lib.hid (HB0.out.trans (hb1.mono HB0.out.size))
        clear hb1 HB0
        go_wp2_with fail
        refine (K2.out _).mono ?_
        rintro e w2 ⟨rfl, hb2⟩
        have HB2 := Lib.hid (HB1.out.trans (hb2.mono HB1.out.size))
        clear hb2 HB1
        go_wp2_with fail
        refine (K3.out _).mono ?_
        rintro e w3 ⟨rfl, hb3⟩
        have HB3 := Lib.hid (HB2.out.trans (hb3.mono HB2.out.size))
        clear hb3 HB2
        go_wp2_with fail
        refine (K8.out _).mono ?_
        rintro e w4 ⟨rfl, hb4⟩
        have HB4 := Lib.hid (HB3.out.trans (hb4.mono HB3.out.size))
        clear hb4 HB3
        go_wp2_with fail
        refine (K3.out _).mono ?_
        rintro e w5 ⟨rfl, hb5⟩
        have HB5 := Lib.hid (HB4.out.trans (hb5.mono HB4.out.size))
        clear hb5 HB4
        go_wp2_with fail
        refine (K9.out _).mono ?_
        rintro e w6 ⟨rfl, hb6⟩
        have HB6 := Lib.hid (HB5.out.trans (hb6.mono HB5.out.size))
        clear hb6 HB5
        go_wp2_with fail
        go_ret
        exact ⟨rfl, HB6.out⟩

end Go.Proofs.Ytgkbkocakinmfaa
