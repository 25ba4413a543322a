/-
  laws.FnRelJoined returns true at every two paths. Conditions: both together are no longer than 2^20 bytes; the library's variable MaxLen holds an int.
-/
import Derived.Test.YtgkbkocakinmfaaDoorCd
namespace Go.Proofs.YtgkbkocakinmfaaDoor
open Go.RowKit Go.Lib

theorem join_size (a b : ByteArray) : (bs (Pa.join [a.data.toList, b.data.toList])).size ≤ a.size + b.size + 3 := by
  rw [bs_size]
  have := Pl.join_len [a.data.toList, b.data.toList]
  simp only [Pl.sumL, ← Lib.size_eq] at this
  omega

theorem fnRelJoined_walk (b x : ByteArray) (w : World) (hm : Ml w) (h : b.size + x.size ≤ 1048576) :
    Calls Tryd.prog 7 #[.string b, .string x] w fun e w' => e = .returned (.bool true) ∧ Below w.heap.size w w' := by
  have C9 := wakes_c
  have HM := Lib.hid hm
  by_cases hb : b.data.toList = []
  · have hb1 : b.toList.isEmpty = true := by rw [Lib.toList_data, hb]; rfl
    clear hm h hb
    have HB0 := Lib.hid (Below.refl w.heap.size w)
    go_enter Tryd.func7, Tryd.ntmps7
    go_wp2_with fail
    refine (C9 _).mono ?_
    rintro e w1 ⟨rfl, hb1⟩
    have HB1 := Lib.hid (HB0.out.trans (hb1.mono HB0.out.size))
    clear hb1 HB0
    go_wp2_with fail
    go_ret
    exact ⟨rfl, HB1.out⟩
  · have hb1 : b.toList.isEmpty = false := by rw [Lib.toList_data]; simpa using hb
    have G := goes_c x (by omega)
    by_cases hg : [46, 46] ∈ Pa.els x.data.toList
    · rw [decide_eq_true hg] at G
      clear hm h hb hg
      have HB0 := Lib.hid (Below.refl w.heap.size w)
      go_enter Tryd.func7, Tryd.ntmps7
      go_wp2_with fail
      refine (G _ (HM.out.below HB0.out)).mono ?_
      rintro e w1 ⟨rfl, hb1⟩
      have HB1 := Lib.hid (HB0.out.trans (hb1.mono HB0.out.size))
      clear hb1 HB0
      go_wp2_with fail
      refine (C9 _).mono ?_
      rintro e w2 ⟨rfl, hb2⟩
      have HB2 := Lib.hid (HB1.out.trans (hb2.mono HB1.out.size))
      clear hb2 HB1
      go_wp2_with fail
      go_ret
      exact ⟨rfl, HB2.out⟩
    · rw [decide_eq_false hg] at G
      have J1 := join2_c b x (by omega)
      have J2 := join2_c ⟨#[46]⟩ x (by show 1 + x.size ≤ _; omega)
      have sj := join_size b x
      have hj := (Pl.join_level b.data.toList x.data.toList hb hg).1
      have hd := (Pl.join_level (⟨#[46]⟩ : ByteArray).data.toList x.data.toList (by decide) hg).2
      rw [hd] at J2
      have hw : Pl.way (Pl.to b.data.toList) (Pl.to (bs (Pa.join [b.data.toList, x.data.toList])).data.toList) = some ⟨false, 0, Pl.level x.data.toList⟩ := by
        rw [bs_data, hj]
        have e := Pl.way_level (Pl.to b.data.toList) [] (Pl.level x.data.toList)
        rw [List.append_nil] at e
        refine e.trans ?_
        rw [Pl.way_eq (a := ⟨false, 0, []⟩) (b := ⟨false, 0, Pl.level x.data.toList⟩) rfl rfl, Pl.cp_nil_left]
        simp
      have K := rel_some (s := b) (t := bs (Pa.join [b.data.toList, x.data.toList])) (by omega) (by omega) hw
      rw [show (⟨(Pl.to (⟨#[46]⟩ : ByteArray).data.toList).rooted, (Pl.to (⟨#[46]⟩ : ByteArray).data.toList).up, (Pl.to (⟨#[46]⟩ : ByteArray).data.toList).names ++ Pl.level x.data.toList⟩ : Pl.Place) = ⟨false, 0, Pl.level x.data.toList⟩ from rfl] at J2
      generalize bs (Pl.text ⟨false, 0, Pl.level x.data.toList⟩) = rr at K J2
      generalize bs (Pa.join [b.data.toList, x.data.toList]) = jj at K J1
      have ht := beq_true rr
      clear hm h hb hg sj hj hd hw
      have HB0 := Lib.hid (Below.refl w.heap.size w)
      go_enter Tryd.func7, Tryd.ntmps7
      go_wp2_with fail
      refine (G _ (HM.out.below HB0.out)).mono ?_
      rintro e w1 ⟨rfl, hb1⟩
      have HB1 := Lib.hid (HB0.out.trans (hb1.mono HB0.out.size))
      clear hb1 HB0
      go_wp2_with fail
      refine (J1 _).mono ?_
      rintro e w2 ⟨rfl, hb2⟩
      have HB2 := Lib.hid (HB1.out.trans (hb2.mono HB1.out.size))
      clear hb2 HB1
      go_wp2_with fail
      refine (K _).mono ?_
      rintro e w3 ⟨rfl, hb3⟩
      have HB3 := Lib.hid (HB2.out.trans (hb3.mono HB2.out.size))
      clear hb3 HB2
      go_wp2_with fail
      refine (J2 _).mono ?_
      rintro e w4 ⟨rfl, hb4⟩
      have HB4 := Lib.hid (HB3.out.trans (hb4.mono HB3.out.size))
      clear hb4 HB3
      go_wp2_with fail
      go_ret
      exact ⟨rfl, HB4.out⟩

end Go.Proofs.YtgkbkocakinmfaaDoor
