/-
  laws.FnRelPrefix returns true at every three paths. Conditions: all together are no longer than 2^20 bytes; the library's variable MaxLen holds an int.
-/
import Derived.Test.YtgkbkocakinmfaaDoorFnRelJoined
namespace Go.Proofs.YtgkbkocakinmfaaDoor
open Go.RowKit Go.Lib

theorem fnRelPrefix_walk (p a b : ByteArray) (w : World) (hm : Ml w) (h : p.size + a.size + b.size ≤ 1048576) :
    Calls Tryd.prog 8 #[.string p, .string a, .string b] w fun e w' => e = .returned (.bool true) ∧ Below w.heap.size w w' := by
  have C9 := wakes_c
  have HM := Lib.hid hm
  by_cases hp : p.data.toList = []
  · have hp1 : p.toList.isEmpty = true := by rw [Lib.toList_data, hp]; rfl
    clear hm h hp
    have HB0 := Lib.hid (Below.refl w.heap.size w)
    go_enter Tryd.func8, Tryd.ntmps8
    go_wp2_with fail
    refine (C9 _).mono ?_
    rintro e w1 ⟨rfl, hb1⟩
    have HB1 := Lib.hid (HB0.out.trans (hb1.mono HB0.out.size))
    clear hb1 HB0
    go_wp2_with fail
    go_ret
    exact ⟨rfl, HB1.out⟩
  · have hp1 : p.toList.isEmpty = false := by rw [Lib.toList_data]; simpa using hp
    have Ga := goes_c a (by omega)
    have Gb := goes_c b (by omega)
    by_cases ha : [46, 46] ∈ Pa.els a.data.toList
    · rw [decide_eq_true ha] at Ga
      clear hm h hp ha
      have HB0 := Lib.hid (Below.refl w.heap.size w)
      go_enter Tryd.func8, Tryd.ntmps8
      go_wp2_with fail
      refine (Ga _ (HM.out.below HB0.out)).mono ?_
      rintro e w1 ⟨rfl, hb1⟩
      have HB1 := Lib.hid (HB0.out.trans (hb1.mono HB0.out.size))
      clear hb1 HB0
      go_wp2_with fail
      refine (C9 _).mono ?_
      rintro e w2 ⟨rfl, hb2⟩
      have HB2 := Lib.hid (HB1.out.trans (hb2.mono HB1.out.size))
      clear hb2 HB1
      go_wp2_with fail
      go_ret
      exact ⟨rfl, HB2.out⟩
    · rw [decide_eq_false ha] at Ga
      by_cases hb : [46, 46] ∈ Pa.els b.data.toList
      · rw [decide_eq_true hb] at Gb
        clear hm h hp ha hb
        have HB0 := Lib.hid (Below.refl w.heap.size w)
        go_enter Tryd.func8, Tryd.ntmps8
        go_wp2_with fail
        refine (Ga _ (HM.out.below HB0.out)).mono ?_
        rintro e w1 ⟨rfl, hb1⟩
        have HB1 := Lib.hid (HB0.out.trans (hb1.mono HB0.out.size))
        clear hb1 HB0
        go_wp2_with fail
        refine (Gb _ (HM.out.below HB1.out)).mono ?_
        rintro e w2 ⟨rfl, hb2⟩
        have HB2 := Lib.hid (HB1.out.trans (hb2.mono HB1.out.size))
        clear hb2 HB1
        go_wp2_with fail
        refine (C9 _).mono ?_
        rintro e w3 ⟨rfl, hb3⟩
        have HB3 := Lib.hid (HB2.out.trans (hb3.mono HB2.out.size))
        clear hb3 HB2
        go_wp2_with fail
        go_ret
        exact ⟨rfl, HB3.out⟩
      · rw [decide_eq_false hb] at Gb
        have J1 := join2_c p a (by omega)
        have J2 := join2_c p b (by omega)
        have J3 := join2_c ⟨#[46]⟩ a (by show 1 + a.size ≤ _; omega)
        have J4 := join2_c ⟨#[46]⟩ b (by show 1 + b.size ≤ _; omega)
        have s1 := join_size p a
        have s2 := join_size p b
        have s3 := join_size ⟨#[46]⟩ a
        have s4 := join_size ⟨#[46]⟩ b
        have z : (⟨#[46]⟩ : ByteArray).size = 1 := rfl
        have t1 := (Pl.join_level p.data.toList a.data.toList hp ha).1
        have t2 := (Pl.join_level p.data.toList b.data.toList hp hb).1
        have t3 : Pl.to (Pa.join [(⟨#[46]⟩ : ByteArray).data.toList, a.data.toList]) = ⟨false, 0, Pl.level a.data.toList⟩ := (Pl.join_level (⟨#[46]⟩ : ByteArray).data.toList a.data.toList (by decide) ha).1
        have t4 : Pl.to (Pa.join [(⟨#[46]⟩ : ByteArray).data.toList, b.data.toList]) = ⟨false, 0, Pl.level b.data.toList⟩ := (Pl.join_level (⟨#[46]⟩ : ByteArray).data.toList b.data.toList (by decide) hb).1
        obtain ⟨r, hr⟩ : ∃ r, Pl.way ⟨false, 0, Pl.level a.data.toList⟩ ⟨false, 0, Pl.level b.data.toList⟩ = some r := ⟨_, Pl.way_eq rfl rfl⟩
        have w1 : Pl.way (Pl.to (bs (Pa.join [p.data.toList, a.data.toList])).data.toList) (Pl.to (bs (Pa.join [p.data.toList, b.data.toList])).data.toList) = some r := by
          rw [bs_data, bs_data, t1, t2]
          exact (Pl.way_level _ _ _).trans hr
        have w2 : Pl.way (Pl.to (bs (Pa.join [(⟨#[46]⟩ : ByteArray).data.toList, a.data.toList])).data.toList) (Pl.to (bs (Pa.join [(⟨#[46]⟩ : ByteArray).data.toList, b.data.toList])).data.toList) = some r := by
          rw [bs_data, bs_data, t3, t4]
          exact hr
        have K1 := rel_some (by omega) (by omega) w1
        have K2 := rel_some (by omega) (by omega) w2
        generalize bs (Pl.text r) = rr at K1 K2
        generalize bs (Pa.join [p.data.toList, a.data.toList]) = j1 at J1 K1
        generalize bs (Pa.join [p.data.toList, b.data.toList]) = j2 at J2 K1
        generalize bs (Pa.join [(⟨#[46]⟩ : ByteArray).data.toList, a.data.toList]) = j3 at J3 K2
        generalize bs (Pa.join [(⟨#[46]⟩ : ByteArray).data.toList, b.data.toList]) = j4 at J4 K2
        have ht := beq_true rr
        clear hm h hp ha hb s1 s2 s3 s4 z t1 t2 t3 t4 w1 w2 hr
        have HB0 := Lib.hid (Below.refl w.heap.size w)
        go_enter Tryd.func8, Tryd.ntmps8
        go_wp2_with fail
        refine (Ga _ (HM.out.below HB0.out)).mono ?_
        rintro e w1 ⟨rfl, hb1⟩
        have HB1 := Lib.hid (HB0.out.trans (hb1.mono HB0.out.size))
        clear hb1 HB0
        go_wp2_with fail
        refine (Gb _ (HM.out.below HB1.out)).mono ?_
        rintro e w2 ⟨rfl, hb2⟩
        have HB2 := Lib.hid (HB1.out.trans (hb2.mono HB1.out.size))
        clear hb2 HB1
        go_wp2_with fail
        refine (J1 _).mono ?_
        rintro e w3 ⟨rfl, hb3⟩
        have HB3 := Lib.hid (HB2.out.trans (hb3.mono HB2.out.size))
        clear hb3 HB2
        go_wp2_with fail
        refine (J2 _).mono ?_
        rintro e w4 ⟨rfl, hb4⟩
        have HB4 := Lib.hid (HB3.out.trans (hb4.mono HB3.out.size))
        clear hb4 HB3
        go_wp2_with fail
        refine (K1 _).mono ?_
        rintro e w5 ⟨rfl, hb5⟩
        have HB5 := Lib.hid (HB4.out.trans (hb5.mono HB4.out.size))
        clear hb5 HB4
        go_wp2_with fail
        refine (J3 _).mono ?_
        rintro e w6 ⟨rfl, hb6⟩
        have HB6 := Lib.hid (HB5.out.trans (hb6.mono HB5.out.size))
        clear hb6 HB5
        go_wp2_with fail
        refine (J4 _).mono ?_
        rintro e w7 ⟨rfl, hb7⟩
        have HB7 := Lib.hid (HB6.out.trans (hb7.mono HB6.out.size))
        clear hb7 HB6
        go_wp2_with fail
        refine (K2 _).mono ?_
        rintro e w8 ⟨rfl, hb8⟩
        have HB8 := Lib.hid (HB7.out.trans (hb8.mono HB7.out.size))
        clear hb8 HB7
        go_wp2_with fail
        go_ret
        exact ⟨rfl, HB8.out⟩

end Go.Proofs.YtgkbkocakinmfaaDoor
