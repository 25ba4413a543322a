/-
  laws.FnRelFewest returns true at every three paths. Conditions: all together are no longer than 2^20 bytes; the library's variable MaxLen holds an int.
-/
import Derived.Test.YtgkbkocakinmfaaDoorCd
namespace Go.Proofs.YtgkbkocakinmfaaDoor
open Go.RowKit Go.Lib

theorem fnRelFewest_walk (b t x : ByteArray) (w : World) (hm : Ml w) (h : b.size + t.size + x.size ≤ 1048576) :
    Calls Tryd.prog 4 #[.string b, .string t, .string x] w fun e w' => e = .returned (.bool true) ∧ Below w.heap.size w w' := by
  have C9 := wakes_c
  have HM := Lib.hid hm
  cases h1 : Pl.way (Pl.to b.data.toList) (Pl.to t.data.toList) with
  | none =>
    have K1 := rel_none (s := b) (t := t) (by omega) (by omega) h1
    clear h1 hm h
    have HB0 := Lib.hid (Below.refl w.heap.size w)
    go_enter Tryd.func4, Tryd.ntmps4
    go_wp2_with fail
    refine (K1 _).mono ?_
    rintro e w1 ⟨rfl, hb1⟩
    have HB1 := Lib.hid (HB0.out.trans (hb1.mono HB0.out.size))
    clear hb1 HB0
    go_wp2_with fail
    refine (C9 _).mono ?_
    rintro e w2 ⟨rfl, hb2⟩
    have HB2 := Lib.hid (HB1.out.trans (hb2.mono HB1.out.size))
    clear hb2 HB1
    go_wp2_with fail
    go_ret
    exact ⟨rfl, HB2.out⟩
  | some r =>
    have K1 := rel_some (s := b) (t := t) (by omega) (by omega) h1
    have R := rooted_c x
    cases hx : Pl.isR x.data.toList with
    | true =>
      rw [hx] at R
      generalize bs (Pl.text r) = rr at K1
      clear h1 hm h hx
      have HB0 := Lib.hid (Below.refl w.heap.size w)
      go_enter Tryd.func4, Tryd.ntmps4
      go_wp2_with fail
      refine (K1 _).mono ?_
      rintro e w1 ⟨rfl, hb1⟩
      have HB1 := Lib.hid (HB0.out.trans (hb1.mono HB0.out.size))
      clear hb1 HB0
      go_wp2_with fail
      refine (R _).mono ?_
      rintro e w2 ⟨rfl, hb2⟩
      have HB2 := Lib.hid (HB1.out.trans (hb2.mono HB1.out.size))
      clear hb2 HB1
      go_wp2_with fail
      refine (C9 _).mono ?_
      rintro e w3 ⟨rfl, hb3⟩
      have HB3 := Lib.hid (HB2.out.trans (hb3.mono HB2.out.size))
      clear hb3 HB2
      go_wp2_with fail
      go_ret
      exact ⟨rfl, HB3.out⟩
    | false =>
      rw [hx] at R
      by_cases hb : b.data.toList = []
      · have hb1 : b.toList.isEmpty = true := by rw [Lib.toList_data, hb]; rfl
        generalize bs (Pl.text r) = rr at K1
        clear h1 hm h hx hb
        have HB0 := Lib.hid (Below.refl w.heap.size w)
        go_enter Tryd.func4, Tryd.ntmps4
        go_wp2_with fail
        refine (K1 _).mono ?_
        rintro e w1 ⟨rfl, hb1⟩
        have HB1 := Lib.hid (HB0.out.trans (hb1.mono HB0.out.size))
        clear hb1 HB0
        go_wp2_with fail
        refine (R _).mono ?_
        rintro e w2 ⟨rfl, hb2⟩
        have HB2 := Lib.hid (HB1.out.trans (hb2.mono HB1.out.size))
        clear hb2 HB1
        go_wp2_with fail
        refine (C9 _).mono ?_
        rintro e w3 ⟨rfl, hb3⟩
        have HB3 := Lib.hid (HB2.out.trans (hb3.mono HB2.out.size))
        clear hb3 HB2
        go_wp2_with fail
        go_ret
        exact ⟨rfl, HB3.out⟩
      · have hb1 : b.toList.isEmpty = false := by rw [Lib.toList_data]; simpa using hb
        have J := join2_c b x (by omega)
        rw [Pl.join_cons _ _ hb] at J
        rw [show [x.data.toList].foldl Pl.follow (Pl.to b.data.toList) = Pl.follow (Pl.to b.data.toList) x.data.toList from rfl] at J
        have c1 := clean_c t (by omega)
        by_cases he : Pl.follow (Pl.to b.data.toList) x.data.toList = Pl.to t.data.toList
        · rw [he] at J
          rw [Pl.follow_clean _ _ hx] at he
          have hlen := Pl.way_fewest (Pl.good_to _) h1 he
          rw [Pl.parts_len, Pl.parts_len] at hlen
          have s1 := way_size h1
          have S1 := steps_c (Pl.good_way (Pl.good_to _) h1) (Pl.way_cases h1).2.1 (by omega)
          have c2 := clean_c x (by omega)
          have s2 := text_size x
          have S2 := steps_c (Pl.good_to x.data.toList) (by rw [Pl.to_rooted]; exact hx) (by omega)
          generalize r.up + r.names.length = n1 at hlen S1
          generalize (Pl.to x.data.toList).up + (Pl.to x.data.toList).names.length = n2 at hlen S2
          generalize bs (Pl.text r) = rr at K1 S1
          generalize bs (Pl.text (Pl.to t.data.toList)) = ct at c1 J
          generalize bs (Pl.text (Pl.to x.data.toList)) = cx at c2 S2
          have ht := beq_true ct
          have hd : decide ((n1 : Int) ≤ (n2 : Int)) = true := decide_eq_true (by omega)
          clear h1 hm h hx hb he s1 s2
          have HB0 := Lib.hid (Below.refl w.heap.size w)
          go_enter Tryd.func4, Tryd.ntmps4
          go_wp2_with fail
          refine (K1 _).mono ?_
          rintro e w1 ⟨rfl, hb1⟩
          have HB1 := Lib.hid (HB0.out.trans (hb1.mono HB0.out.size))
          clear hb1 HB0
          go_wp2_with fail
          refine (R _).mono ?_
          rintro e w2 ⟨rfl, hb2⟩
          have HB2 := Lib.hid (HB1.out.trans (hb2.mono HB1.out.size))
          clear hb2 HB1
          go_wp2_with fail
          refine (J _).mono ?_
          rintro e w3 ⟨rfl, hb3⟩
          have HB3 := Lib.hid (HB2.out.trans (hb3.mono HB2.out.size))
          clear hb3 HB2
          go_wp2_with fail
          refine (c1 _).mono ?_
          rintro e w4 ⟨rfl, hb4⟩
          have HB4 := Lib.hid (HB3.out.trans (hb4.mono HB3.out.size))
          clear hb4 HB3
          go_wp2_with fail
          refine (S1 _ (HM.out.below HB4.out)).mono ?_
          rintro e w5 ⟨⟨A5, c5, rfl⟩, hb5⟩
          have HB5 := Lib.hid (HB4.out.trans (hb5.mono HB4.out.size))
          clear hb5 HB4
          go_wp2_with fail
          refine (c2 _).mono ?_
          rintro e w6 ⟨rfl, hb6⟩
          have HB6 := Lib.hid (HB5.out.trans (hb6.mono HB5.out.size))
          clear hb6 HB5
          go_wp2_with fail
          refine (S2 _ (HM.out.below HB6.out)).mono ?_
          rintro e w7 ⟨⟨A7, c7, rfl⟩, hb7⟩
          have HB7 := Lib.hid (HB6.out.trans (hb7.mono HB6.out.size))
          clear hb7 HB6
          go_wp2_with fail
          go_ret
          exact ⟨rfl, HB7.out⟩
        · have hf : ((bs (Pl.text (Pl.follow (Pl.to b.data.toList) x.data.toList))).toList == (bs (Pl.text (Pl.to t.data.toList))).toList) = false := by
            rw [bs_beq]
            simp only [beq_eq_false_iff_ne]
            exact fun e => he (Pl.text_inj ((Pl.good_to _).follow _) (Pl.good_to _) e)
          generalize bs (Pl.text r) = rr at K1
          generalize bs (Pl.text (Pl.to t.data.toList)) = ct at c1 hf
          generalize bs (Pl.text (Pl.follow (Pl.to b.data.toList) x.data.toList)) = cj at J hf
          clear h1 hm h hx hb he
          have HB0 := Lib.hid (Below.refl w.heap.size w)
          go_enter Tryd.func4, Tryd.ntmps4
          go_wp2_with fail
          refine (K1 _).mono ?_
          rintro e w1 ⟨rfl, hb1⟩
          have HB1 := Lib.hid (HB0.out.trans (hb1.mono HB0.out.size))
          clear hb1 HB0
          go_wp2_with fail
          refine (R _).mono ?_
          rintro e w2 ⟨rfl, hb2⟩
          have HB2 := Lib.hid (HB1.out.trans (hb2.mono HB1.out.size))
          clear hb2 HB1
          go_wp2_with fail
          refine (J _).mono ?_
          rintro e w3 ⟨rfl, hb3⟩
          have HB3 := Lib.hid (HB2.out.trans (hb3.mono HB2.out.size))
          clear hb3 HB2
          go_wp2_with fail
          refine (c1 _).mono ?_
          rintro e w4 ⟨rfl, hb4⟩
          have HB4 := Lib.hid (HB3.out.trans (hb4.mono HB3.out.size))
          clear hb4 HB3
          go_wp2_with fail
          refine (C9 _).mono ?_
          rintro e w5 ⟨rfl, hb5⟩
          have HB5 := Lib.hid (HB4.out.trans (hb5.mono HB4.out.size))
          clear hb5 HB4
          go_wp2_with fail
          go_ret
          exact ⟨rfl, HB5.out⟩

end Go.Proofs.YtgkbkocakinmfaaDoor
