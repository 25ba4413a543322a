/-
  laws.FnRelThereAndBack returns true at every two paths. Conditions: both together are no longer than 2^20 bytes; the library's variable MaxLen holds an int.
-/
import Derived.Test.YtgkbkocakinmfaaDoorCd
namespace Go.Proofs.YtgkbkocakinmfaaDoor
open Go.RowKit Go.Lib

theorem fnRelThereAndBack_walk (a b : ByteArray) (w : World) (hm : Ml w) (h : a.size + b.size ≤ 1048576) :
    Calls Tryd.prog 10 #[.string a, .string b] w fun e w' => e = .returned (.bool true) ∧ Below w.heap.size w w' := by
  have C9 := wakes_c
  have HM := Lib.hid hm
  cases h1 : Pl.way (Pl.to a.data.toList) (Pl.to b.data.toList) with
  | none =>
    have K1 := rel_none (s := a) (t := b) (by omega) (by omega) h1
    have K2 := rel_c b a (by omega) (by omega)
    generalize bs (Pl.relS b.data.toList a.data.toList) = q at K2
    generalize Pl.relOk b.data.toList a.data.toList = ok at K2
    clear h1 hm h
    have HB0 := Lib.hid (Below.refl w.heap.size w)
    go_enter Tryd.func10, Tryd.ntmps10
    go_wp2_with fail
    refine (K1 _).mono ?_
    rintro e w1 ⟨rfl, hb1⟩
    have HB1 := Lib.hid (HB0.out.trans (hb1.mono HB0.out.size))
    clear hb1 HB0
    go_wp2_with fail
    refine (K2 _).mono ?_
    rintro e w2 ⟨rfl, hb2⟩
    have HB2 := Lib.hid (HB1.out.trans (hb2.mono HB1.out.size))
    clear hb2 HB1
    go_wp2_with fail
    refine (C9 _).mono ?_
    rintro e w3 ⟨rfl, hb3⟩
    have HB3 := Lib.hid (HB2.out.trans (hb3.mono HB2.out.size))
    clear hb3 HB2
    go_wp2_with fail
    go_ret
    exact ⟨rfl, HB3.out⟩
  | some r =>
    cases h2 : Pl.way (Pl.to b.data.toList) (Pl.to a.data.toList) with
    | none =>
      have K1 := rel_some (s := a) (t := b) (by omega) (by omega) h1
      have K2 := rel_none (s := b) (t := a) (by omega) (by omega) h2
      clear h1 h2 hm h
      have HB0 := Lib.hid (Below.refl w.heap.size w)
      go_enter Tryd.func10, Tryd.ntmps10
      go_wp2_with fail
      refine (K1 _).mono ?_
      rintro e w1 ⟨rfl, hb1⟩
      have HB1 := Lib.hid (HB0.out.trans (hb1.mono HB0.out.size))
      clear hb1 HB0
      go_wp2_with fail
      refine (K2 _).mono ?_
      rintro e w2 ⟨rfl, hb2⟩
      have HB2 := Lib.hid (HB1.out.trans (hb2.mono HB1.out.size))
      clear hb2 HB1
      go_wp2_with fail
      refine (C9 _).mono ?_
      rintro e w3 ⟨rfl, hb3⟩
      have HB3 := Lib.hid (HB2.out.trans (hb3.mono HB2.out.size))
      clear hb3 HB2
      go_wp2_with fail
      go_ret
      exact ⟨rfl, HB3.out⟩
    | some q =>
      have K1 := rel_some (s := a) (t := b) (by omega) (by omega) h1
      have K2 := rel_some (s := b) (t := a) (by omega) (by omega) h2
      have s1 := way_size h1
      have s2 := way_size h2
      have g1 := Pl.good_way (Pl.good_to _) h1
      have g2 := Pl.good_way (Pl.good_to _) h2
      have r1 := (Pl.way_cases h1).2.1
      have r2 := (Pl.way_cases h2).2.1
      have U1 := ups_c g1 (by omega)
      have U2 := ups_c g2 (by omega)
      have S1 := steps_c g1 r1 (by omega)
      have S2 := steps_c g2 r2 (by omega)
      have hb := Pl.way_both h1 h2
      have c1 := clean_c a (by omega)
      have sc := text_size a
      have J := join3_c (bs (Pl.text (Pl.to a.data.toList))) (bs (Pl.text r)) (bs (Pl.text q)) (by omega)
      rw [bs_data, bs_data, bs_data, Pl.join_at _ _ _ (Pl.text_ne_nil g1) (Pl.isR_way (Pl.good_to _) h1), Pl.to_text (Pl.good_to _)] at J
      rw [show [Pl.text r, Pl.text q].foldl Pl.follow (Pl.to a.data.toList) = Pl.follow (Pl.follow (Pl.to a.data.toList) (Pl.text r)) (Pl.text q) from rfl, Pl.follow_way (Pl.good_to _) h1, Pl.follow_way (Pl.good_to _) h2] at J
      have l1 := Pl.way_up_le h1
      have l2 := Pl.way_up_le h2
      rw [← Lib.size_eq, ← Lib.size_eq] at l1 l2
      rw [hb.1] at U1 S1 l1
      rw [hb.2] at U2 S2 l2
      generalize r.names.length = n at U2 S1 S2 l2
      generalize q.names.length = m at U1 S1 S2 l1
      generalize bs (Pl.text r) = rr at K1 U1 S1 J
      generalize bs (Pl.text q) = rq at K2 U2 S2 J
      generalize bs (Pl.text (Pl.to a.data.toList)) = ca at c1 J
      have ht := beq_true ca
      have hx1 : ((m : Int) == (n : Int) + (m : Int) - (n : Int)) = true := by simp; omega
      have hx2 : ((n : Int) == (m : Int) + (n : Int) - (m : Int)) = true := by simp; omega
      have hx3 : ((m : Int) != (n : Int) + (m : Int) - (n : Int)) = false := by simp; omega
      have hx4 : ((n : Int) != (m : Int) + (n : Int) - (m : Int)) = false := by simp; omega
      clear h1 h2 hm g1 g2 r1 r2 hb s1 s2 sc
      have HB0 := Lib.hid (Below.refl w.heap.size w)
      go_enter Tryd.func10, Tryd.ntmps10
      go_wp2_with fail
      refine (K1 _).mono ?_
      rintro e w1 ⟨rfl, hb1⟩
      have HB1 := Lib.hid (HB0.out.trans (hb1.mono HB0.out.size))
      clear hb1 HB0
      go_wp2_with fail
      refine (K2 _).mono ?_
      rintro e w2 ⟨rfl, hb2⟩
      have HB2 := Lib.hid (HB1.out.trans (hb2.mono HB1.out.size))
      clear hb2 HB1
      go_wp2_with fail
      refine (U1 _ (HM.out.below HB2.out)).mono ?_
      rintro e w3 ⟨rfl, hb3⟩
      have HB3 := Lib.hid (HB2.out.trans (hb3.mono HB2.out.size))
      clear hb3 HB2
      go_wp2_with fail
      refine (U2 _ (HM.out.below HB3.out)).mono ?_
      rintro e w4 ⟨rfl, hb4⟩
      have HB4 := Lib.hid (HB3.out.trans (hb4.mono HB3.out.size))
      clear hb4 HB3
      go_wp2_with fail
      refine (S2 _ (HM.out.below HB4.out)).mono ?_
      rintro e w5 ⟨⟨A5, c5, rfl⟩, hb5⟩
      have HB5 := Lib.hid (HB4.out.trans (hb5.mono HB4.out.size))
      clear hb5 HB4
      go_wp2_with fail
      refine (S1 _ (HM.out.below HB5.out)).mono ?_
      rintro e w6 ⟨⟨A6, c6, rfl⟩, hb6⟩
      have HB6 := Lib.hid (HB5.out.trans (hb6.mono HB5.out.size))
      clear hb6 HB5
      go_wp2_with fail
      refine (c1 _).mono ?_
      rintro e w7 ⟨rfl, hb7⟩
      have HB7 := Lib.hid (HB6.out.trans (hb7.mono HB6.out.size))
      clear hb7 HB6
      go_wp2_with fail
      refine (J _).mono ?_
      rintro e w8 ⟨rfl, hb8⟩
      have HB8 := Lib.hid (HB7.out.trans (hb8.mono HB7.out.size))
      clear hb8 HB7
      go_wp2_with fail
      refine (c1 _).mono ?_
      rintro e w9 ⟨rfl, hb9⟩
      have HB9 := Lib.hid (HB8.out.trans (hb9.mono HB8.out.size))
      clear hb9 HB8
      go_wp2_with fail
      go_ret
      exact ⟨rfl, HB9.out⟩

end Go.Proofs.YtgkbkocakinmfaaDoor
