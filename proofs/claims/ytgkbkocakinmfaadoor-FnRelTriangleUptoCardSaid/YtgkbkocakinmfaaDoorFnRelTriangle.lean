/-
  laws.FnRelTriangle returns true at every three paths. Conditions: all together are no longer than 2^20 bytes; the library's variable MaxLen holds an int.
-/
import Derived.Test.YtgkbkocakinmfaaDoorCd
namespace Go.Proofs.YtgkbkocakinmfaaDoor
open Go.RowKit Go.Lib

theorem fnRelTriangle_walk (a b c : ByteArray) (w : World) (hm : Ml w) (h : a.size + b.size + c.size ≤ 1048576) :
    Calls Tryd.prog 11 #[.string a, .string b, .string c] w fun e w' => e = .returned (.bool true) ∧ Below w.heap.size w w' := by
  have C9 := wakes_c
  have HM := Lib.hid hm
  cases h1 : Pl.way (Pl.to a.data.toList) (Pl.to b.data.toList) with
  | none =>
    have K1 := rel_none (s := a) (t := b) (by omega) (by omega) h1
    have K2 := rel_c b c (by omega) (by omega)
    generalize bs (Pl.relS b.data.toList c.data.toList) = q at K2
    generalize Pl.relOk b.data.toList c.data.toList = ok at K2
    clear h1 hm h
    have HB0 := Lib.hid (Below.refl w.heap.size w)
    go_enter Tryd.func11, Tryd.ntmps11
    go_wp2_with fail
    refine (K1 _).mono ?_
    rintro e w1 ⟨rfl, hb1⟩
    have HB1 := Lib.hid (HB0.out.trans (hb1.mono HB0.out.size))
    clear hb1 HB0
    go_wp2_with fail
    refine (K2 _).mono ?_
    rintro e w2 ⟨rfl, hb2⟩
    have HB2 := Lib.hid (HB1.out.trans (hb2.mono HB1.out.size))
    clear hb2 HB1
    go_wp2_with fail
    refine (C9 _).mono ?_
    rintro e w3 ⟨rfl, hb3⟩
    have HB3 := Lib.hid (HB2.out.trans (hb3.mono HB2.out.size))
    clear hb3 HB2
    go_wp2_with fail
    go_ret
    exact ⟨rfl, HB3.out⟩
  | some r =>
    cases h2 : Pl.way (Pl.to b.data.toList) (Pl.to c.data.toList) with
    | none =>
      have K1 := rel_some (s := a) (t := b) (by omega) (by omega) h1
      have K2 := rel_none (s := b) (t := c) (by omega) (by omega) h2
      clear h1 h2 hm h
      have HB0 := Lib.hid (Below.refl w.heap.size w)
      go_enter Tryd.func11, Tryd.ntmps11
      go_wp2_with fail
      refine (K1 _).mono ?_
      rintro e w1 ⟨rfl, hb1⟩
      have HB1 := Lib.hid (HB0.out.trans (hb1.mono HB0.out.size))
      clear hb1 HB0
      go_wp2_with fail
      refine (K2 _).mono ?_
      rintro e w2 ⟨rfl, hb2⟩
      have HB2 := Lib.hid (HB1.out.trans (hb2.mono HB1.out.size))
      clear hb2 HB1
      go_wp2_with fail
      refine (C9 _).mono ?_
      rintro e w3 ⟨rfl, hb3⟩
      have HB3 := Lib.hid (HB2.out.trans (hb3.mono HB2.out.size))
      clear hb3 HB2
      go_wp2_with fail
      go_ret
      exact ⟨rfl, HB3.out⟩
    | some q =>
      obtain ⟨s, h3, hlen⟩ := Pl.way_tri h1 h2
      rw [Pl.parts_len, Pl.parts_len, Pl.parts_len] at hlen
      have K1 := rel_some (s := a) (t := b) (by omega) (by omega) h1
      have K2 := rel_some (s := b) (t := c) (by omega) (by omega) h2
      have K3 := rel_some (s := a) (t := c) (by omega) (by omega) h3
      have s1 := way_size h1
      have s2 := way_size h2
      have s3 := way_size h3
      have g1 := Pl.good_way (Pl.good_to _) h1
      have g2 := Pl.good_way (Pl.good_to _) h2
      have g3 := Pl.good_way (Pl.good_to _) h3
      have S1 := steps_c g1 (Pl.way_cases h1).2.1 (by omega)
      have S2 := steps_c g2 (Pl.way_cases h2).2.1 (by omega)
      have S3 := steps_c g3 (Pl.way_cases h3).2.1 (by omega)
      have c1 := clean_c c (by omega)
      have J := join3_c a (bs (Pl.text r)) (bs (Pl.text q)) (by omega)
      rw [bs_data, bs_data, Pl.join_at _ _ _ (Pl.text_ne_nil g1) (Pl.isR_way (Pl.good_to _) h1)] at J
      rw [show [Pl.text r, Pl.text q].foldl Pl.follow (Pl.to a.data.toList) = Pl.follow (Pl.follow (Pl.to a.data.toList) (Pl.text r)) (Pl.text q) from rfl, Pl.follow_way (Pl.good_to _) h1, Pl.follow_way (Pl.good_to _) h2] at J
      have hb1 : r.up + r.names.length ≤ 10000000 := by
        have e1 := Pl.way_up_le h1
        have e2 := (Pl.text_len r).2
        have e3 : r.names.length ≤ Pl.sumL (Pl.parts r) := by
          have : ∀ l : List Pl.Bs, l.length ≤ Pl.sumL l := by
            intro l
            induction l with
            | nil => exact Nat.le_refl _
            | cons x l ih => simp only [List.length_cons, Pl.sumL]; omega
          have h4 := this (Pl.parts r)
          rw [Pl.parts_len] at h4
          omega
        rw [bs_size] at s1
        rw [← Lib.size_eq, ← Lib.size_eq] at e1
        omega
      have hb2 : q.up + q.names.length ≤ 10000000 := by
        have e1 := Pl.way_up_le h2
        have e2 := (Pl.text_len q).2
        have e3 : q.names.length ≤ Pl.sumL (Pl.parts q) := by
          have : ∀ l : List Pl.Bs, l.length ≤ Pl.sumL l := by
            intro l
            induction l with
            | nil => exact Nat.le_refl _
            | cons x l ih => simp only [List.length_cons, Pl.sumL]; omega
          have h4 := this (Pl.parts q)
          rw [Pl.parts_len] at h4
          omega
        rw [bs_size] at s2
        rw [← Lib.size_eq, ← Lib.size_eq] at e1
        omega
      generalize r.up + r.names.length = n1 at *
      generalize q.up + q.names.length = n2 at *
      generalize s.up + s.names.length = n3 at *
      generalize bs (Pl.text r) = rr at K1 S1 J
      generalize bs (Pl.text q) = rq at K2 S2 J
      generalize bs (Pl.text s) = rs at K3 S3
      generalize bs (Pl.text (Pl.to c.data.toList)) = cc at c1 J
      have ht := beq_true cc
      have hx : decide ((n3 : Int) ≤ (n1 : Int) + (n2 : Int)) = true := decide_eq_true (by omega)
      clear h1 h2 h3 hm g1 g2 g3 s1 s2 s3
      have HB0 := Lib.hid (Below.refl w.heap.size w)
      go_enter Tryd.func11, Tryd.ntmps11
      go_wp2_with fail
      refine (K1 _).mono ?_
      rintro e w1 ⟨rfl, hb1⟩
      have HB1 := Lib.hid (HB0.out.trans (hb1.mono HB0.out.size))
      clear hb1 HB0
      go_wp2_with fail
      refine (K2 _).mono ?_
      rintro e w2 ⟨rfl, hb2⟩
      have HB2 := Lib.hid (HB1.out.trans (hb2.mono HB1.out.size))
      clear hb2 HB1
      go_wp2_with fail
      refine (K3 _).mono ?_
      rintro e w3 ⟨rfl, hb3⟩
      have HB3 := Lib.hid (HB2.out.trans (hb3.mono HB2.out.size))
      clear hb3 HB2
      go_wp2_with fail
      refine (J _).mono ?_
      rintro e w4 ⟨rfl, hb4⟩
      have HB4 := Lib.hid (HB3.out.trans (hb4.mono HB3.out.size))
      clear hb4 HB3
      go_wp2_with fail
      refine (c1 _).mono ?_
      rintro e w5 ⟨rfl, hb5⟩
      have HB5 := Lib.hid (HB4.out.trans (hb5.mono HB4.out.size))
      clear hb5 HB4
      go_wp2_with fail
      refine (S3 _ (HM.out.below HB5.out)).mono ?_
      rintro e w6 ⟨⟨A6, c6, rfl⟩, hb6⟩
      have HB6 := Lib.hid (HB5.out.trans (hb6.mono HB5.out.size))
      clear hb6 HB5
      go_wp2_with fail
      refine (S1 _ (HM.out.below HB6.out)).mono ?_
      rintro e w7 ⟨⟨A7, c7, rfl⟩, hb7⟩
      have HB7 := Lib.hid (HB6.out.trans (hb7.mono HB6.out.size))
      clear hb7 HB6
      go_wp2_with fail
      refine (S2 _ (HM.out.below HB7.out)).mono ?_
      rintro e w8 ⟨⟨A8, c8, rfl⟩, hb8⟩
      have HB8 := Lib.hid (HB7.out.trans (hb8.mono HB7.out.size))
      clear hb8 HB7
      go_wp2_with fail
      go_ret
      exact ⟨rfl, HB8.out⟩

end Go.Proofs.YtgkbkocakinmfaaDoor
