/-
  laws.FnRelErrors returns true at every two paths. Conditions: both together are no longer than 2^20 bytes; the library's variable MaxLen holds an int.
-/
import Derived.Test.YtgkbkocakinmfaaDoorUps
namespace Go.Proofs.YtgkbkocakinmfaaDoor
open Go.RowKit Go.Lib

theorem relOk_iff (b t : Pl.Bs) : Pl.relOk b t = (decide (Pl.isR b = Pl.isR t) && decide ((Pl.to b).up ≤ (Pl.to t).up)) := by
  unfold Pl.relOk
  cases hw : (Pl.way (Pl.to b) (Pl.to t)).isSome with
  | false =>
    have := Pl.way_none_iff.1 hw
    rw [Pl.to_rooted, Pl.to_rooted] at this
    symm
    rw [Bool.and_eq_false_iff]
    rcases this with h | h
    · exact .inl (decide_eq_false h)
    · exact .inr (decide_eq_false (by omega))
  | true =>
    have hn : ¬ ((Pl.to b).rooted ≠ (Pl.to t).rooted ∨ (Pl.to t).up < (Pl.to b).up) := fun e => by
      rw [Pl.way_none_iff.2 e] at hw
      cases hw
    rw [Pl.to_rooted, Pl.to_rooted] at hn
    symm
    rw [Bool.and_eq_true]
    refine ⟨decide_eq_true ?_, decide_eq_true ?_⟩
    · cases h1 : Pl.isR b <;> cases h2 : Pl.isR t <;> simp_all
    · have : ¬ (Pl.to t).up < (Pl.to b).up := fun e => hn (.inr e)
      omega
theorem up_rooted (b : Pl.Bs) (h : Pl.isR b = true) : (Pl.to b).up = 0 := (Pl.good_to b).up0 (by rw [Pl.to_rooted]; exact h)

theorem fnRelErrors_walk (b t : ByteArray) (w : World) (hm : Ml w) (h : b.size + t.size ≤ 1048576) :
    Calls Tryd.prog 3 #[.string b, .string t] w fun e w' => e = .returned (.bool true) ∧ Below w.heap.size w w' := by
  have C9 := Lib.hid (fun W => wakes_any W)
  have HM := Lib.hid hm
  have c1 := fun W => implRel_small b t W (by omega) (by omega)
  rw [relOk_iff] at c1
  have C2 := Lib.hid (fun W => rooted_bel b W)
  have C3 := Lib.hid (fun W => rooted_bel t W)
  have C4 := Lib.hid (fun W => implClean_any b W (by omega))
  have C5 := Lib.hid (fun W => implClean_any t W (by omega))
  have C6 := Lib.hid (ups_clean b (by omega))
  have C7 := Lib.hid (ups_clean t (by omega))
  have hub := up_rooted b.data.toList
  have hut := up_rooted t.data.toList
  generalize (⟨(Pl.relS b.data.toList t.data.toList).toArray⟩ : ByteArray) = rr at c1
  generalize (⟨(Pa.clean b.data.toList).toArray⟩ : ByteArray) = cb at C4 C6
  generalize (⟨(Pa.clean t.data.toList).toArray⟩ : ByteArray) = ct at C5 C7
  generalize Pl.isR b.data.toList = rb at *
  generalize Pl.isR t.data.toList = rt at *
  have hbu := Pl.to_count b.data.toList
  have htu := Pl.to_count t.data.toList
  rw [← Lib.size_eq] at hbu htu
  generalize (Pl.to b.data.toList).names.length = nb at hbu
  generalize (Pl.to t.data.toList).names.length = nt at htu
  generalize (Pl.to b.data.toList).up = ub at *
  generalize (Pl.to t.data.toList).up = ut at *
  clear hm
  by_cases hr : rb = rt
  · subst hr
    cases rb with
    | true =>
      have e1 : ub = 0 := hub rfl
      have e2 : ut = 0 := hut rfl
      subst e1 e2
      have C1 := Lib.hid c1
      clear c1 hub hut
      have HB0 := Lib.hid (Below.refl w.heap.size w)
      go_enter Tryd.func3, Tryd.ntmps3
      go_wp2_with fail
      refine (C1.out _).mono ?_
      rintro e w1 ⟨rfl, hb1⟩
      have HB1 := Lib.hid (HB0.out.trans (hb1.mono HB0.out.size))
      clear hb1 HB0
      go_wp2_with fail
      refine (C2.out _).mono ?_
      rintro e w2 ⟨rfl, hb2⟩
      have HB2 := Lib.hid (HB1.out.trans (hb2.mono HB1.out.size))
      clear hb2 HB1
      go_wp2_with fail
      refine (C3.out _).mono ?_
      rintro e w3 ⟨rfl, hb3⟩
      have HB3 := Lib.hid (HB2.out.trans (hb3.mono HB2.out.size))
      clear hb3 HB2
      go_wp2_with fail
      refine (C2.out _).mono ?_
      rintro e w4 ⟨rfl, hb4⟩
      have HB4 := Lib.hid (HB3.out.trans (hb4.mono HB3.out.size))
      clear hb4 HB3
      go_wp2_with fail
      refine (C9.out _).mono ?_
      rintro e w5 ⟨rfl, hb5⟩
      have HB5 := Lib.hid (HB4.out.trans (hb5.mono HB4.out.size))
      clear hb5 HB4
      go_wp2_with fail
      go_ret
      exact ⟨rfl, HB5.out⟩
    | false =>
      by_cases hu : ub ≤ ut
      · have hd : decide (ub ≤ ut) = true := decide_eq_true hu
        have hd2 : decide ((ub : Int) ≤ (ut : Int)) = true := decide_eq_true (by omega)
        rw [hd] at c1
        have C1 := Lib.hid c1
        clear c1 hub hut
        have HB0 := Lib.hid (Below.refl w.heap.size w)
        go_enter Tryd.func3, Tryd.ntmps3
        go_wp2_with fail
        refine (C1.out _).mono ?_
        rintro e w1 ⟨rfl, hb1⟩
        have HB1 := Lib.hid (HB0.out.trans (hb1.mono HB0.out.size))
        clear hb1 HB0
        go_wp2_with fail
        refine (C2.out _).mono ?_
        rintro e w2 ⟨rfl, hb2⟩
        have HB2 := Lib.hid (HB1.out.trans (hb2.mono HB1.out.size))
        clear hb2 HB1
        go_wp2_with fail
        refine (C3.out _).mono ?_
        rintro e w3 ⟨rfl, hb3⟩
        have HB3 := Lib.hid (HB2.out.trans (hb3.mono HB2.out.size))
        clear hb3 HB2
        go_wp2_with fail
        refine (C2.out _).mono ?_
        rintro e w4 ⟨rfl, hb4⟩
        have HB4 := Lib.hid (HB3.out.trans (hb4.mono HB3.out.size))
        clear hb4 HB3
        go_wp2_with fail
        refine (C4.out _).mono ?_
        rintro e w5 ⟨rfl, hb5⟩
        have HB5 := Lib.hid (HB4.out.trans (hb5.mono HB4.out.size))
        clear hb5 HB4
        go_wp2_with fail
        refine (C6.out _ (HM.out.below HB5.out)).mono ?_
        rintro e w6 ⟨rfl, hb6⟩
        have HB6 := Lib.hid (HB5.out.trans (hb6.mono HB5.out.size))
        clear hb6 HB5
        go_wp2_with fail
        refine (C5.out _).mono ?_
        rintro e w7 ⟨rfl, hb7⟩
        have HB7 := Lib.hid (HB6.out.trans (hb7.mono HB6.out.size))
        clear hb7 HB6
        go_wp2_with fail
        refine (C7.out _ (HM.out.below HB7.out)).mono ?_
        rintro e w8 ⟨rfl, hb8⟩
        have HB8 := Lib.hid (HB7.out.trans (hb8.mono HB7.out.size))
        clear hb8 HB7
        go_wp2_with fail
        refine (C9.out _).mono ?_
        rintro e w9 ⟨rfl, hb9⟩
        have HB9 := Lib.hid (HB8.out.trans (hb9.mono HB8.out.size))
        clear hb9 HB8
        go_wp2_with fail
        go_ret
        exact ⟨rfl, HB9.out⟩
      · have hd : decide (ub ≤ ut) = false := decide_eq_false hu
        have hd2 : decide ((ub : Int) ≤ (ut : Int)) = false := decide_eq_false (by omega)
        rw [hd] at c1
        have C1 := Lib.hid c1
        clear c1 hub hut
        have HB0 := Lib.hid (Below.refl w.heap.size w)
        go_enter Tryd.func3, Tryd.ntmps3
        go_wp2_with fail
        refine (C1.out _).mono ?_
        rintro e w1 ⟨rfl, hb1⟩
        have HB1 := Lib.hid (HB0.out.trans (hb1.mono HB0.out.size))
        clear hb1 HB0
        go_wp2_with fail
        refine (C2.out _).mono ?_
        rintro e w2 ⟨rfl, hb2⟩
        have HB2 := Lib.hid (HB1.out.trans (hb2.mono HB1.out.size))
        clear hb2 HB1
        go_wp2_with fail
        refine (C3.out _).mono ?_
        rintro e w3 ⟨rfl, hb3⟩
        have HB3 := Lib.hid (HB2.out.trans (hb3.mono HB2.out.size))
        clear hb3 HB2
        go_wp2_with fail
        refine (C2.out _).mono ?_
        rintro e w4 ⟨rfl, hb4⟩
        have HB4 := Lib.hid (HB3.out.trans (hb4.mono HB3.out.size))
        clear hb4 HB3
        go_wp2_with fail
        refine (C4.out _).mono ?_
        rintro e w5 ⟨rfl, hb5⟩
        have HB5 := Lib.hid (HB4.out.trans (hb5.mono HB4.out.size))
        clear hb5 HB4
        go_wp2_with fail
        refine (C6.out _ (HM.out.below HB5.out)).mono ?_
        rintro e w6 ⟨rfl, hb6⟩
        have HB6 := Lib.hid (HB5.out.trans (hb6.mono HB5.out.size))
        clear hb6 HB5
        go_wp2_with fail
        refine (C5.out _).mono ?_
        rintro e w7 ⟨rfl, hb7⟩
        have HB7 := Lib.hid (HB6.out.trans (hb7.mono HB6.out.size))
        clear hb7 HB6
        go_wp2_with fail
        refine (C7.out _ (HM.out.below HB7.out)).mono ?_
        rintro e w8 ⟨rfl, hb8⟩
        have HB8 := Lib.hid (HB7.out.trans (hb8.mono HB7.out.size))
        clear hb8 HB7
        go_wp2_with fail
        refine (C9.out _).mono ?_
        rintro e w9 ⟨rfl, hb9⟩
        have HB9 := Lib.hid (HB8.out.trans (hb9.mono HB8.out.size))
        clear hb9 HB8
        go_wp2_with fail
        go_ret
        exact ⟨rfl, HB9.out⟩
  · have e : decide (rb = rt) = false := decide_eq_false hr
    rw [e, Bool.false_and] at c1
    have hb2 : (rb != rt) = true := by simpa using hr
    have C1 := Lib.hid c1
    clear c1 hub hut e
    cases rb <;> cases rt
    · exact absurd rfl hr
    all_goals first | exact absurd rfl hr | skip
    all_goals
      clear hr hb2
      have HB0 := Lib.hid (Below.refl w.heap.size w)
      go_enter Tryd.func3, Tryd.ntmps3
      go_wp2_with fail
      refine (C1.out _).mono ?_
      rintro e w1 ⟨rfl, hb1⟩
      have HB1 := Lib.hid (HB0.out.trans (hb1.mono HB0.out.size))
      clear hb1 HB0
      go_wp2_with fail
      refine (C2.out _).mono ?_
      rintro e w2 ⟨rfl, hb2⟩
      have HB2 := Lib.hid (HB1.out.trans (hb2.mono HB1.out.size))
      clear hb2 HB1
      go_wp2_with fail
      refine (C3.out _).mono ?_
      rintro e w3 ⟨rfl, hb3⟩
      have HB3 := Lib.hid (HB2.out.trans (hb3.mono HB2.out.size))
      clear hb3 HB2
      go_wp2_with fail
      refine (C9.out _).mono ?_
      rintro e w4 ⟨rfl, hb4⟩
      have HB4 := Lib.hid (HB3.out.trans (hb4.mono HB3.out.size))
      clear hb4 HB3
      go_wp2_with fail
      go_ret
      exact ⟨rfl, HB4.out⟩

end Go.Proofs.YtgkbkocakinmfaaDoor
