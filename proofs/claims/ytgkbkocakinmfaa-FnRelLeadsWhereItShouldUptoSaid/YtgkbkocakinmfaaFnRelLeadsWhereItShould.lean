/-
  laws.FnRelLeadsWhereItShould returns true at every two paths. Conditions: both together are no longer than 2^20 bytes.
-/
import Derived.Test.YtgkbkocakinmfaaSpecSame
namespace Go.Proofs.Ytgkbkocakinmfaa
open Go.RowKit Go.Lib

theorem fnRelLeadsWhereItShould_walk (a b : ByteArray) (w : World) (h : a.size + b.size ≤ 1048576) :
    Calls Try.prog 10 #[.string a, .string b] w fun e w' => e = .returned (.bool true) ∧ Below w.heap.size w w' := by
  have C9 := wakes_c
  cases hw : Pl.way (Pl.to a.data.toList) (Pl.to b.data.toList) with
  | none =>
    have K := rel_none (by omega) (by omega) hw
    clear hw h
    have HB0 := Lib.hid (Below.refl w.heap.size w)
    go_enter Try.func10, Try.ntmps10
    go_wp2_with fail
    refine (K _).mono ?_
    rintro e w1 ⟨rfl, hb1⟩
    have HB1 := Lib.hid (HB0.out.trans (hb1.mono HB0.out.size))
    clear hb1 HB0
    go_wp2_with fail
    refine (C9 _).mono ?_
    rintro e w2 ⟨rfl, hb2⟩
    have HB2 := Lib.hid (HB1.out.trans (hb2.mono HB1.out.size))
    clear hb2 HB1
    go_wp2_with fail
    go_ret
    exact ⟨rfl, HB2.out⟩
  | some r =>
    have K := rel_some (by omega) (by omega) hw
    have z := way_size hw
    have hf : Pl.follow (Pl.to a.data.toList) (bs (Pl.text r)).data.toList = Pl.to b.data.toList := Pl.follow_way (Pl.good_to _) hw
    generalize bs (Pl.text r) = q at K z hf
    have ca := Pl.to_count a.data.toList
    have cb := Pl.to_count b.data.toList
    rw [← Lib.size_eq] at ca cb
    have T1 := Lib.hid (fun W => to_c a W (by omega))
    have T2 := Lib.hid (fun W => to_c b W (by omega))
    have F1 : Hid (∀ (W : World) (v : Value), PV (fun _ => True) W v (Pl.to a.data.toList) → Calls Try.prog 25 #[v, .string q] W fun e w' => (∃ v', e = .returned v' ∧ PV (fun _ => True) w' v' (Pl.to b.data.toList)) ∧ Below W.heap.size W w') := fun W v hv => by
      have k := follow_c (S := fun _ => True) (Pl.to a.data.toList) v q W (by omega) (fun _ _ => trivial) hv
      rw [hf] at k
      exact k
    have S1 : Hid (∀ (W : World) (v v' : Value), PV (fun _ => True) W v (Pl.to b.data.toList) → PV (fun _ => True) W v' (Pl.to b.data.toList) → Calls Try.prog 24 #[v, v'] W fun e w' => e = .returned (.bool true) ∧ Below W.heap.size W w') := fun W v v' h1 h2 => by
      have k := same_c (Pl.to b.data.toList) (Pl.to b.data.toList) v v' W (by omega) h1 h2
      rw [decide_eq_true ⟨rfl, rfl, rfl⟩] at k
      exact k
    clear hw h z hf ca cb
    have HB0 := Lib.hid (Below.refl w.heap.size w)
    go_enter Try.func10, Try.ntmps10
    go_wp2_with fail
    refine (K _).mono ?_
    rintro e w1 ⟨rfl, hb1⟩
    have HB1 := Lib.hid (HB0.out.trans (hb1.mono HB0.out.size))
    clear hb1 HB0
    go_wp2_with fail
    refine (T1.out _).mono ?_
    rintro x w2 ⟨⟨va, rfl, hva⟩, hb2⟩
    have HB2 := Lib.hid (HB1.out.trans (hb2.mono HB1.out.size))
    have HVA := Lib.hid (hva.mono (S' := fun _ => True) fun _ _ _ => trivial)
    clear hva hb2 HB1
    go_wp2_with fail
    refine (F1.out _ _ HVA.out).mono ?_
    rintro x w3 ⟨⟨vf, rfl, hvf⟩, hb3⟩
    have HB3 := Lib.hid (HB2.out.trans (hb3.mono HB2.out.size))
    have HVF := Lib.hid hvf
    clear hvf hb3 HB2 HVA
    go_wp2_with fail
    refine (T2.out _).mono ?_
    rintro x w4 ⟨⟨vb, rfl, hvb⟩, hb4⟩
    have HB4 := Lib.hid (HB3.out.trans (hb4.mono HB3.out.size))
    have HVB := Lib.hid (hvb.mono (S' := fun _ => True) fun _ _ _ => trivial)
    have HVF4 := Lib.hid (HVF.out.below hb4)
    clear hvb hb4 HB3 HVF
    go_wp2_with fail
    refine (S1.out _ _ _ HVF4.out HVB.out).mono ?_
    rintro e w5 ⟨rfl, hb5⟩
    have HB5 := Lib.hid (HB4.out.trans (hb5.mono HB4.out.size))
    clear hb5 HB4
    go_wp2_with fail
    refine (C9 _).mono ?_
    rintro e w6 ⟨rfl, hb6⟩
    have HB6 := Lib.hid (HB5.out.trans (hb6.mono HB5.out.size))
    clear hb6 HB5
    go_wp2_with fail
    go_ret
    exact ⟨rfl, HB6.out⟩
end Go.Proofs.Ytgkbkocakinmfaa
