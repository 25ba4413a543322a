/-
  laws.FnRel returns true at every two paths. Conditions: both together are no longer than 2^20 bytes.
-/
import Derived.Test.YtgkbkocakinmfaaSpecRel
namespace Go.Proofs.Ytgkbkocakinmfaa
open Go.RowKit Go.Lib

theorem fnRel_walk (a b : ByteArray) (w : World) (h : a.size + b.size ≤ 1048576) :
    Calls Try.prog 6 #[.string a, .string b] w fun e w' => e = .returned (.bool true) ∧ Below w.heap.size w w' := by
  have C9 := wakes_c
  cases hw : Pl.way (Pl.to a.data.toList) (Pl.to b.data.toList) with
  | none =>
    have K := rel_none (by omega) (by omega) hw
    have K2 := Lib.hid (fun W => specRel_none a b W h hw)
    rw [show bs [] = ⟨#[]⟩ from rfl] at K
    clear hw h
    have HB0 := Lib.hid (Below.refl w.heap.size w)
    go_enter Try.func6, Try.ntmps6
    go_wp2_with fail
    refine (K _).mono ?_
    rintro e w1 ⟨rfl, hb1⟩
    have HB1 := Lib.hid (HB0.out.trans (hb1.mono HB0.out.size))
    clear hb1 HB0
    go_wp2_with fail
    refine (K2.out _).mono ?_
    rintro e w2 ⟨rfl, hb2⟩
    have HB2 := Lib.hid (HB1.out.trans (hb2.mono HB1.out.size))
    clear hb2 HB1
    go_wp2_with fail
    refine (C9 _).mono ?_
    rintro e w3 ⟨rfl, hb3⟩
    have HB3 := Lib.hid (HB2.out.trans (hb3.mono HB2.out.size))
    clear hb3 HB2
    go_wp2_with fail
    go_ret
    exact ⟨rfl, HB3.out⟩
  | some r =>
    have K := rel_some (by omega) (by omega) hw
    have K2 := Lib.hid (fun W => specRel_some a b W h hw)
    generalize bs (Pl.text r) = q at K K2
    have hqq := beq_true q
    clear hw h
    have HB0 := Lib.hid (Below.refl w.heap.size w)
    go_enter Try.func6, Try.ntmps6
    go_wp2_with fail
    refine (K _).mono ?_
    rintro e w1 ⟨rfl, hb1⟩
    have HB1 := Lib.hid (HB0.out.trans (hb1.mono HB0.out.size))
    clear hb1 HB0
    go_wp2_with fail
    refine (K2.out _).mono ?_
    rintro e w2 ⟨rfl, hb2⟩
    have HB2 := Lib.hid (HB1.out.trans (hb2.mono HB1.out.size))
    clear hb2 HB1
    go_wp2_with fail
    refine (C9 _).mono ?_
    rintro e w3 ⟨rfl, hb3⟩
    have HB3 := Lib.hid (HB2.out.trans (hb3.mono HB2.out.size))
    clear hb3 HB2
    go_wp2_with fail
    go_ret
    exact ⟨rfl, HB3.out⟩
end Go.Proofs.Ytgkbkocakinmfaa
