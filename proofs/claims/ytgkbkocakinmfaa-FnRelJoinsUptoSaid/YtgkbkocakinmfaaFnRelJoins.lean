/-
  laws.FnRelJoins returns true at every two paths. Conditions: both together are no longer than 2^20 bytes.
-/
import Derived.Test.YtgkbkocakinmfaaImpl
import Derived.Test.YtgkbkocakinmfaaPlainJoin
namespace Go.Proofs.Ytgkbkocakinmfaa
open Go.RowKit Go.Lib

theorem fnRelJoins_walk (b t : ByteArray) (w : World) (h : b.size + t.size ≤ 1048576) :
    Calls Try.prog 9 #[.string b, .string t] w fun e w' => e = .returned (.bool true) ∧ Below w.heap.size w w' := by
  have hl := Pl.rel_len b.data.toList t.data.toList
  rw [← Lib.size_eq, ← Lib.size_eq] at hl
  have c1 := fun W => implRel_small b t W (by omega) (by omega)
  have C3 := Lib.hid (fun W => implClean_any t W (by omega))
  have C9 := Lib.hid (fun W => wakes_any W)
  cases hw : Pl.way (Pl.to b.data.toList) (Pl.to t.data.toList) with
  | none =>
    rw [(Pl.relS_none hw).1, (Pl.relS_none hw).2] at c1
    have C1 := Lib.hid c1
    clear c1 hw hl
    have HB0 := Lib.hid (Below.refl w.heap.size w)
    go_enter Try.func9, Try.ntmps9
    go_wp2_with fail
    refine (C1.out _).mono ?_
    rintro e w1 ⟨rfl, hb1⟩
    have HB1 := Lib.hid (HB0.out.trans (hb1.mono HB0.out.size))
    clear hb1 HB0
    go_wp2_with fail
    refine (C9.out _).mono ?_
    rintro e w2 ⟨rfl, hb2⟩
    have HB2 := Lib.hid (HB1.out.trans (hb2.mono HB1.out.size))
    clear hb2 HB1
    go_wp2_with fail
    go_ret
    exact ⟨rfl, HB2.out⟩
  | some r =>
    have e1 := (Pl.relS_some hw).1
    rw [(Pl.relS_some hw).2] at c1
    have hrs : (⟨(Pl.relS b.data.toList t.data.toList).toArray⟩ : ByteArray).size = (Pl.relS b.data.toList t.data.toList).length := Pa.size_mk _
    have c2 := fun W => implJoin_two b ⟨(Pl.relS b.data.toList t.data.toList).toArray⟩ W 9 (by omega)
    rw [show (⟨(Pl.relS b.data.toList t.data.toList).toArray⟩ : ByteArray).data.toList = Pl.relS b.data.toList t.data.toList from rfl, e1, Pl.join_rel hw, ← e1] at c2
    have C1 := Lib.hid c1
    have C2 := Lib.hid c2
    generalize (⟨(Pl.relS b.data.toList t.data.toList).toArray⟩ : ByteArray) = rr at C1 C2
    generalize (⟨(Pa.clean t.data.toList).toArray⟩ : ByteArray) = cl at C2 C3
    have hcl : (cl.toList == cl.toList) = true := by simp
    clear c1 c2 hw hl e1 hrs
    have HB0 := Lib.hid (Below.refl w.heap.size w)
    go_enter Try.func9, Try.ntmps9
    go_wp2_with fail
    refine (C1.out _).mono ?_
    rintro e w1 ⟨rfl, hb1⟩
    have HB1 := Lib.hid (HB0.out.trans (hb1.mono HB0.out.size))
    clear hb1 HB0
    go_wp2_with fail
    refine (C2.out _).mono ?_
    rintro e w2 ⟨rfl, hb2⟩
    have HB2 := Lib.hid (HB1.out.trans (hb2.mono HB1.out.size))
    clear hb2 HB1
    go_wp2_with fail
    refine (C3.out _).mono ?_
    rintro e w3 ⟨rfl, hb3⟩
    have HB3 := Lib.hid (HB2.out.trans (hb3.mono HB2.out.size))
    clear hb3 HB2
    go_wp2_with fail
    go_ret
    exact ⟨rfl, HB3.out⟩

end Go.Proofs.Ytgkbkocakinmfaa
