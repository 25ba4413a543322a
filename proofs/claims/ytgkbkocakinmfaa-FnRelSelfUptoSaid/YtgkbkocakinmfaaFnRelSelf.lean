/-
  laws.FnRelSelf returns true at every two paths. Conditions: both together are no longer than 2^20 bytes.
-/
import Derived.Test.YtgkbkocakinmfaaImpl
namespace Go.Proofs.Ytgkbkocakinmfaa
open Go.RowKit Go.Lib

theorem fnRelSelf_walk (p q : ByteArray) (w : World) (h : p.size + q.size ≤ 1048576) :
    Calls Try.prog 3 #[.string p, .string q] w fun e w' => e = .returned (.bool true) ∧ Below w.heap.size w w' := by
  have gP := Pl.good_to p.data.toList
  have same : ∀ r : ByteArray, Pl.to r.data.toList = Pl.to p.data.toList → Pl.relS p.data.toList r.data.toList = [46] ∧ Pl.relOk p.data.toList r.data.toList = true := by
    intro r hr
    have hw : Pl.way (Pl.to p.data.toList) (Pl.to r.data.toList) = some ⟨false, 0, []⟩ := by
      rw [hr, Pl.way_eq rfl rfl, Pl.cp_self]
      simp
    exact Pl.relS_some hw
  have c1 := fun W => implRel_small p p W (by omega) (by omega)
  rw [(same p rfl).1, (same p rfl).2] at c1
  have c2 := fun W => implClean_any p W (by omega)
  have c5 := fun W => implClean_any q W (by omega)
  have hto : Pl.to (⟨(Pa.clean p.data.toList).toArray⟩ : ByteArray).data.toList = Pl.to p.data.toList := Pl.to_clean _
  have hlp : (⟨(Pa.clean p.data.toList).toArray⟩ : ByteArray).size ≤ p.size + 1 := by rw [Pa.size_mk, Lib.size_eq]; exact Pl.clean_len _
  have hcc : ((⟨(Pa.clean p.data.toList).toArray⟩ : ByteArray).toList == (⟨(Pa.clean q.data.toList).toArray⟩ : ByteArray).toList) = true ↔ Pl.to q.data.toList = Pl.to p.data.toList := by
    rw [Lib.toList_data, Lib.toList_data]
    show (Pa.clean p.data.toList == Pa.clean q.data.toList) = true ↔ _
    rw [beq_iff_eq, Pl.clean_eq_iff]
    exact eq_comm
  generalize (⟨(Pa.clean p.data.toList).toArray⟩ : ByteArray) = cp at c2 hto hlp hcc
  generalize (⟨(Pa.clean q.data.toList).toArray⟩ : ByteArray) = cq at c5 hcc
  have c3 := fun W => implRel_small p cp W (by omega) (by omega)
  rw [(same cp hto).1, (same cp hto).2] at c3
  have c4 := fun W => implRel_small p q W (by omega) (by omega)
  have C1 := Lib.hid c1
  have C2 := Lib.hid c2
  have C3 := Lib.hid c3
  have C5 := Lib.hid c5
  clear c1 c2 c3 c5 hto
  have hall : ∃ (rr : ByteArray) (ok a b : Bool), (∀ W : World, Calls Try.prog 17 #[.string p, .string q] W fun e w' => e = .returned (.tuple #[.string rr, .bool ok]) ∧ Below W.heap.size W w') ∧
      (rr.toList == [46]) = a ∧ (cp.toList == cq.toList) = b ∧ ((ok = true ∧ a = true ∧ b = true) ∨ (ok = false ∧ b = false) ∨ (ok = true ∧ a = false ∧ b = false)) := by
    refine ⟨_, _, _, _, c4, rfl, rfl, ?_⟩
    by_cases e : Pl.to q.data.toList = Pl.to p.data.toList
    · refine .inl ⟨(same q e).2, ?_, hcc.2 e⟩
      rw [(same q e).1, Lib.toList_data]
      rfl
    · have hb : (cp.toList == cq.toList) = false := by
        cases h0 : (cp.toList == cq.toList) with
        | false => rfl
        | true => exact absurd (hcc.1 h0) e
      cases hw : Pl.way (Pl.to p.data.toList) (Pl.to q.data.toList) with
      | none => exact .inr (.inl ⟨(Pl.relS_none hw).2, hb⟩)
      | some r =>
        refine .inr (.inr ⟨(Pl.relS_some hw).2, ?_, hb⟩)
        rw [(Pl.relS_some hw).1, Lib.toList_data]
        show (Pl.text r == [46]) = false
        simp only [beq_eq_false_iff_ne]
        intro e46
        have hr := (Pl.text_dot (Pl.good_way (Pl.good_to _) hw)).1 e46
        have ha := Pl.along_way (Pl.good_to _) hw
        rw [hr] at ha
        exact e ha.symm
  obtain ⟨rr, ok, a, b, c4', ha, hb, hcase⟩ := hall
  have C4 := Lib.hid c4'
  clear c4 c4' same gP hcc h hlp
  rcases hcase with ⟨rfl, rfl, rfl⟩ | ⟨rfl, rfl⟩ | ⟨rfl, rfl, rfl⟩
  all_goals
    go_enter Try.func3, Try.ntmps3
    go_wp2_with fail
    refine (C1.out _).mono ?_
    rintro e w1 ⟨rfl, hb1⟩
    have HB1 := Lib.hid hb1
    clear hb1
    go_wp2_with fail
    refine (C2.out _).mono ?_
    rintro e w2 ⟨rfl, hb2⟩
    have HB2 := Lib.hid (HB1.out.trans (hb2.mono HB1.out.size))
    clear hb2 HB1
    go_wp2_with fail
    refine (C3.out _).mono ?_
    rintro e w3 ⟨rfl, hb3⟩
    have HB3 := Lib.hid (HB2.out.trans (hb3.mono HB2.out.size))
    clear hb3 HB2
    go_wp2_with fail
    refine (C4.out _).mono ?_
    rintro e w4 ⟨rfl, hb4⟩
    have HB4 := Lib.hid (HB3.out.trans (hb4.mono HB3.out.size))
    clear hb4 HB3
    go_wp2_with fail
    refine (C2.out _).mono ?_
    rintro e w5 ⟨rfl, hb5⟩
    have HB5 := Lib.hid (HB4.out.trans (hb5.mono HB4.out.size))
    clear hb5 HB4
    go_wp2_with fail
    refine (C5.out _).mono ?_
    rintro e w6 ⟨rfl, hb6⟩
    have HB6 := Lib.hid (HB5.out.trans (hb6.mono HB5.out.size))
    clear hb6 HB5
    go_wp2_with fail
    go_ret
    exact ⟨rfl, HB6.out⟩

end Go.Proofs.Ytgkbkocakinmfaa
