/-
  laws.FnRelFromRoot returns true at every path. Conditions: the path is no longer than 2^47 - 4096 bytes.
-/
import Derived.Test.YtgkbkocakinmfaaImpl
namespace Go.Proofs.Ytgkbkocakinmfaa
open Go.RowKit Go.Lib

theorem fnRelFromRoot_walk (t : ByteArray) (w : World) (h : t.size ≤ 140737488351232) :
    Calls Try.prog 4 #[.string t] w fun e w' => e = .returned (.bool true) ∧ Below w.heap.size w w' := by
  have hst : (⟨#[47]⟩ ++ t : ByteArray).data.toList = 47 :: t.data.toList := by rw [app_list]; rfl
  have hsz : (⟨#[47]⟩ ++ t : ByteArray).size = t.size + 1 := by rw [app_size]; show 1 + t.size = _; omega
  have gT := Pl.good_to (47 :: t.data.toList)
  have rT : (Pl.to (47 :: t.data.toList)).rooted = true := Pl.to_rooted _
  have uT := gT.up0 rT
  have hroot : Pl.to (⟨#[47]⟩ : ByteArray).data.toList = ⟨true, 0, []⟩ := rfl
  have hw : Pl.way (Pl.to (⟨#[47]⟩ : ByteArray).data.toList) (Pl.to (⟨#[47]⟩ ++ t : ByteArray).data.toList) = some ⟨false, 0, (Pl.to (47 :: t.data.toList)).names⟩ := by
    rw [hst, hroot, Pl.way_eq rT.symm uT.symm, Pl.cp_nil_left]
    simp
  have c1 := fun W => implRel_any ⟨#[47]⟩ (⟨#[47]⟩ ++ t) W (by decide) (by omega) (fun _ r hr => by
    rw [hw] at hr
    rw [← Option.some.inj hr]
    exact Nat.zero_le _)
  rw [(Pl.relS_some hw).1, (Pl.relS_some hw).2] at c1
  have c2 := fun W => implClean_any (⟨#[47]⟩ ++ t) W (by omega)
  rw [hst, Pl.clean_eq] at c2
  have hlen : (Pl.text ⟨false, 0, (Pl.to (47 :: t.data.toList)).names⟩).length ≤ 4 * t.size + 100 := by
    have := Pl.rel_len (⟨#[47]⟩ : ByteArray).data.toList (⟨#[47]⟩ ++ t : ByteArray).data.toList
    rw [(Pl.relS_some hw).1, ← Lib.size_eq, ← Lib.size_eq, hsz] at this
    have e : (⟨#[47]⟩ : ByteArray).size = 1 := rfl
    omega
  have ht : Pl.text (Pl.to (47 :: t.data.toList)) = 47 :: Pl.inter (Pl.to (47 :: t.data.toList)).names := by
    unfold Pl.text Pl.parts
    rw [if_pos rT, uT]
    rfl
  rw [ht] at c2
  have ht2 : Pl.text ⟨false, 0, (Pl.to (47 :: t.data.toList)).names⟩ = if (Pl.to (47 :: t.data.toList)).names = [] then [46] else Pl.inter (Pl.to (47 :: t.data.toList)).names := by
    unfold Pl.text Pl.parts
    simp
  generalize (Pl.to (47 :: t.data.toList)).names = N at c1 c2 ht2 hlen
  have hfacts : ∃ (rr ct : ByteArray) (a b c : Bool), (∀ W : World, Calls Try.prog 17 #[.string ⟨#[47]⟩, .string (⟨#[47]⟩ ++ t)] W fun e w' => e = .returned (.tuple #[.string rr, .bool true]) ∧ Below W.heap.size W w') ∧
      (∀ W : World, Calls Try.prog 18 #[.string (⟨#[47]⟩ ++ t)] W fun e w' => e = .returned (.string ct) ∧ Below W.heap.size W w') ∧ rr.size ≤ 4 * t.size + 100 ∧
      ((⟨#[47]⟩ ++ rr : ByteArray).toList == ct.toList) = a ∧ (rr.toList == [46]) = b ∧ (ct.toList == [47]) = c ∧ (a = true ∨ (a = false ∧ b = true ∧ c = true)) := by
    refine ⟨_, _, _, _, _, c1, c2, by rw [Pa.size_mk]; exact hlen, rfl, rfl, rfl, ?_⟩
    rw [Lib.toList_data, Lib.toList_data, Lib.toList_data, app_list]
    show ((47 :: Pl.text ⟨false, 0, N⟩) == (47 :: Pl.inter N)) = true ∨ _
    by_cases hN : N = []
    · subst hN
      exact .inr ⟨by decide, by decide, by decide⟩
    · rw [ht2, if_neg hN]
      exact .inl (by simp)
  obtain ⟨rr, ct, a, b, c, k1, k2, hrs, ha, hb, hc, hcase⟩ := hfacts
  have C1 := Lib.hid k1
  have C2 := Lib.hid k2
  have hsize : t.size ≤ 140737488351232 := h
  clear c1 c2 k1 k2 ht ht2 hlen hw hroot rT uT gT hst hsz
  -- from a dot
  have c3 : ∀ W, Pl.isR t.data.toList = false → Calls Try.prog 17 #[.string ⟨#[46]⟩, .string t] W fun e w' => e = .returned (.tuple #[.string ⟨(Pa.clean t.data.toList).toArray⟩, .bool true]) ∧ Below W.heap.size W w' := by
    intro W hr
    have hd : Pl.to (⟨#[46]⟩ : ByteArray).data.toList = ⟨false, 0, []⟩ := rfl
    have hrt : (Pl.to t.data.toList).rooted = false := by rw [Pl.to_rooted]; exact hr
    have hw : Pl.way (Pl.to (⟨#[46]⟩ : ByteArray).data.toList) (Pl.to t.data.toList) = some (Pl.to t.data.toList) := by
      rw [hd]
      by_cases hu : (Pl.to t.data.toList).up = 0
      · rw [Pl.way_eq hrt.symm hu.symm]
        simp only [Pl.cp_nil_left, List.length_nil, List.drop_zero, Option.some.injEq]
        exact Pl.Place.eq_of hrt.symm hu.symm rfl
      · rw [Pl.way_lt hrt.symm (Nat.pos_of_ne_zero hu)]
        simp only [List.length_nil, Nat.zero_add, Nat.sub_zero, Option.some.injEq]
        exact Pl.Place.eq_of hrt.symm rfl rfl
    have c := implRel_any ⟨#[46]⟩ t W (by decide) (by omega) (fun hn => by rw [hd] at hn; exact absurd rfl hn)
    rw [(Pl.relS_some hw).1, (Pl.relS_some hw).2, ← Pl.clean_eq] at c
    exact c
  have c4 := fun W => implClean_any t W (by omega)
  generalize (⟨(Pa.clean t.data.toList).toArray⟩ : ByteArray) = cl at c3 c4
  have C3 := Lib.hid c3
  have C4 := Lib.hid c4
  have hcl : (cl.toList == cl.toList) = true := by simp
  clear c3 c4
  cases hro : Pl.isR t.data.toList with
  | true =>
    have C5 := Lib.hid (fun W => rooted_any t W)
    rw [hro] at C5
    clear hro
    rcases hcase with rfl | ⟨rfl, rfl, rfl⟩
    all_goals
      go_enter Try.func4, Try.ntmps4
      go_wp2_with fail
      refine (C1.out _).mono ?_
      rintro e w1 ⟨rfl, hb1⟩
      have HB1 := Lib.hid hb1
      clear hb1
      go_wp2_with fail
      refine (C2.out _).mono ?_
      rintro e w2 ⟨rfl, hb2⟩
      have HB2 := Lib.hid (HB1.out.trans (hb2.mono HB1.out.size))
      clear hb2 HB1
      go_wp2_with (go_at_call 19; refine (C5.out _).mono ?_; rintro e w3 ⟨rfl, rfl⟩)
    · go_ret
      exact ⟨rfl, HB2.out⟩
    · refine (C2.out _).mono ?_
      rintro e w3 ⟨rfl, hb3⟩
      have HB3 := Lib.hid (HB2.out.trans (hb3.mono HB2.out.size))
      clear hb3 HB2
      go_wp2_with (go_at_call 19; refine (C5.out _).mono ?_; rintro e w4 ⟨rfl, rfl⟩)
      go_ret
      exact ⟨rfl, HB3.out⟩
  | false =>
    have C5 := Lib.hid (fun W => rooted_any t W)
    rw [hro] at C5
    have C6 := Lib.hid (fun W => C3.out W hro)
    clear hro C3
    rcases hcase with rfl | ⟨rfl, rfl, rfl⟩
    · go_enter Try.func4, Try.ntmps4
      go_wp2_with fail
      refine (C1.out _).mono ?_
      rintro e w1 ⟨rfl, hb1⟩
      have HB1 := Lib.hid hb1
      clear hb1
      go_wp2_with fail
      refine (C2.out _).mono ?_
      rintro e w2 ⟨rfl, hb2⟩
      have HB2 := Lib.hid (HB1.out.trans (hb2.mono HB1.out.size))
      clear hb2 HB1
      go_wp2_with (go_at_call 19; refine (C5.out _).mono ?_; rintro e w3 ⟨rfl, rfl⟩)
      refine (C6.out _).mono ?_
      rintro e w4 ⟨rfl, hb4⟩
      have HB4 := Lib.hid (HB2.out.trans (hb4.mono HB2.out.size))
      clear hb4 HB2
      go_wp2_with fail
      refine (C4.out _).mono ?_
      rintro e w5 ⟨rfl, hb5⟩
      have HB5 := Lib.hid (HB4.out.trans (hb5.mono HB4.out.size))
      clear hb5 HB4
      go_wp2_with fail
      go_ret
      exact ⟨rfl, HB5.out⟩
    · go_enter Try.func4, Try.ntmps4
      go_wp2_with fail
      refine (C1.out _).mono ?_
      rintro e w1 ⟨rfl, hb1⟩
      have HB1 := Lib.hid hb1
      clear hb1
      go_wp2_with fail
      refine (C2.out _).mono ?_
      rintro e w2 ⟨rfl, hb2⟩
      have HB2 := Lib.hid (HB1.out.trans (hb2.mono HB1.out.size))
      clear hb2 HB1
      go_wp2_with fail
      refine (C2.out _).mono ?_
      rintro e w3 ⟨rfl, hb3⟩
      have HB3 := Lib.hid (HB2.out.trans (hb3.mono HB2.out.size))
      clear hb3 HB2
      go_wp2_with (go_at_call 19; refine (C5.out _).mono ?_; rintro e w3 ⟨rfl, rfl⟩)
      refine (C6.out _).mono ?_
      rintro e w4 ⟨rfl, hb4⟩
      have HB4 := Lib.hid (HB3.out.trans (hb4.mono HB3.out.size))
      clear hb4 HB3
      go_wp2_with fail
      refine (C4.out _).mono ?_
      rintro e w5 ⟨rfl, hb5⟩
      have HB5 := Lib.hid (HB4.out.trans (hb5.mono HB4.out.size))
      clear hb5 HB4
      go_wp2_with fail
      go_ret
      exact ⟨rfl, HB5.out⟩

end Go.Proofs.Ytgkbkocakinmfaa
