/-
  The reference's Elements, Follow and To: what they return, for every path. Conditions: as each theorem states them.
-/
import Derived.Test.YtgkbkocakinmfaaSpecPlace
import Derived.Test.YtgkbkocakinmfaaPlainChain
namespace Go.Proofs.Ytgkbkocakinmfaa
open Go.RowKit Go.Lib

theorem Pl.els_cut (l : Pl.Bs) (f i : Nat) (h : Pl.Sc l f i) (h47 : l[i]? = some 47) : Pa.els (l.drop f) = (l.drop f).take (i - f) :: Pa.els (l.drop (i + 1)) := by
  obtain ⟨h1, h2, h3⟩ := h
  have hi : i < l.length := (List.getElem?_eq_some_iff.1 h47).1
  have e1 : l.drop i = 47 :: l.drop (i + 1) := by
    rw [List.drop_eq_getElem_cons hi]
    have := (List.getElem?_eq_some_iff.1 h47).2
    rw [this]
  have e2 : l.drop f = (l.drop f).take (i - f) ++ 47 :: l.drop (i + 1) := by
    have := List.take_append_drop (i - f) (l.drop f)
    rw [List.drop_drop, show f + (i - f) = i by omega, e1] at this
    exact this.symm
  have hno : 47 ∉ (l.drop f).take (i - f) := by
    intro hm
    obtain ⟨j, hj⟩ := List.getElem?_of_mem hm
    rw [List.getElem?_take] at hj
    split at hj
    · rw [List.getElem?_drop] at hj
      exact h3 (f + j) (by omega) (by omega) hj
    · cases hj
  rw [show Pa.els (l.drop f) = Pa.els ((l.drop f).take (i - f) ++ 47 :: l.drop (i + 1)) from congrArg Pa.els e2, Pa.els_app, Pl.els_one hno]
  rfl
theorem Pl.els_last (l : Pl.Bs) (f i : Nat) (h : Pl.Sc l f i) (hi : i = l.length) : Pa.els (l.drop f) = [l.drop f] := by
  obtain ⟨h1, h2, h3⟩ := h
  refine Pl.els_one ?_
  intro hm
  obtain ⟨j, hj⟩ := List.getElem?_of_mem hm
  rw [List.getElem?_drop] at hj
  have := (List.getElem?_eq_some_iff.1 hj).1
  exact h3 (f + j) (by omega) (by omega) hj

set_option maxHeartbeats 1000000 in
theorem elements_c (s : ByteArray) (w : World) (hs : s.size ≤ 1099511627776) :
    Calls Try.prog 41 #[.string s] w fun e w' => (∃ v, e = .returned v ∧ Rd (w.heap.size ≤ ·) w' v ((Pa.els s.data.toList).map bs)) ∧ Below w.heap.size w w' := by
  go_enter Try.func41, Try.ntmps41
  go_wp2_with fail
  go_loopw [3, 4, 5] (fun v3 v4 v5 wr => ∃ (f i : Nat) (D : List Pl.Bs), f ≤ i ∧ i ≤ s.size ∧ D.length ≤ i ∧ v4 = .int .i64 f ∧ v5 = .int .i64 i ∧ Hid (Pl.Sc s.data.toList f i) ∧ Hid (D ++ Pa.els (s.data.toList.drop f) = Pa.els s.data.toList) ∧
      Hid (Owns wr w.heap.size v3 (D.map bs)) ∧ Hid (Below w.heap.size w wr)) (fun _ _ v5 _ => s.size - (RowKit.intOf v5).toNat)
  case atStart => exact ⟨0, 0, [], Nat.le_refl _, Nat.zero_le _, Nat.le_refl _, rfl, rfl, Pl.sc_start (Nat.zero_le _), rfl, Owns.nil _ _, Below.refl _ _⟩
  case round =>
    obtain ⟨f, i, D, hfi, hi, hD, rfl, rfl, HS, HE, HO, HB⟩ := hrel
    by_cases hlt : i < s.size
    · by_cases h47 : (((s[i]'hlt).toNat : Int) == 47) = true
      · have hx : s.data.toList[i]? = some 47 := by
          rw [bytes_at s i hlt]
          have h1 : (((s[i]'hlt).toNat : Int)) = 47 := by simpa using h47
          have h2 : (s[i]'hlt).toNat = 47 := by omega
          exact congrArg some (UInt8.toNat_inj.1 h2)
        have HE' : Hid ((D ++ [(s.data.toList.drop f).take (i - f)]) ++ Pa.els (s.data.toList.drop (i + 1)) = Pa.els s.data.toList) := by
          show _ = _
          rw [← HE.out, Pl.els_cut _ f i HS.out hx, List.append_assoc]
          rfl
        have HX : Hid (bs ((s.data.toList.drop f).take (i - f)) = s.extract f i) := by
          show _ = _
          rw [← bs_of (s.extract f i), Lib.extract_data]
        have HS' : Hid (Pl.Sc s.data.toList (i + 1) (i + 1)) := Pl.sc_start (by rw [← Lib.size_eq]; omega)
        clear hx
        have HO1 : Hid (Seen (wr.alloc (.cells #[.string (s.extract f i)] 9)) w.heap.size u3 (D.map bs)) := .inr (HO.out.below ((Below.refl _ _).alloc (Nat.le_refl _) _))
        clear HO
        go_wp2_with (at_builtin; refine append_seen _ rfl _ _ rfl w.heap.size _ (D.map bs) rfl HO1.out ⟨wr.heap.size, 0, none⟩ 1 [s.extract f i] (by simp) rfl ?c1 ?c2 ?c3 ?_)
        case c1 =>
          intro j z hj
          match j, hj with
          | 0, hj =>
            have : z = .string (s.extract f i) := by simpa [strs] using hj.symm
            rw [this]
            first | rfl | (rw [add_at, World.cell?_alloc_new]; rfl)
        case c2 => rw [List.length_map]; simp; omega
        case c3 => have := HB.out.size; simp; omega
        · intro v' w2 hown hb2
          have HB2 := Lib.hid ((HB.out.alloc HB.out.size (.cells #[.string (s.extract f i)] 9)).trans hb2)
          have HO2 : Hid (Owns w2 w.heap.size v' ((D ++ [(s.data.toList.drop f).take (i - f)]).map bs)) := by
            show Owns _ _ _ _
            rw [List.map_append, List.map_cons, List.map_nil, HX.out]
            exact hown
          clear hown hb2 HO1
          go_wp2_with fail
          go_roundw
          case rel => exact ⟨i + 1, i + 1, D ++ [(s.data.toList.drop f).take (i - f)], Nat.le_refl _, by omega, by simp; omega, by go_num, by go_num, HS', HE', HO2, HB2⟩
          case measure => simp [RowKit.intOf]; omega
      · have h47' : (((s[i]'hlt).toNat : Int) == 47) = false := by simpa using h47
        have HS' : Hid (Pl.Sc s.data.toList f (i + 1)) := Pl.sc_next HS.out (by rw [← Lib.size_eq]; exact hlt) (by
          rw [bytes_at s i hlt]
          intro e
          rw [Option.some.inj e] at h47
          exact h47 (by decide))
        clear h47
        go_wp2_with fail
        go_roundw
        case rel => exact ⟨f, i + 1, D, by omega, by omega, by omega, rfl, by go_num, HS', HE, HO, HB⟩
        case measure => simp [RowKit.intOf]; omega
    · have HE' : Hid ((D ++ [s.data.toList.drop f]) = Pa.els s.data.toList) := by
        show _ = _
        rw [← HE.out, Pl.els_last _ f i HS.out (by rw [← Lib.size_eq]; omega)]
      have HX : Hid (bs (s.data.toList.drop f) = s.extract f s.size) := by
        show _ = _
        rw [Pa.extract_from]
        rfl
      have HO1 : Hid (Seen (wr.alloc (.cells #[.string (s.extract f s.size)] 9)) w.heap.size u3 (D.map bs)) := .inr (HO.out.below ((Below.refl _ _).alloc (Nat.le_refl _) _))
      clear HO
      go_wp2_with (at_builtin; refine append_seen _ rfl _ _ rfl w.heap.size _ (D.map bs) rfl HO1.out ⟨wr.heap.size, 0, none⟩ 1 [s.extract f s.size] (by simp) rfl ?d1 ?d2 ?d3 ?_)
      case d1 =>
        intro j z hj
        match j, hj with
        | 0, hj =>
          have : z = .string (s.extract f s.size) := by simpa [strs] using hj.symm
          rw [this]
          first | rfl | (rw [add_at, World.cell?_alloc_new]; rfl)
      case d2 => rw [List.length_map]; simp; omega
      case d3 => have := HB.out.size; simp; omega
      · intro v' w2 hown hb2
        have HB2 := Lib.hid ((HB.out.alloc HB.out.size (.cells #[.string (s.extract f s.size)] 9)).trans hb2)
        have HO2 : Hid (Rd (w.heap.size ≤ ·) w2 v' ((Pa.els s.data.toList).map bs)) := by
          show Rd _ _ _ _
          rw [← HE'.out, List.map_append, List.map_cons, List.map_nil, HX.out]
          exact hown.rd
        clear hown hb2 HO1
        go_wp2_with fail
        go_ret
        exact ⟨⟨_, rfl, HO2.out⟩, HB2.out⟩
end Go.Proofs.Ytgkbkocakinmfaa
