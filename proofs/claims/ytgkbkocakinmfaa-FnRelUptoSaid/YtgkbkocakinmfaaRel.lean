/-
  path/filepath.Rel and impl.Rel, for every two paths: what they return. Conditions: each path is no longer than 2^47 bytes, and the way goes up no more than 2^45 times.
-/
import Derived.Test.YtgkbkocakinmfaaWalkRel2
import Derived.Test.YtgkbkocakinmfaaPlainLen
import Derived.WideLaws
namespace Go.Proofs.Ytgkbkocakinmfaa
open Go.RowKit Go.Lib

theorem rel_any (s t : ByteArray) (w : World) (hs : s.size ≤ 140737488355328) (ht : t.size ≤ 140737488355328)
    (hroom : Pl.text (Pl.to s.data.toList) ≠ [46] → ∀ r, Pl.way (Pl.to s.data.toList) (Pl.to t.data.toList) = some r → r.up ≤ 35184372088832) :
    Calls Try.prog 33 #[.string s, .string t] w (RelPost (Pl.to s.data.toList) (Pl.to t.data.toList) w) := by
  have gS := Pl.good_to s.data.toList
  have gT := Pl.good_to t.data.toList
  have lS := Pl.clean_len s.data.toList
  have lT := Pl.clean_len t.data.toList
  rw [← Lib.size_eq] at lS lT
  have cs := Try.filepath_Clean s w (by omega)
  have ct := fun W => Try.filepath_Clean t W (by omega)
  by_cases hsame : Pa.clean s.data.toList = Pa.clean t.data.toList
  · refine (rel_same s t w (by omega) (by omega) hsame).mono ?_
    rintro e w' ⟨rfl, hb⟩
    refine ⟨hb, .inl ⟨⟨false, 0, []⟩, ?_, rfl⟩⟩
    rw [Pl.clean_inj hsame, Pl.way_eq rfl rfl, Pl.cp_self]
    simp
  · have hne : Pl.to s.data.toList ≠ Pl.to t.data.toList := fun e => hsame (Pl.clean_eq_iff.2 e)
    rw [Pl.clean_eq] at cs ct lS lT
    generalize Pl.to s.data.toList = S at *
    generalize Pl.to t.data.toList = T at *
    have zb : (⟨(Pl.text S).toArray⟩ : ByteArray).data.toList = Pl.text S := rfl
    have zd : (⟨(Pl.text T).toArray⟩ : ByteArray).data.toList = Pl.text T := rfl
    have kb : (⟨(Pl.text S).toArray⟩ : ByteArray).size = (Pl.text S).length := Pa.size_mk _
    have kd : (⟨(Pl.text T).toArray⟩ : ByteArray).size = (Pl.text T).length := Pa.size_mk _
    generalize (⟨(Pl.text S).toArray⟩ : ByteArray) = b at cs zb kb
    generalize (⟨(Pl.text T).toArray⟩ : ByteArray) = d at ct zd kd
    have hb0 : 0 < b.size := by rw [kb]; exact List.length_pos_iff.2 (Pl.text_ne_nil gS)
    have hd0 : 0 < d.size := by rw [kd]; exact List.length_pos_iff.2 (Pl.text_ne_nil gT)
    by_cases hr : S.rooted = T.rooted
    · by_cases hdot : Pl.text S = [46]
      · have e0 := (Pl.text_dot gS).1 hdot
        have hrt : T.rooted = false := by rw [← hr, e0]
        have hnt : Pl.text T ≠ [46] := fun e => hne (e0.trans ((Pl.text_dot gT).1 e).symm)
        refine (rel_dot T gT hrt hnt s t b d w cs ct (zb.trans hdot) zd (by omega)).mono ?_
        rintro e w' ⟨rfl, hb⟩
        refine ⟨hb, .inl ⟨T, ?_, ?_⟩⟩
        · rw [e0]
          by_cases hu : T.up = 0
          · rw [Pl.way_eq hrt.symm hu.symm]
            simp only [Pl.cp_nil_left, List.length_nil, List.drop_zero, Option.some.injEq]
            exact Pl.Place.eq_of hrt.symm hu.symm rfl
          · rw [Pl.way_lt hrt.symm (Nat.pos_of_ne_zero hu)]
            simp only [List.length_nil, Nat.zero_add, Nat.sub_zero, Option.some.injEq]
            exact Pl.Place.eq_of hrt.symm rfl rfl
        · rw [← zd, Lib.mk_data]
      · exact rel_loop S T gS gT hr hne s t b d w cs ct zb zd hdot (by omega) (by omega) (by omega) (by omega) (fun r h _ => by have := hroom hdot r h; omega)
    · have h1 : (((b[0]'hb0).toNat : Int) == 47) = S.rooted := by rw [← Pa.isAbs_pos b hb0, zb]; exact Pl.isR_text gS
      have h2 : (((d[0]'hd0).toNat : Int) == 47) = !S.rooted := by
        rw [← Pa.isAbs_pos d hd0, zd]
        refine (Pl.isR_text gT).trans ?_
        cases hA : S.rooted <;> cases hB : T.rooted <;> simp_all
      refine (rel_err s t b d w S.rooted cs ct hb0 hd0 h1 h2 (by omega) (by omega)).mono ?_
      rintro e w' ⟨⟨a, rfl⟩, hb⟩
      exact ⟨hb, .inr ⟨Pl.way_none.2 (.inl hr), a, rfl⟩⟩

theorem implRel_any (s t : ByteArray) (w : World) (hs : s.size ≤ 140737488355328) (ht : t.size ≤ 140737488355328)
    (hroom : Pl.text (Pl.to s.data.toList) ≠ [46] → ∀ r, Pl.way (Pl.to s.data.toList) (Pl.to t.data.toList) = some r → r.up ≤ 35184372088832) :
    Calls Try.prog 17 #[.string s, .string t] w fun e w' =>
      e = .returned (.tuple #[.string ⟨(Pl.relS s.data.toList t.data.toList).toArray⟩, .bool (Pl.relOk s.data.toList t.data.toList)]) ∧ Below w.heap.size w w' := by
  have hc := rel_any s t w hs ht hroom
  unfold Pl.relS Pl.relOk
  generalize Pl.to s.data.toList = S at hc ⊢
  generalize Pl.to t.data.toList = T at hc ⊢
  have HC := Lib.hid hc
  clear hc hs ht hroom
  cases hw : Pl.way S T with
  | some r =>
    have HW := Lib.hid hw
    clear hw
    simp only [Option.isSome_some]
    go_enter Try.func17, Try.ntmps17
    go_wp2_with fail
    refine HC.out.mono ?_
    rintro e w1 ⟨hb, ⟨r', hr', rfl⟩ | ⟨hn', _⟩⟩
    · obtain rfl : r = r' := Option.some.inj (HW.out.symm.trans hr')
      have HB := Lib.hid hb
      clear hb hr'
      go_wp2_with fail
      go_quiet (fail)
      go_wp2_with fail
      go_ret2
      exact ⟨rfl, below_drewN HB.out _⟩
    · rw [HW.out] at hn'; cases hn'
  | none =>
    have HW := Lib.hid hw
    clear hw
    simp only [Option.isSome_none]
    go_enter Try.func17, Try.ntmps17
    go_wp2_with fail
    refine HC.out.mono ?_
    rintro e w1 ⟨hb, ⟨r', hr', rfl⟩ | ⟨_, a, rfl⟩⟩
    · rw [HW.out] at hr'; cases hr'
    · have HB := Lib.hid hb
      clear hb
      go_wp2_with fail
      go_quiet (fail)
      go_wp2_with fail
      go_ret2
      exact ⟨rfl, below_drewN HB.out _⟩

end Go.Proofs.Ytgkbkocakinmfaa
