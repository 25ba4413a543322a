/-
  laws.FnRelByDirs returns true at every two paths. Conditions: both together are no longer than 2^20 bytes; the library's variable MaxLen holds an int.
-/
import Derived.Test.YtgkbkocakinmfaaDoorFnRelBelow
import Derived.Test.YtgkbkocakinmfaaDoorPlainDirs
namespace Go.Proofs.YtgkbkocakinmfaaDoor
open Go.RowKit Go.Lib

def DirC (s d : ByteArray) : Prop := ∀ W : World, Calls Tryd.prog 22 #[.string s] W fun e w' => e = .returned (.string d) ∧ Below W.heap.size W w'

theorem dir_c (s : ByteArray) (hs : s.size ≤ 281474976710656) : DirC s (bs (Pa.clean (Pa.split s.data.toList).1)) := by
  intro w
  have HC := Lib.hid (Tryd.filepath_Dir s w hs)
  unfold Pa.dir at HC
  clear hs
  unfold bs
  generalize (⟨(Pa.clean (Pa.split s.data.toList).1).toArray⟩ : ByteArray) = a at *
  go_enter Tryd.func22, Tryd.ntmps22
  go_wp2_with fail
  refine HC.out.mono ?_
  rintro e w1 ⟨rfl, hb⟩
  have HB := Lib.hid hb
  clear hb
  go_wp2_with fail
  go_ret
  exact ⟨rfl, HB.out⟩

theorem upK_size (A : Pl.Place) (k : Nat) : (bs (Pl.text (Pl.upK A k))).size ≤ (bs (Pl.text A)).size + 2 := by
  rw [bs_size, bs_size]
  have h1 := (Pl.text_len (Pl.upK A k)).1
  have h2 := (Pl.text_len A).2
  have h3 : Pl.sumL (Pl.parts (Pl.upK A k)) ≤ Pl.sumL (Pl.parts A) := by
    unfold Pl.parts
    rw [Pl.sumL_append, Pl.sumL_append]
    show Pl.sumL (List.replicate A.up [46, 46]) + Pl.sumL (A.names.take (A.names.length - k)) ≤ _
    have := Pl.sumL_append (A.names.take (A.names.length - k)) (A.names.drop (A.names.length - k))
    rw [List.take_append_drop] at this
    omega
  omega

theorem byDirs_loop (x y r t : ByteArray) (n : Nat) (q : Nat → ByteArray) (w : World) (hm : Ml w) (hx : x.size ≤ 1048576) (hy : y.size ≤ 1048576) (hn : n ≤ 1099511627776)
    (C1 : CleanC (⟨#[47]⟩ ++ x) (q 0)) (C2 : CleanC (⟨#[47]⟩ ++ y) t) (K : RelC (q 0) t r true) (UR : Ups r n)
    (hq : ∀ k, (q k).size ≤ 8796093022208)
    (hgo : ∀ k, k < n → ((q k).toList == [47]) = false ∧ ((q k).toList == t.toList) = false ∧ PreC t (q k ++ ⟨#[47]⟩) false ∧ DirC (q k) (q (k + 1)))
    (hstop : ((q n).toList == [47]) = true ∨ (((q n).toList == [47]) = false ∧ ((q n).toList == t.toList) = true) ∨ (((q n).toList == [47]) = false ∧ ((q n).toList == t.toList) = false ∧ PreC t (q n ++ ⟨#[47]⟩) true)) :
    Calls Tryd.prog 6 #[.string x, .string y] w fun e w' => e = .returned (.bool true) ∧ Below w.heap.size w w' := by
  have HM := Lib.hid hm
  have HGO := Lib.hid hgo
  have HST := Lib.hid hstop
  have HQ := Lib.hid hq
  have hnn : ((n : Int) == (n : Int)) = true := by simp
  clear hm hgo hstop hq
  have HB0 := Lib.hid (Below.refl w.heap.size w)
  go_enter Tryd.func6, Tryd.ntmps6
  go_wp2_with fail
  refine (C1 _).mono ?_
  rintro e w1 ⟨rfl, hb1⟩
  have HB1 := Lib.hid (HB0.out.trans (hb1.mono HB0.out.size))
  clear hb1 HB0
  go_wp2_with fail
  refine (C2 _).mono ?_
  rintro e w2 ⟨rfl, hb2⟩
  have HB2 := Lib.hid (HB1.out.trans (hb2.mono HB1.out.size))
  clear hb2 HB1
  go_wp2_with fail
  refine (K _).mono ?_
  rintro e w3 ⟨rfl, hb3⟩
  have HB3 := Lib.hid (HB2.out.trans (hb3.mono HB2.out.size))
  clear hb3 HB2
  go_wp2_with fail
  go_loopw [5, 9] (fun v5 v9 wr => ∃ k : Nat, k ≤ n ∧ v5 = .string (q k) ∧ v9 = .int .i64 k ∧ Hid (Below w.heap.size w wr)) (fun _ v9 _ => n - (RowKit.intOf v9).toNat)
  case atStart => exact ⟨0, Nat.zero_le _, rfl, rfl, HB3⟩
  case round =>
    clear HB3
    obtain ⟨k, hk, rfl, rfl, HB3⟩ := hrel
    have hqs := HQ.out k
    by_cases hlt : k < n
    · obtain ⟨h1, h2, P, D⟩ := HGO.out k hlt
      generalize hq1 : q (k + 1) = qq at D
      have HQ1 := Lib.hid hq1
      clear hq1
      generalize q k = qk at *
      go_wp2_with fail
      refine (P _).mono ?_
      rintro e w4 ⟨rfl, hb4⟩
      have HB4 := Lib.hid (HB3.out.trans (hb4.mono HB3.out.size))
      clear hb4 HB3
      go_wp2_with fail
      refine (D _).mono ?_
      rintro e w5 ⟨rfl, hb5⟩
      have HB5 := Lib.hid (HB4.out.trans (hb5.mono HB4.out.size))
      clear hb5 HB4
      go_wp2_with fail
      go_round
      case rel => exact ⟨k + 1, by omega, by rw [HQ1.out], by go_num, HB5⟩
      case measure => simp [RowKit.intOf]; omega
    · obtain rfl : k = n := by omega
      rcases HST.out with h1 | ⟨h1, h2⟩ | ⟨h1, h2, P⟩
      · generalize q k = qk at *
        go_wp2_with fail
        refine (UR _ (HM.out.below HB3.out)).mono ?_
        rintro e w4 ⟨rfl, hb4⟩
        have HB4 := Lib.hid (HB3.out.trans (hb4.mono HB3.out.size))
        clear hb4 HB3
        go_wp2_with fail
        go_ret
        exact ⟨rfl, HB4.out⟩
      · generalize q k = qk at *
        go_wp2_with fail
        refine (UR _ (HM.out.below HB3.out)).mono ?_
        rintro e w4 ⟨rfl, hb4⟩
        have HB4 := Lib.hid (HB3.out.trans (hb4.mono HB3.out.size))
        clear hb4 HB3
        go_wp2_with fail
        go_ret
        exact ⟨rfl, HB4.out⟩
      · generalize q k = qk at *
        go_wp2_with fail
        refine (P _).mono ?_
        rintro e w4 ⟨rfl, hb4⟩
        have HB4 := Lib.hid (HB3.out.trans (hb4.mono HB3.out.size))
        clear hb4 HB3
        go_wp2_with fail
        refine (UR _ (HM.out.below HB4.out)).mono ?_
        rintro e w5 ⟨rfl, hb5⟩
        have HB5 := Lib.hid (HB4.out.trans (hb5.mono HB4.out.size))
        clear hb5 HB4
        go_wp2_with fail
        go_ret
        exact ⟨rfl, HB5.out⟩

theorem fnRelByDirs_walk (x y : ByteArray) (w : World) (hm : Ml w) (h : x.size + y.size ≤ 1048576) :
    Calls Tryd.prog 6 #[.string x, .string y] w fun e w' => e = .returned (.bool true) ∧ Below w.heap.size w w' := by
  have lx : (⟨#[47]⟩ ++ x : ByteArray).data.toList = 47 :: x.data.toList := by rw [app_list]; rfl
  have ly : (⟨#[47]⟩ ++ y : ByteArray).data.toList = 47 :: y.data.toList := by rw [app_list]; rfl
  have sx : (⟨#[47]⟩ ++ x : ByteArray).size = x.size + 1 := by rw [app_size]; show 1 + x.size = _; omega
  have sy : (⟨#[47]⟩ ++ y : ByteArray).size = y.size + 1 := by rw [app_size]; show 1 + y.size = _; omega
  have C1 := clean_c (⟨#[47]⟩ ++ x) (by omega)
  have C2 := clean_c (⟨#[47]⟩ ++ y) (by omega)
  have z1 := text_size (⟨#[47]⟩ ++ x)
  have z2 := text_size (⟨#[47]⟩ ++ y)
  have hA := Pl.good_to (⟨#[47]⟩ ++ x : ByteArray).data.toList
  have hB := Pl.good_to (⟨#[47]⟩ ++ y : ByteArray).data.toList
  have rA : (Pl.to (⟨#[47]⟩ ++ x : ByteArray).data.toList).rooted = true := by rw [Pl.to_rooted, lx]; rfl
  have rB : (Pl.to (⟨#[47]⟩ ++ y : ByteArray).data.toList).rooted = true := by rw [Pl.to_rooted, ly]; rfl
  generalize Pl.to (⟨#[47]⟩ ++ x : ByteArray).data.toList = A at *
  generalize Pl.to (⟨#[47]⟩ ++ y : ByteArray).data.toList = B at *
  have hway := Pl.way_eq (a := A) (b := B) (by rw [rA, rB]) (by rw [hA.up0 rA, hB.up0 rB])
  obtain ⟨r, hw⟩ : ∃ r, Pl.way A B = some r := ⟨_, hway⟩
  clear hway
  have hw' : Pl.way (Pl.to (bs (Pl.text A)).data.toList) (Pl.to (bs (Pl.text B)).data.toList) = some r := by rw [bs_data, bs_data, Pl.to_text hA, Pl.to_text hB]; exact hw
  have K := rel_some (by omega) (by omega) hw'
  have z3 := way_size hw'
  have UR := ups_c (Pl.good_way hB hw) (by omega)
  have hul := Pl.way_up_le hw'
  rw [bs_data, bs_data, ← bs_size, ← bs_size] at hul
  have h0 : bs (Pl.text A) = bs (Pl.text (Pl.upK A 0)) := by rw [Pl.upK_zero]
  rw [h0] at C1 K
  refine byDirs_loop x y _ _ r.up (fun k => bs (Pl.text (Pl.upK A k))) w hm (by omega) (by omega) (by omega) C1 C2 K UR ?_ ?_ ?_
  · intro k
    have := upK_size A k
    show (bs (Pl.text (Pl.upK A k))).size ≤ _
    omega
  · intro k hk
    obtain ⟨e1, e2, e3, e4⟩ := Pl.dirs_go hA hB rA hw k hk
    have hz := upK_size A k
    have P := pre_c (bs (Pl.text B)) (bs (Pl.text (Pl.upK A k)) ++ ⟨#[47]⟩)
    have eP : Lib.hasPrefix (bs (Pl.text B)).data.toList (bs (Pl.text (Pl.upK A k)) ++ ⟨#[47]⟩).data.toList = false := by
      rw [app_list, bs_data, bs_data]
      exact Bool.eq_false_iff.2 fun e => e3 ((hasPre_iff _ _).1 e)
    rw [eP] at P
    have D := dir_c (bs (Pl.text (Pl.upK A k))) (by omega)
    rw [bs_data, e4] at D
    exact ⟨by rw [bs_list]; simpa using e1, by rw [bs_beq]; simpa using e2, P, D⟩
  · by_cases e1 : Pl.text (Pl.upK A r.up) = [47]
    · exact .inl (by rw [bs_list]; simpa using e1)
    · have e1' : ((bs (Pl.text (Pl.upK A r.up))).toList == [47]) = false := by rw [bs_list]; simpa using e1
      by_cases e2 : Pl.text (Pl.upK A r.up) = Pl.text B
      · exact .inr (.inl ⟨e1', by rw [bs_beq]; simpa using e2⟩)
      · have e2' : ((bs (Pl.text (Pl.upK A r.up))).toList == (bs (Pl.text B)).toList) = false := by rw [bs_beq]; simpa using e2
        refine .inr (.inr ⟨e1', e2', ?_⟩)
        have P := pre_c (bs (Pl.text B)) (bs (Pl.text (Pl.upK A r.up)) ++ ⟨#[47]⟩)
        have eP : Lib.hasPrefix (bs (Pl.text B)).data.toList (bs (Pl.text (Pl.upK A r.up)) ++ ⟨#[47]⟩).data.toList = true := by
          rw [app_list, bs_data, bs_data]
          rcases Pl.dirs_stop hA hB rA hw with e | e | e
          · exact absurd e e1
          · exact absurd e e2
          · exact (hasPre_iff _ _).2 e
        rw [eP] at P
        exact P
end Go.Proofs.YtgkbkocakinmfaaDoor
