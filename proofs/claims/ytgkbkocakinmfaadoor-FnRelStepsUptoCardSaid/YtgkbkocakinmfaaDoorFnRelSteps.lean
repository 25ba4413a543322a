/-
  laws.FnRelSteps returns true at every two paths. Conditions: both together are no longer than 2^20 bytes; the library's variable MaxLen holds an int.
-/
import Derived.Test.YtgkbkocakinmfaaDoorCd
import Derived.Test.YtgkbkocakinmfaaDoorOwn
import Derived.Test.YtgkbkocakinmfaaDoorPlainWay
namespace Go.Proofs.YtgkbkocakinmfaaDoor
open Go.RowKit Go.Lib

/-- steps returns a new slice of the strings e 0 .. e (n - 1) -/
def SplitC (s : ByteArray) (n : Nat) (e : Nat → ByteArray) : Prop := ∀ W : World, Ml W → Calls Tryd.prog 19 #[.string s] W fun x w' =>
  ∃ g : Nat, x = .returned (.slice (some ⟨g, 0, none⟩) n n) ∧ g < w'.heap.size ∧ (∀ j, j < n → w'.cell? ⟨g, j, none⟩ = some (.string (e j))) ∧ Below W.heap.size W w'

theorem split_c (s : ByteArray) (hs : s.size ≤ 2147483648) (h : s.data.toList ≠ [46]) : SplitC s (Pa.els s.data.toList).length (fun j => bs ((Pa.els s.data.toList).getD j [])) := by
  intro W hm
  refine (steps_split s W hm hs h).mono ?_
  rintro x w' ⟨rfl, rfl⟩
  refine ⟨W.heap.size, rfl, by simp, fun j hj => ?_, (Below.refl _ _).alloc (Nat.le_refl _) _⟩
  rw [strV_cell _ W 9 j hj]
  have e1 : (Pa.els s.data.toList).getD j [] = (Pa.els s.data.toList)[j] := by
    rw [List.getD_eq_getElem?_getD, List.getElem?_eq_getElem hj]
    rfl
  show _ = some (Value.string (bs ((Pa.els s.data.toList).getD j [])))
  rw [e1]
  rfl

def qs (q : Nat → ByteArray) (k : Nat) : List ByteArray := (List.range (k + 1)).map q
theorem qs_len (q : Nat → ByteArray) (k : Nat) : (qs q k).length = k + 1 := by unfold qs; simp
theorem qs_ne (q : Nat → ByteArray) (k : Nat) : qs q k ≠ [] := fun e => by have := qs_len q k; rw [e] at this; cases this
theorem qs_at (q : Nat → ByteArray) (k j : Nat) (hj : j < (qs q k).length) : (qs q k)[j] = q j := by
  revert hj
  unfold qs
  intro hj
  simp
theorem qs_succ (q : Nat → ByteArray) (k : Nat) : qs q (k + 1) = qs q k ++ [q (k + 1)] := by unfold qs; rw [List.range_succ, List.map_append]; rfl
theorem qs_zero (q : Nat → ByteArray) : qs q 0 = [q 0] := rfl

theorem steps_none (a b r : ByteArray) (w : World) (K : RelC a b r false) :
    Calls Tryd.prog 9 #[.string a, .string b] w fun e w' => e = .returned (.bool true) ∧ Below w.heap.size w w' := by
  have C9 := wakes_c
  have HB0 := Lib.hid (Below.refl w.heap.size w)
  go_enter Tryd.func9, Tryd.ntmps9
  go_wp2_with fail
  refine (K _).mono ?_
  rintro e w1 ⟨rfl, hb1⟩
  have HB1 := Lib.hid (HB0.out.trans (hb1.mono HB0.out.size))
  clear hb1 HB0
  go_wp2_with fail
  refine (C9 _).mono ?_
  rintro e w2 ⟨rfl, hb2⟩
  have HB2 := Lib.hid (HB1.out.trans (hb2.mono HB1.out.size))
  clear hb2 HB1
  go_wp2_with fail
  go_ret
  exact ⟨rfl, HB2.out⟩

theorem steps_one (a b r c : ByteArray) (w : World) (K : RelC a b r true) (hr : r.data.toList = [46]) (C1 : CleanC a c) (C2 : CleanC b c) :
    Calls Tryd.prog 9 #[.string a, .string b] w fun e w' => e = .returned (.bool true) ∧ Below w.heap.size w w' := by
  have C9 := wakes_c
  have S : ∀ W : World, Calls Tryd.prog 19 #[.string r] W fun e w' => e = .returned (.slice none 0 0) ∧ Below W.heap.size W w' := fun W =>
    (steps_dot r W hr).mono fun _ _ ⟨h1, h2⟩ => ⟨h1, h2 ▸ Below.refl _ _⟩
  have hcc := beq_true c
  clear hr
  have HB0 := Lib.hid (Below.refl w.heap.size w)
  go_enter Tryd.func9, Tryd.ntmps9
  go_wp2_with fail
  refine (K _).mono ?_
  rintro e w1 ⟨rfl, hb1⟩
  have HB1 := Lib.hid (HB0.out.trans (hb1.mono HB0.out.size))
  clear hb1 HB0
  go_wp2_with fail
  refine (C1 _).mono ?_
  rintro e w2 ⟨rfl, hb2⟩
  have HB2 := Lib.hid (HB1.out.trans (hb2.mono HB1.out.size))
  clear hb2 HB1
  go_wp2_with fail
  have HB2' := Lib.hid ((HB2.out).alloc HB2.out.size (.cells #[.string c] 9))
  refine (S _).mono ?_
  rintro e w3 ⟨rfl, hb3⟩
  have HB3 := Lib.hid (HB2'.out.trans (hb3.mono HB2'.out.size))
  clear hb3 HB2 HB2'
  go_wp2_with fail
  go_loop [30, 7] (fun i v => i = .int .i64 0 ∧ v = .string c) (fun _ _ => 0)
  case atStart => exact ⟨rfl, rfl⟩
  case round =>
    obtain ⟨rfl, rfl⟩ := hrel
    go_wp2_with fail
    refine (C2 _).mono ?_
    rintro e w4 ⟨rfl, hb4⟩
    have HB4 := Lib.hid (HB3.out.trans (hb4.mono HB3.out.size))
    clear hb4 HB3
    go_wp2_with fail
    refine (C9 _).mono ?_
    rintro e w5 ⟨rfl, hb5⟩
    have HB5 := Lib.hid (HB4.out.trans (hb5.mono HB4.out.size))
    clear hb5 HB4
    go_wp2_with fail
    go_ret
    exact ⟨rfl, HB5.out⟩

set_option maxHeartbeats 2000000 in
theorem steps_many (a b r : ByteArray) (n u : Nat) (q e : Nat → ByteArray) (w : World) (hm : Ml w) (hn : n ≤ 1099511627776) (K : RelC a b r true) (C1 : CleanC a (q 0)) (C2 : CleanC b (q n)) (S : SplitC r n e)
    (hup : ∀ k, k < n → ((e k).toList == [46, 46]) = decide (k < u)) (J : ∀ k, k < n → Join2C (q k) (e k) (q (k + 1))) (hd : ∀ i j, i < j → j ≤ n → ((q i).toList == (q j).toList) = false) :
    Calls Tryd.prog 9 #[.string a, .string b] w fun e w' => e = .returned (.bool true) ∧ Below w.heap.size w w' := by
  have C9 := wakes_c
  have HM := Lib.hid hm
  have HUP := Lib.hid hup
  have HJ := Lib.hid J
  have HD := Lib.hid hd
  have hcc := beq_true (q n)
  clear hm hup J hd
  have HB0 := Lib.hid (Below.refl w.heap.size w)
  go_enter Tryd.func9, Tryd.ntmps9
  go_wp2_with fail
  refine (K _).mono ?_
  rintro e w1 ⟨rfl, hb1⟩
  have HB1 := Lib.hid (HB0.out.trans (hb1.mono HB0.out.size))
  clear hb1 HB0
  go_wp2_with fail
  refine (C1 _).mono ?_
  rintro e w2 ⟨rfl, hb2⟩
  have HB2 := Lib.hid (HB1.out.trans (hb2.mono HB1.out.size))
  clear hb2 HB1
  go_wp2_with fail
  have HB2' := Lib.hid ((HB2.out).alloc HB2.out.size (.cells #[.string (q 0)] 9))
  have HF2 := Lib.hid (World.cell?_alloc_new w2 #[.string (q 0)] 9 0)
  refine (S _ (HM.out.below HB2'.out)).mono ?_
  rintro x w3 ⟨g, rfl, hg, hc, hb3⟩
  have HB3 := Lib.hid (HB2'.out.trans (hb3.mono HB2'.out.size))
  have HG := Lib.hid hg
  have HC := Lib.hid hc
  have HF3 : Hid (Seen w3 w3.heap.size (.slice (some ⟨w2.heap.size, 0, none⟩) 1 1) (qs q 0)) := by
    refine .inl ⟨w2.heap.size, ?_, rfl, ?_⟩
    · have := hb3.size
      simp at this
      omega
    · intro j z hj
      rw [add_at]
      match j, hj with
      | 0, hj =>
        have : z = .string (q 0) := by simpa [qs, strs] using hj.symm
        rw [this]
        refine (hb3.cell (by simp)).trans ?_
        rw [HF2.out]
        rfl
  clear hb3 HB2 HB2' hg hc HF2
  go_wp2_with fail
  go_loopw [30, 7, 8, 9] (fun v30 v7 v8 v9 wr => ∃ k : Nat, k ≤ n ∧ v30 = .int .i64 k ∧ v7 = .string (q k) ∧ v9 = .bool (decide (u < k)) ∧ Hid (Seen wr w3.heap.size v8 (qs q k)) ∧ Hid (Below w3.heap.size w3 wr)) (fun v30 _ _ _ _ => n - (RowKit.intOf v30).toNat)
  case atStart => exact ⟨0, Nat.zero_le _, rfl, rfl, by simp, HF3, Below.refl _ _⟩
  case round =>
    clear HF3
    obtain ⟨k, hk, rfl, rfl, rfl, HS, HBr⟩ := hrel
    by_cases hlt : k < n
    · have hx : wr.cell? ⟨g, k, none⟩ = some (.string (e k)) := (HBr.out.cell (by exact HG.out)).trans (HC.out k hlt)
      have hek := HUP.out k hlt
      have Jk := HJ.out k hlt
      obtain ⟨g2, cap, hv, hcell⟩ := HS.out.cells (qs_ne q k)
      rw [qs_len] at hv
      subst hv
      have HDk : Hid (∀ j, j < k + 1 → ((q j).toList == (q (k + 1)).toList) = false) := fun j hj => HD.out j (k + 1) hj (by omega)
      have HCELL : Hid (∀ j, j < k + 1 → wr.cell? ⟨g2, j, none⟩ = some (.string (q j))) := fun j hj => by
        have hj' : j < (qs q k).length := by rw [qs_len]; exact hj
        rw [hcell j hj', qs_at]
      clear hcell
      generalize e k = ek at hx hek Jk
      generalize hq1 : q (k + 1) = q1 at Jk HDk
      have HQ1 := Lib.hid hq1
      generalize q k = qk at Jk
      clear hq1
      have hks : k + 1 ≤ 1099511627776 := by omega
      by_cases hku : k < u
      · have hdn : decide (u < k) = false := decide_eq_false (by omega)
        have HDN := Lib.hid (show decide (u < k + 1) = false from decide_eq_false (by omega))
        rw [decide_eq_true hku] at hek
        rw [hdn]
        clear hdn
        go_wp2_with fail
        refine (Jk _).mono ?_
        rintro x w4 ⟨rfl, hb4⟩
        have HB4 := Lib.hid (HBr.out.trans (hb4.mono HBr.out.size))
        have HS4 : Hid (Seen (w4.alloc (.cells #[.string q1] 9)) w3.heap.size (.slice (some ⟨g2, 0, none⟩) (k + 1) cap) (qs q k)) :=
          (HS.out.below HBr.out.size hb4).below (Nat.le_trans HBr.out.size hb4.size) ((Below.refl _ _).alloc (Nat.le_refl _) _)
        have HCELL4 : Hid (∀ j, j < k + 1 → w4.cell? ⟨g2, j, none⟩ = some (.string (q j))) := fun j hj =>
          (hb4.cell (World.block_lt_of_cell? wr _ (HCELL.out j hj))).trans (HCELL.out j hj)
        clear hb4 HCELL HS hx hek
        go_wp2_with fail
        go_loop [50] (fun i => ∃ j : Nat, j ≤ k + 1 ∧ i = .int .i64 j) (fun i => k + 1 - (RowKit.intOf i).toNat)
        case atStart => exact ⟨0, Nat.zero_le _, rfl⟩
        case round =>
          obtain ⟨j, hj, rfl⟩ := hrel
          by_cases hjl : j < k + 1
          · have hy := HCELL4.out j hjl
            have hne := HDk.out j hjl
            generalize q j = qj at hy hne
            go_wp2_with fail
            go_round
            case rel => exact ⟨j + 1, by omega, by go_num⟩
            case measure => simp [RowKit.intOf]; omega
          · go_wp2_with (at_builtin; refine append_seen _ rfl _ _ rfl w3.heap.size _ (qs q k) rfl HS4.out ⟨w4.heap.size, 0, none⟩ 1 [q1] (by simp) rfl ?c1 ?c2 ?c3 ?_)
            case c1 =>
              intro i z hi
              match i, hi with
              | 0, hi =>
                have : z = .string q1 := by simpa [strs] using hi.symm
                rw [this]
                rfl
            case c2 => rw [qs_len]; simp; omega
            case c3 => have := HB4.out.size; simp; omega
            · intro v' w5 hown hb5
              have HB5 := Lib.hid ((HB4.out.alloc HB4.out.size (.cells #[.string q1] 9)).trans hb5)
              have HS5 : Hid (Seen w5 w3.heap.size v' (qs q (k + 1))) := by
                refine .inr ?_
                rw [qs_succ, HQ1.out]
                exact hown
              clear hown hb5 HS4 HB4
              go_wp2_with fail
              go_roundw
              case rel => exact ⟨k + 1, by omega, by go_num, by rw [HQ1.out], by rw [HDN.out], HS5, HB5⟩
              case measure => simp [RowKit.intOf]; omega
      · rw [decide_eq_false hku] at hek
        have HDN := Lib.hid (show decide (u < k + 1) = true from decide_eq_true (by omega))
        by_cases hku2 : u < k
        · have hdn : decide (u < k) = true := decide_eq_true hku2
          rw [hdn]
          clear hdn
          go_wp2_with fail
          refine (Jk _).mono ?_
          rintro x w4 ⟨rfl, hb4⟩
          have HB4 := Lib.hid (HBr.out.trans (hb4.mono HBr.out.size))
          have HS4 : Hid (Seen (w4.alloc (.cells #[.string q1] 9)) w3.heap.size (.slice (some ⟨g2, 0, none⟩) (k + 1) cap) (qs q k)) :=
            (HS.out.below HBr.out.size hb4).below (Nat.le_trans HBr.out.size hb4.size) ((Below.refl _ _).alloc (Nat.le_refl _) _)
          have HCELL4 : Hid (∀ j, j < k + 1 → w4.cell? ⟨g2, j, none⟩ = some (.string (q j))) := fun j hj =>
            (hb4.cell (World.block_lt_of_cell? wr _ (HCELL.out j hj))).trans (HCELL.out j hj)
          clear hb4 HCELL HS hx hek
          go_wp2_with fail
          go_loop [50] (fun i => ∃ j : Nat, j ≤ k + 1 ∧ i = .int .i64 j) (fun i => k + 1 - (RowKit.intOf i).toNat)
          case atStart => exact ⟨0, Nat.zero_le _, rfl⟩
          case round =>
            obtain ⟨j, hj, rfl⟩ := hrel
            by_cases hjl : j < k + 1
            · have hy := HCELL4.out j hjl
              have hne := HDk.out j hjl
              generalize q j = qj at hy hne
              go_wp2_with fail
              go_round
              case rel => exact ⟨j + 1, by omega, by go_num⟩
              case measure => simp [RowKit.intOf]; omega
            · go_wp2_with (at_builtin; refine append_seen _ rfl _ _ rfl w3.heap.size _ (qs q k) rfl HS4.out ⟨w4.heap.size, 0, none⟩ 1 [q1] (by simp) rfl ?c1 ?c2 ?c3 ?_)
              case c1 =>
                intro i z hi
                match i, hi with
                | 0, hi =>
                  have : z = .string q1 := by simpa [strs] using hi.symm
                  rw [this]
                  rfl
              case c2 => rw [qs_len]; simp; omega
              case c3 => have := HB4.out.size; simp; omega
              · intro v' w5 hown hb5
                have HB5 := Lib.hid ((HB4.out.alloc HB4.out.size (.cells #[.string q1] 9)).trans hb5)
                have HS5 : Hid (Seen w5 w3.heap.size v' (qs q (k + 1))) := by
                  refine .inr ?_
                  rw [qs_succ, HQ1.out]
                  exact hown
                clear hown hb5 HS4 HB4
                go_wp2_with fail
                go_roundw
                case rel => exact ⟨k + 1, by omega, by go_num, by rw [HQ1.out], by rw [HDN.out], HS5, HB5⟩
                case measure => simp [RowKit.intOf]; omega
        · have hdn : decide (u < k) = false := decide_eq_false hku2
          rw [hdn]
          clear hdn
          go_wp2_with fail
          refine (Jk _).mono ?_
          rintro x w4 ⟨rfl, hb4⟩
          have HB4 := Lib.hid (HBr.out.trans (hb4.mono HBr.out.size))
          have HS4 : Hid (Seen (w4.alloc (.cells #[.string q1] 9)) w3.heap.size (.slice (some ⟨g2, 0, none⟩) (k + 1) cap) (qs q k)) :=
            (HS.out.below HBr.out.size hb4).below (Nat.le_trans HBr.out.size hb4.size) ((Below.refl _ _).alloc (Nat.le_refl _) _)
          have HCELL4 : Hid (∀ j, j < k + 1 → w4.cell? ⟨g2, j, none⟩ = some (.string (q j))) := fun j hj =>
            (hb4.cell (World.block_lt_of_cell? wr _ (HCELL.out j hj))).trans (HCELL.out j hj)
          clear hb4 HCELL HS hx hek
          go_wp2_with fail
          go_loop [50] (fun i => ∃ j : Nat, j ≤ k + 1 ∧ i = .int .i64 j) (fun i => k + 1 - (RowKit.intOf i).toNat)
          case atStart => exact ⟨0, Nat.zero_le _, rfl⟩
          case round =>
            obtain ⟨j, hj, rfl⟩ := hrel
            by_cases hjl : j < k + 1
            · have hy := HCELL4.out j hjl
              have hne := HDk.out j hjl
              generalize q j = qj at hy hne
              go_wp2_with fail
              go_round
              case rel => exact ⟨j + 1, by omega, by go_num⟩
              case measure => simp [RowKit.intOf]; omega
            · go_wp2_with (at_builtin; refine append_seen _ rfl _ _ rfl w3.heap.size _ (qs q k) rfl HS4.out ⟨w4.heap.size, 0, none⟩ 1 [q1] (by simp) rfl ?c1 ?c2 ?c3 ?_)
              case c1 =>
                intro i z hi
                match i, hi with
                | 0, hi =>
                  have : z = .string q1 := by simpa [strs] using hi.symm
                  rw [this]
                  rfl
              case c2 => rw [qs_len]; simp; omega
              case c3 => have := HB4.out.size; simp; omega
              · intro v' w5 hown hb5
                have HB5 := Lib.hid ((HB4.out.alloc HB4.out.size (.cells #[.string q1] 9)).trans hb5)
                have HS5 : Hid (Seen w5 w3.heap.size v' (qs q (k + 1))) := by
                  refine .inr ?_
                  rw [qs_succ, HQ1.out]
                  exact hown
                clear hown hb5 HS4 HB4
                go_wp2_with fail
                go_roundw
                case rel => exact ⟨k + 1, by omega, by go_num, by rw [HQ1.out], by rw [HDN.out], HS5, HB5⟩
                case measure => simp [RowKit.intOf]; omega
    · obtain rfl : k = n := by omega
      have HBz := Lib.hid (HB3.out.trans (HBr.out.mono HB3.out.size))
      generalize q k = qk at C2 hcc
      go_wp2_with fail
      refine (C2 _).mono ?_
      rintro x w4 ⟨rfl, hb4⟩
      have HB4 := Lib.hid (HBz.out.trans (hb4.mono HBz.out.size))
      clear hb4
      go_wp2_with fail
      refine (C9 _).mono ?_
      rintro e w5 ⟨rfl, hb5⟩
      have HB5 := Lib.hid (HB4.out.trans (hb5.mono HB4.out.size))
      clear hb5 HB4
      go_wp2_with fail
      go_ret
      exact ⟨rfl, HB5.out⟩

theorem fnRelSteps_walk (a b : ByteArray) (w : World) (hm : Ml w) (h : a.size + b.size ≤ 1048576) :
    Calls Tryd.prog 9 #[.string a, .string b] w fun e w' => e = .returned (.bool true) ∧ Below w.heap.size w w' := by
  have hA := Pl.good_to a.data.toList
  have hB := Pl.good_to b.data.toList
  cases hw : Pl.way (Pl.to a.data.toList) (Pl.to b.data.toList) with
  | none => exact steps_none a b _ w (rel_none (by omega) (by omega) hw)
  | some r =>
    have K := rel_some (by omega) (by omega) hw
    have C1 := clean_c a (by omega)
    have C2 := clean_c b (by omega)
    have z1 := text_size a
    have z3 := way_size hw
    have hg := Pl.good_way hB hw
    have hr := (Pl.way_cases hw).2.1
    have hst := Pl.stepsL_text hg hr
    have hend := Pl.along_way hB hw
    have hel : ∀ e, e ∈ Pl.parts r → 47 ∉ e := fun e m => (Pl.parts_el hg e m).2
    by_cases hdot : Pl.text r = [46]
    · have hp : Pl.parts r = [] := by rw [(Pl.text_dot hg).1 hdot]; rfl
      rw [hp, Pl.along_nil] at hend
      rw [← hend] at C2
      exact steps_one a b _ _ w K hdot C1 C2
    · have S := split_c (bs (Pl.text r)) (by omega) hdot
      have hels : Pa.els (bs (Pl.text r)).data.toList = Pl.parts r := by
        rw [bs_data, ← hst]
        unfold Pl.stepsL
        rw [if_neg hdot]
      rw [hels] at S
      have hlen : (Pl.parts r).length ≤ (Pl.text r).length + 1 := by
        rw [← hels, bs_data]
        exact Pl.els_len _
      have hget : ∀ k (hk : k < (Pl.parts r).length), (Pl.parts r).getD k [] = (Pl.parts r)[k] := fun k hk => by
        rw [List.getD_eq_getElem?_getD, List.getElem?_eq_getElem hk]
        rfl
      rw [bs_size] at z3
      refine steps_many a b _ (Pl.parts r).length r.up (fun k => bs (Pl.text (Pl.at' (Pl.to a.data.toList) (Pl.parts r) k))) _ w hm (by omega) K C1 ?_ S ?_ ?_ ?_
      · show CleanC b (bs (Pl.text (Pl.at' _ _ _)))
        rw [Pl.at_end, hend]
        exact C2
      · intro k hk
        show ((bs ((Pl.parts r).getD k [])).toList == [46, 46]) = _
        rw [hget k hk, bs_list]
        refine Bool.eq_iff_iff.2 ?_
        rw [beq_iff_eq, decide_eq_true_iff]
        exact Pl.parts_up hg k hk
      · intro k hk
        have hgk := Pl.good_at hA hel k
        have hne := Pl.text_ne_nil hgk
        have hj := join2_c (bs (Pl.text (Pl.at' (Pl.to a.data.toList) (Pl.parts r) k))) (bs ((Pl.parts r).getD k [])) (by
          have t1 := Pl.at_text_len (Pl.to a.data.toList) (Pl.parts r) k
          have t2 := Pl.getD_len (Pl.parts r) k
          have t3 := (Pl.text_len r).2
          have t4 := (Pl.text_len (Pl.to a.data.toList)).2
          rw [bs_size] at z1
          rw [bs_size, bs_size]
          omega)
        rw [bs_data, bs_data, Pl.join_cons _ _ hne, Pl.to_text hgk, hget k hk] at hj
        have e1 : [(Pl.parts r)[k]].foldl Pl.follow (Pl.at' (Pl.to a.data.toList) (Pl.parts r) k) = Pl.at' (Pl.to a.data.toList) (Pl.parts r) (k + 1) := by
          show Pl.along _ (Pa.els (Pl.parts r)[k]) = _
          rw [Pl.els_one (hel _ (List.getElem_mem _)), Pl.along_cons, Pl.along_nil, Pl.at_succ _ _ k hk]
        rw [e1] at hj
        show Join2C _ (bs ((Pl.parts r).getD k [])) _
        rw [hget k hk]
        exact hj
      · intro i j hij hj
        show ((bs (Pl.text _)).toList == (bs (Pl.text _)).toList) = false
        rw [bs_beq]
        refine beq_eq_false_iff_ne.2 fun e => ?_
        exact Pl.way_distinct hB hw hij hj (Pl.text_inj (Pl.good_at hA hel i) (Pl.good_at hA hel j) e)

end Go.Proofs.YtgkbkocakinmfaaDoor
