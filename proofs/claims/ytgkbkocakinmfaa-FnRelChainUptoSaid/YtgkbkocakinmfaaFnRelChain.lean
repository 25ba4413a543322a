/-
  laws.FnRelChain returns true at every slice of paths. Conditions: the paths, with one byte for each, are no longer than 2^20 bytes together.
-/
import Derived.Test.YtgkbkocakinmfaaFnRelChainOfRoots
import Derived.StillTailTactics
import Derived.Deep.RegionHeld3
import Derived.IntWalk
namespace Go.Proofs.Ytgkbkocakinmfaa
open Go.RowKit Go.Lib

theorem chain_none (ao : Option Addr) (cap : Nat) (w : World) :
    Calls Try.prog 7 #[.slice ao 0 cap] w fun e w' => e = .returned (.bool true) ∧ Below w.heap.size w w' := by
  have C9 := wakes_c
  have HB0 := Lib.hid (Below.refl w.heap.size w)
  go_enter Try.func7, Try.ntmps7
  go_wp2_with fail
  refine (C9 _).mono ?_
  rintro e w1 ⟨rfl, hb1⟩
  have HB1 := Lib.hid (HB0.out.trans (hb1.mono HB0.out.size))
  clear hb1 HB0
  go_wp2_with fail
  go_ret
  exact ⟨rfl, HB1.out⟩

set_option maxHeartbeats 2000000 in
theorem chain_walk (b off n m cap : Nat) (hn : n = m + 1) (p r : Nat → ByteArray) (ok : Nat → Prop) (j : ByteArray) (w : World) (hL : Lies w (some ⟨b, off, none⟩) (m + 1) p) (hb : b < w.heap.size) (hm : m + 1 ≤ 1048576)
    (R : ∀ k, k < m → (ok k ∧ RelC (p k) (p (k + 1)) (r k) true) ∨ RelC (p k) (p (k + 1)) ⟨#[]⟩ false)
    (hend : (∀ k, k < m → ok k) → ((p 0).data.toList = [] → m ≠ 0) → JoinL (ws (p 0) r m) j ∧ CleanC (p m) j) :
    Calls Try.prog 7 #[.slice (some ⟨b, off, none⟩) n cap] w fun e w' => e = .returned (.bool true) ∧ Below w.heap.size w w' := by
  have C9 := wakes_c
  have HN := Lib.hid hn
  have hn0 : ((n : Int) == 0) = false := by rw [hn]; exact beq_eq_false_iff_ne.2 (by omega)
  have hn1 : (0 : Int) < (n : Int) := by omega
  have hn2 : n ≤ 1048576 := by omega
  clear hn
  have HL : Hid (∀ (W : World), Below w.heap.size w W → ∀ k, k < m + 1 → W.cell? ⟨b, off + k, none⟩ = some (.string (p k))) := by
    intro W hW k hk
    obtain ⟨b', off', e1, e2, e3⟩ := hL k hk
    cases e1
    exact (hW.cell (by exact e2)).trans e3
  have HR := Lib.hid R
  have HE := Lib.hid hend
  have hjj := beq_true j
  have HB0 := Lib.hid ((Below.refl w.heap.size w).alloc (Nat.le_refl _) (.cells #[.string (p 0)] 9))
  have HO0 : Hid (Owns (w.alloc (.cells #[.string (p 0)] 9)) w.heap.size (.slice (some ⟨w.heap.size, 0, none⟩) 1 1) (ws (p 0) r 0)) := Owns.new w w.heap.size (Nat.le_refl _) [p 0] (by simp [maxLen])
  have hx0 : w.cell? ⟨b, off, none⟩ = some (.string (p 0)) := HL.out w (Below.refl _ _) 0 (by omega)
  clear hL R hend
  go_enter Try.func7, Try.ntmps7
  go_wp2_with fail
  go_loopw [4, 3] (fun v4 v3 wr => ∃ k : Nat, k ≤ m ∧ v4 = .int .i64 ((k : Int) + 1) ∧ Hid (∀ i, i < k → ok i) ∧ Hid (Owns wr w.heap.size v3 (ws (p 0) r k)) ∧ Hid (Below w.heap.size w wr)) (fun v4 _ _ => m + 1 - (RowKit.intOf v4).toNat)
  case atStart => exact ⟨0, Nat.zero_le _, by go_num, fun i hi => by omega, HO0, HB0⟩
  case round =>
    clear HO0 HB0 hx0
    obtain ⟨k, hk, rfl, HOK, HO, HB⟩ := hrel
    by_cases hlt : k < m
    · have hx := HL.out wr HB.out k (by omega)
      have hy := HL.out wr HB.out (k + 1) (by omega)
      rcases HR.out k hlt with ⟨hok, Rk⟩ | Rk
      · have HOK' : Hid (∀ i, i < k + 1 → ok i) := fun i hi => by
          by_cases e : i = k
          · exact e ▸ hok
          · exact HOK.out i (by omega)
        have HWS := Lib.hid (ws_succ (p 0) r k)
        clear hok
        generalize p k = pk at hx Rk
        generalize p (k + 1) = pk1 at hy Rk
        generalize r k = rk at Rk HWS
        have hn := HN.out
        have b0 : (0 : Int) ≤ (k : Int) := by omega
        have b1 : (k : Int) < (n : Int) := by omega
        have b2 : (k : Int) + 1 < (n : Int) := by omega
        clear hn
        have hbr : b < wr.heap.size := Nat.lt_of_lt_of_le hb HB.out.size
        go_wp2_with fail
        have a1 : IntKind.i64.wrap ((k : Int) + 1 - 1) = (k : Int) := by rw [Int.add_sub_cancel]; exact IntWalk.i64_in _ (by omega)
        have a4 : IntKind.i64.wrap (k : Int) = (k : Int) := IntWalk.i64_in _ (by omega)
        have a2 : ((k : Int) + 1).toNat = k + 1 := by omega
        have a3 : (0 : Int) ≤ (k : Int) + 1 := by omega
        go_region_held3 (fun w' => w'.cell? ⟨b, off + k, none⟩ = some (.string pk) ∧ w'.cell? ⟨b, off + (k + 1), none⟩ = some (.string pk1)) (first | exact ⟨hx, hy⟩ | exact ⟨hx1, hy1⟩)
          (first | (go_at_call 17; refine (Rk _).mono ?_; rintro x w1 ⟨rfl, hb1⟩; have hx1 := (hb1.cell (p := ⟨b, off + k, none⟩) hbr).trans hx; have hy1 := (hb1.cell (p := ⟨b, off + (k + 1), none⟩) hbr).trans hy))
        have HB1 := Lib.hid (HB.out.drew.trans (hb1.mono HB.out.drew.size))
        have HO1 : Hid (Seen (w1.alloc (.cells #[.string rk] 9)) w.heap.size u3 (ws (p 0) r k)) := .inr ((Owns.below (w := wr.drew) (World.ownsRow.drew HO.out) hb1).below ((Below.refl _ _).alloc (Nat.le_refl _) _))
        clear hb1 HO HB hx hy hx1 hy1 a1 a2 a3 a4 hbr
        go_wp2_with (at_builtin; refine append_seen _ rfl _ _ rfl w.heap.size _ (ws (p 0) r k) rfl HO1.out ⟨w1.heap.size, 0, none⟩ 1 [rk] (by simp) rfl ?c1 ?c2 ?c3 ?_)
        case c1 =>
          intro i z hi
          match i, hi with
          | 0, hi =>
            have : z = .string rk := by simpa [strs] using hi.symm
            rw [this]
            first | rfl | (rw [add_at, World.cell?_alloc_new]; rfl)
        case c2 => rw [ws_len]; simp; omega
        case c3 => have := HB1.out.size; simp; omega
        · intro v' w2 hown hb2
          have HB2 := Lib.hid ((HB1.out.alloc HB1.out.size (.cells #[.string rk] 9)).trans hb2)
          have HO2 : Hid (Owns w2 w.heap.size v' (ws (p 0) r (k + 1))) := by
            show Owns _ _ _ _
            rw [HWS.out]
            exact hown
          clear hown hb2 HO1 HB1
          go_wp2_with fail
          go_roundw
          case rel => exact ⟨k + 1, by omega, by go_num, HOK', HO2, HB2⟩
          case measure => simp [RowKit.intOf]; omega
      · generalize p k = pk at hx Rk
        generalize p (k + 1) = pk1 at hy Rk
        have hn := HN.out
        have b0 : (0 : Int) ≤ (k : Int) := by omega
        have b1 : (k : Int) < (n : Int) := by omega
        have b2 : (k : Int) + 1 < (n : Int) := by omega
        clear hn
        have hbr : b < wr.heap.size := Nat.lt_of_lt_of_le hb HB.out.size
        go_wp2_with fail
        have a1 : IntKind.i64.wrap ((k : Int) + 1 - 1) = (k : Int) := by rw [Int.add_sub_cancel]; exact IntWalk.i64_in _ (by omega)
        have a4 : IntKind.i64.wrap (k : Int) = (k : Int) := IntWalk.i64_in _ (by omega)
        have a2 : ((k : Int) + 1).toNat = k + 1 := by omega
        have a3 : (0 : Int) ≤ (k : Int) + 1 := by omega
        go_region_held3 (fun w' => w'.cell? ⟨b, off + k, none⟩ = some (.string pk) ∧ w'.cell? ⟨b, off + (k + 1), none⟩ = some (.string pk1)) (first | exact ⟨hx, hy⟩ | exact ⟨hx1, hy1⟩)
          (first | (go_at_call 17; refine (Rk _).mono ?_; rintro x w1 ⟨rfl, hb1⟩; have hx1 := (hb1.cell (p := ⟨b, off + k, none⟩) hbr).trans hx; have hy1 := (hb1.cell (p := ⟨b, off + (k + 1), none⟩) hbr).trans hy))
        have HB1 := Lib.hid (HB.out.drew.trans (hb1.mono HB.out.drew.size))
        clear hb1 HO HB hx hy hx1 hy1 a1 a2 a3 a4 hbr
        go_wp2_with fail
        refine (C9 _).mono ?_
        rintro e w2 ⟨rfl, hb2⟩
        have HB2 := Lib.hid (HB1.out.trans (hb2.mono HB1.out.size))
        clear hb2 HB1
        go_wp2_with fail
        go_ret
        exact ⟨rfl, HB2.out⟩
    · obtain rfl : k = m := by omega
      have hx0 := HL.out wr HB.out 0 (by omega)
      rw [Nat.add_zero] at hx0
      have hx := HL.out wr HB.out k (by omega)
      have hn := HN.out
      have b0 : (0 : Int) ≤ (k : Int) := by omega
      have b1 : (k : Int) < (n : Int) := by omega
      have b2 : (k : Int) + 1 = (n : Int) := by omega
      by_cases hz : (p 0).data.toList = [] ∧ k = 0
      · obtain ⟨hz1, hz2⟩ := hz
        have e0 : (p 0).toList.isEmpty = true := by rw [Lib.toList_data, hz1]; rfl
        have e1 : ((n : Int) == 1) = true := by rw [hn, hz2]; rfl
        have b3 : (n : Int) ≤ (k : Int) + 1 := by omega
        clear hn hz1 hz2 hx b1 b2 b0
        go_wp2_with fail
        have HB1 := HB
        clear HB
        refine (C9 _).mono ?_
        rintro e w2 ⟨rfl, hb2⟩
        have HB2 := Lib.hid (HB1.out.trans (hb2.mono HB1.out.size))
        clear hb2 HB1
        go_wp2_with fail
        go_ret
        exact ⟨rfl, HB2.out⟩
      · obtain ⟨JL, CL⟩ := HE.out HOK.out (fun e1 e2 => hz ⟨e1, e2⟩)
        have hbr : b < wr.heap.size := Nat.lt_of_lt_of_le hb HB.out.size
        have b3 : (n : Int) ≤ (k : Int) + 1 := by omega
        generalize p k = pk at hx CL
        by_cases hz0 : (p 0).data.toList = []
        · have e0 : (p 0).toList.isEmpty = true := by rw [Lib.toList_data, hz0]; rfl
          have e1 : ((n : Int) == 1) = false := beq_eq_false_iff_ne.2 (fun e => hz ⟨hz0, by omega⟩)
          clear hn hz0 hz HE HR HL
          go_wp2_with fail
          have a4 : IntKind.i64.wrap ((n : Int) - 1) = (k : Int) := by rw [show (n : Int) - 1 = (k : Int) by omega]; exact IntWalk.i64_in _ (by omega)
          go_region_held3 (fun w' => w'.cell? ⟨b, off + k, none⟩ = some (.string pk)) (first | exact hx | exact hx1 | exact hx2 | exact hx3)
            (first | (go_at_call 20; refine (JL _ w.heap.size _ (World.ownsRow.drew HO.out)).mono ?_; rintro x w1 ⟨rfl, hb1⟩; have hx1 := (hb1.cell (p := ⟨b, off + k, none⟩) hbr).trans hx) | (go_at_call 18; refine (CL _).mono ?_; rintro x w2 ⟨rfl, hb2⟩; have hx2 := (hb2.cell (p := ⟨b, off + k, none⟩) (Nat.lt_of_lt_of_le hbr hb1.size)).trans hx1) | (go_at_call 22; refine (C9 _).mono ?_; rintro x w3 ⟨rfl, hb3⟩; have hx3 := (hb3.cell (p := ⟨b, off + k, none⟩) (Nat.lt_of_lt_of_le hbr (Nat.le_trans hb1.size hb2.size))).trans hx2))
          have HB1 := Lib.hid (HB.out.drew.trans (hb1.mono HB.out.drew.size))
          have HB2 := Lib.hid (HB1.out.trans (hb2.mono HB1.out.size))
          have HB3 := Lib.hid (HB2.out.trans (hb3.mono HB2.out.size))
          clear hb1 hb2 hb3 hx hx1 hx2 hx3 HB1 HB2 a4
          go_wp2_with fail
          go_ret
          exact ⟨rfl, HB3.out⟩
        · have e0 : (p 0).toList.isEmpty = false := by rw [Lib.toList_data]; simpa using hz0
          clear hn hz0 hz HE HR HL
          go_wp2_with fail
          have a4 : IntKind.i64.wrap ((n : Int) - 1) = (k : Int) := by rw [show (n : Int) - 1 = (k : Int) by omega]; exact IntWalk.i64_in _ (by omega)
          go_region_held3 (fun w' => w'.cell? ⟨b, off + k, none⟩ = some (.string pk)) (first | exact hx | exact hx1 | exact hx2 | exact hx3)
            (first | (go_at_call 20; refine (JL _ w.heap.size _ (World.ownsRow.drew HO.out)).mono ?_; rintro x w1 ⟨rfl, hb1⟩; have hx1 := (hb1.cell (p := ⟨b, off + k, none⟩) hbr).trans hx) | (go_at_call 18; refine (CL _).mono ?_; rintro x w2 ⟨rfl, hb2⟩; have hx2 := (hb2.cell (p := ⟨b, off + k, none⟩) (Nat.lt_of_lt_of_le hbr hb1.size)).trans hx1) | (go_at_call 22; refine (C9 _).mono ?_; rintro x w3 ⟨rfl, hb3⟩; have hx3 := (hb3.cell (p := ⟨b, off + k, none⟩) (Nat.lt_of_lt_of_le hbr (Nat.le_trans hb1.size hb2.size))).trans hx2))
          have HB1 := Lib.hid (HB.out.drew.trans (hb1.mono HB.out.drew.size))
          have HB2 := Lib.hid (HB1.out.trans (hb2.mono HB1.out.size))
          have HB3 := Lib.hid (HB2.out.trans (hb3.mono HB2.out.size))
          clear hb1 hb2 hb3 hx hx1 hx2 hx3 HB1 HB2 a4
          go_wp2_with fail
          go_ret
          exact ⟨rfl, HB3.out⟩

theorem Pl.join_chain (b : Pl.Bs) (m : Nat) (r : Nat → Pl.Place) (hr : ∀ k, k < m → Pl.Good (r k) ∧ (r k).rooted = false) (h : b = [] → m ≠ 0) :
    Pa.join (b :: (List.range m).map (fun k => Pl.text (r k))) = Pl.text (((List.range m).map (fun k => Pl.text (r k))).foldl Pl.follow (Pl.to b)) := by
  by_cases hb : b = []
  · obtain ⟨m', rfl⟩ : ∃ m', m = m' + 1 := ⟨m - 1, by have := h hb; omega⟩
    rw [List.range_succ_eq_map, List.map_cons]
    obtain ⟨h1, h2⟩ := hr 0 (by omega)
    exact Pl.join_at b _ _ (Pl.text_ne_nil h1) (by rw [Pl.isR_text h1, h2])
  · exact Pl.join_cons b _ hb

theorem fnRelChain_walk (ao : Option Addr) (len cap : Nat) (p : Nat → ByteArray) (w : World) (hL : Lies w ao len p) (hs : ((List.range len).map (fun k => (p k).size + 1)).sum ≤ 1048576) :
    Calls Try.prog 7 #[.slice ao len cap] w fun e w' => e = .returned (.bool true) ∧ Below w.heap.size w w' := by
  cases len with
  | zero => exact chain_none ao cap w
  | succ m =>
    obtain ⟨b, off, rfl, hb, _⟩ := hL 0 (by omega)
    have hpk : ∀ k, k < m + 1 → (p k).size + 1 ≤ 1048576 := fun k hk => Nat.le_trans (Pl.one_le_sum (fun k => (p k).size + 1) (m + 1) k hk) hs
    have hsum := Pl.sum_lin (fun k => (p k).size) 1 1 (m + 1)
    simp only [Nat.one_mul] at hsum
    refine chain_walk b off (m + 1) m cap rfl p (fun k => bs (Pl.relS (p k).data.toList (p (k + 1)).data.toList)) (fun k => ∃ r, Pl.way (Pl.to (p k).data.toList) (Pl.to (p (k + 1)).data.toList) = some r) (bs (Pl.text (Pl.to (p m).data.toList))) w hL hb (by omega) ?_ ?_
    · intro k hk
      have h1 := hpk k (by omega)
      have h2 := hpk (k + 1) (by omega)
      cases hw : Pl.way (Pl.to (p k).data.toList) (Pl.to (p (k + 1)).data.toList) with
      | some r => exact .inl ⟨⟨r, rfl⟩, by rw [(Pl.relS_some hw).1]; exact rel_some (by omega) (by omega) hw⟩
      | none => exact .inr (rel_none (by omega) (by omega) hw)
    · intro hok hne
      refine ⟨?_, clean_c _ (by have := hpk m (by omega); omega)⟩
      let r : Nat → Pl.Place := fun k => if h : k < m then Classical.choose (hok k h) else ⟨false, 0, []⟩
      have hr : ∀ k, k < m → Pl.way (Pl.to (p k).data.toList) (Pl.to (p (k + 1)).data.toList) = some (r k) := fun k hk => by
        show _ = some (if h : k < m then Classical.choose (hok k h) else ⟨false, 0, []⟩)
        rw [dif_pos hk]
        exact Classical.choose_spec (hok k hk)
      have hch := Pl.chain (q := fun k => (p k).data.toList) (r := r) m hr
      have e1 := Pl.sum_range_le (fun k => (bs (Pl.relS (p k).data.toList (p (k + 1)).data.toList)).size) (fun k => 3 * (p k).size + (4 * (p (k + 1)).size + 12)) m (fun k _ => by
        have := Pl.rel_len (p k).data.toList (p (k + 1)).data.toList
        rw [← Lib.size_eq, ← Lib.size_eq] at this
        show (bs _).size ≤ _
        rw [bs_size]
        omega)
      rw [Pl.sum_add (fun k => 3 * (p k).size) (fun k => 4 * (p (k + 1)).size + 12), Pl.sum_lin (fun k => (p (k + 1)).size)] at e1
      have e2 := Pl.sum_lin (fun k => (p k).size) 3 0 m
      simp only [Nat.add_zero, Nat.zero_mul] at e2
      have e3 := Pl.sum_shift_eq (fun k => (p k).size) m
      rw [List.range_succ, List.map_append, List.sum_append] at hsum
      rw [List.range_succ, List.map_append, List.sum_append] at hs
      have e8 := Pl.sum_lin (fun k => (p k).size) 1 1 m
      simp only [Nat.one_mul, List.map_cons, List.map_nil, List.sum_cons, List.sum_nil] at e8 hs
      have h0 := hpk 0 (by omega)
      have hm := hpk m (by omega)
      rw [e2] at e1
      have JL := joinL_c (ws (p 0) (fun k => bs (Pl.relS (p k).data.toList (p (k + 1)).data.toList)) m) (ws_ne _ _ _) (by rw [ws_lens, ws_len]; omega)
      have e6 : (ws (p 0) (fun k => bs (Pl.relS (p k).data.toList (p (k + 1)).data.toList)) m).map (·.data.toList) = (p 0).data.toList :: (List.range m).map (fun k => Pl.text (r k)) := by
        unfold ws
        rw [List.map_cons, List.map_map]
        congr 1
        apply List.map_congr_left
        intro k hk
        show Pl.relS _ _ = _
        exact (Pl.relS_some (hr k (List.mem_range.1 hk))).1
      rw [e6, Pl.join_chain _ m r (fun k hk => ⟨Pl.good_way (Pl.good_to _) (hr k hk), (Pl.way_cases (hr k hk)).2.1⟩) hne] at JL
      rw [hch] at JL
      exact JL

end Go.Proofs.Ytgkbkocakinmfaa
