/-
  The laws' small functions steps, ups and goesUp: what they return, for every path. Conditions: the path is shorter than 2^31 bytes; internal/bytealg.MaxLen holds some int.
-/
import Derived.Test.YtgkbkocakinmfaaDoorImpl
import Derived.Test.YtgkbkocakinmfaaDoorPlainSteps
namespace Go.Proofs.YtgkbkocakinmfaaDoor
open Go.RowKit Go.Lib

/-- the library's variable MaxLen holds an int -/
def Ml (w : World) : Prop := ∃ m, w.cell? ⟨0, 0, none⟩ = some (.int .i64 m)
theorem Ml.below {w w' : World} (h : Ml w) (hb : Below w.heap.size w w') : Ml w' := by
  obtain ⟨m, hm⟩ := h
  exact ⟨m, (hb.cell (p := ⟨0, 0, none⟩) (World.block_lt_of_cell? w _ hm)).trans hm⟩
theorem Ml.of_shaped {w : World} (h : w.ShapedOpen Tryd.prog) : Ml w := Tryd.laysM146.s1_3 w h

theorem rooted_bel (s : ByteArray) (w : World) :
    Calls Tryd.prog 14 #[.string s] w fun e w' => e = .returned (.bool (Pl.isR s.data.toList)) ∧ Below w.heap.size w w' :=
  (rooted_any s w).mono fun _ _ ⟨h1, h2⟩ => ⟨h1, h2 ▸ Below.refl _ _⟩

/-- ups of a cleaned path -/
def Ups (c : ByteArray) (n : Nat) : Prop := ∀ W : World, Ml W → Calls Tryd.prog 16 #[.string c] W fun e w' => e = .returned (.int .i64 (n : Int)) ∧ Below W.heap.size W w'

def strV (l : List Pl.Bs) : List Value := l.map fun x => Value.string ⟨x.toArray⟩

theorem splitB_els (s : ByteArray) : (Lib.splitB ⟨#[47]⟩ 0 (Lib.countB s ⟨#[47]⟩) s).map Value.string = strV (Pa.els s.data.toList) := by
  have h := Lib.splitB_data ⟨#[47]⟩ 0 (Lib.countB s ⟨#[47]⟩) s
  have h2 : Lib.splitK [47] 0 (Lib.count s.data.toList [47]) s.data.toList = Pa.els s.data.toList := Pl.splitK_els _
  have h3 : (Lib.splitB ⟨#[47]⟩ 0 (Lib.countB s ⟨#[47]⟩) s).map (·.data.toList) = Pa.els s.data.toList := h.trans h2
  unfold strV
  rw [← h3, List.map_map]
  apply List.map_congr_left
  intro x _
  show Value.string x = Value.string ⟨x.data.toList.toArray⟩
  rw [Lib.mk_data]
theorem count_els (s : ByteArray) : Lib.countB s ⟨#[47]⟩ + 1 = (Pa.els s.data.toList).length := by
  have h := congrArg List.length (splitB_els s)
  rw [List.length_map, Lib.splitB_all ⟨#[47]⟩ (by decide) 0 _ s rfl] at h
  rw [h]
  unfold strV
  rw [List.length_map]

theorem split_any (s : ByteArray) (w : World) (hm : Ml w) (hs : s.size ≤ 2147483648) :
    Calls Tryd.prog 27 #[.string s, .string ⟨#[47]⟩] w fun e w' =>
      e = .returned (.slice (some ⟨w.heap.size, 0, none⟩) (Pa.els s.data.toList).length (Pa.els s.data.toList).length) ∧ w' = w.alloc (.cells (strV (Pa.els s.data.toList)).toArray 9) := by
  obtain ⟨m, hm⟩ := hm
  have h := Tryd.strings_Split s ⟨#[47]⟩ m w (by omega) hm (by decide)
  rw [splitB_els, count_els] at h
  exact h

theorem strV_cell (l : List Pl.Bs) (w : World) (t : TypeId) (j : Nat) (hj : j < l.length) :
    (w.alloc (.cells (strV l).toArray t)).cell? ⟨w.heap.size, j, none⟩ = some (.string ⟨l[j].toArray⟩) := by
  rw [World.cell?_alloc_new]
  unfold strV
  simp [hj]

theorem steps_dot (s : ByteArray) (w : World) (h : s.data.toList = [46]) :
    Calls Tryd.prog 19 #[.string s] w fun e w' => e = .returned (.slice none 0 0) ∧ w = w' := by
  have h1 : (s.toList == [46]) = true := by rw [Lib.toList_data, h]; rfl
  clear h
  go_enter Tryd.func19, Tryd.ntmps19
  go_wp2_with fail
  go_ret
  exact ⟨rfl, rfl⟩

theorem steps_split (s : ByteArray) (w : World) (hm : Ml w) (hs : s.size ≤ 2147483648) (h : s.data.toList ≠ [46]) :
    Calls Tryd.prog 19 #[.string s] w fun e w' =>
      e = .returned (.slice (some ⟨w.heap.size, 0, none⟩) (Pa.els s.data.toList).length (Pa.els s.data.toList).length) ∧ w' = w.alloc (.cells (strV (Pa.els s.data.toList)).toArray 9) := by
  have h1 : (s.toList == [46]) = false := by rw [Lib.toList_data]; simpa using h
  have HC := Lib.hid (split_any s w hm hs)
  clear h hm hs
  generalize Pa.els s.data.toList = l at *
  generalize hn : l.length = n at *
  have HN := Lib.hid hn
  clear hn
  go_enter Tryd.func19, Tryd.ntmps19
  go_wp2_with fail
  refine HC.out.mono ?_
  rintro e w1 ⟨rfl, hw⟩
  have HW := Lib.hid hw
  clear hw
  go_wp2_with fail
  go_ret
  exact ⟨rfl, HW.out⟩

/-- steps: a slice of so many elements -/
theorem steps_len (s : ByteArray) (w : World) (hm : Ml w) (hs : s.size ≤ 2147483648) :
    Calls Tryd.prog 19 #[.string s] w fun e w' => (∃ A c, e = .returned (.slice A (Pl.stepsL s.data.toList).length c)) ∧ Below w.heap.size w w' := by
  unfold Pl.stepsL
  by_cases h : s.data.toList = [46]
  · rw [if_pos h]
    refine (steps_dot s w h).mono ?_
    rintro e w' ⟨rfl, rfl⟩
    exact ⟨⟨_, _, rfl⟩, Below.refl _ _⟩
  · rw [if_neg h]
    refine (steps_split s w hm hs h).mono ?_
    rintro e w' ⟨rfl, rfl⟩
    exact ⟨⟨_, _, rfl⟩, (Below.refl _ _).alloc (Nat.le_refl _) _⟩

theorem els_size (s : ByteArray) : (Pa.els s.data.toList).length ≤ s.size + 1 := by
  rw [Lib.size_eq]; exact Pl.els_len _

theorem count_take_succ (l : List Pl.Bs) (k : Nat) (hk : k < l.length) : (l.take (k + 1)).count [46, 46] = (l.take k).count [46, 46] + if l[k] = [46, 46] then 1 else 0 := by
  rw [List.take_succ_eq_append_getElem hk, List.count_append, List.count_singleton]
  simp only [beq_iff_eq]

set_option maxHeartbeats 1000000 in
theorem ups_any (s : ByteArray) (w : World) (hm : Ml w) (hs : s.size ≤ 2147483648) :
    Calls Tryd.prog 16 #[.string s] w fun e w' => e = .returned (.int .i64 (Pl.upsN s.data.toList : Nat)) ∧ Below w.heap.size w w' := by
  by_cases h : s.data.toList = [46]
  · have hc := steps_dot s w h
    have h0 : Pl.upsN s.data.toList = 0 := by rw [h]; rfl
    rw [h0]
    have HC := Lib.hid hc
    clear hc h0 h
    go_enter Tryd.func16, Tryd.ntmps16
    go_wp2_with fail
    refine HC.out.mono ?_
    rintro e w' ⟨rfl, rfl⟩
    go_wp2_with fail
    go_loop [3, 9] (fun n i => n = .int .i64 0 ∧ i = .int .i64 0) (fun _ _ => 0)
    case atStart => exact ⟨rfl, rfl⟩
    case round =>
      obtain ⟨rfl, rfl⟩ := hrel
      go_wp2_with fail
      go_ret
      exact ⟨rfl, Below.refl _ _⟩
  · have hc := steps_split s w hm hs h
    have hle := els_size s
    have hu : Pl.upsN s.data.toList = (Pa.els s.data.toList).count [46, 46] := by unfold Pl.upsN Pl.stepsL; rw [if_neg h]
    rw [hu]
    have hcell := fun j hj => strV_cell (Pa.els s.data.toList) w 9 j hj
    have hbel : Below w.heap.size w (w.alloc (.cells (strV (Pa.els s.data.toList)).toArray 9)) := (Below.refl _ _).alloc (Nat.le_refl _) _
    generalize Pa.els s.data.toList = l at *
    generalize w.alloc (.cells (strV l).toArray 9) = wa at hc hcell hbel
    have HC := Lib.hid hc
    have HCELL := Lib.hid hcell
    have HBEL := Lib.hid hbel
    clear hc hu h hcell hbel hm
    go_enter Tryd.func16, Tryd.ntmps16
    go_wp2_with fail
    refine HC.out.mono ?_
    rintro e w' ⟨rfl, rfl⟩
    go_wp2_with fail
    go_loop [3, 9] (fun n i => ∃ k : Nat, k ≤ l.length ∧ i = .int .i64 k ∧ n = .int .i64 ((l.take k).count [46, 46] : Nat)) (fun _ i => l.length - (RowKit.intOf i).toNat)
    case atStart => exact ⟨0, Nat.zero_le _, rfl, rfl⟩
    case round =>
      obtain ⟨k, hk, rfl, rfl⟩ := hrel
      have hcb : (l.take k).count [46, 46] ≤ k := Nat.le_trans (List.count_le_length) (List.length_take_le _ _)
      by_cases hlt : k < l.length
      · have hx := HCELL.out k hlt
        have hs1 := count_take_succ l k hlt
        have HS := Lib.hid hs1
        clear hs1
        by_cases hd : l[k] = [46, 46]
        · have ht : ((⟨l[k].toArray⟩ : ByteArray).toList == [46, 46]) = true := by rw [Lib.toList_data]; simpa using hd
          have HD := Lib.hid hd
          clear hd
          generalize hq : (⟨l[k].toArray⟩ : ByteArray) = q at hx ht
          clear hq
          go_wp2_with fail
          go_round
          case rel => exact ⟨k + 1, by omega, by go_num, by rw [HS.out, if_pos HD.out]; go_num⟩
          case measure => simp [RowKit.intOf]; omega
        · have ht : ((⟨l[k].toArray⟩ : ByteArray).toList == [46, 46]) = false := by rw [Lib.toList_data]; simpa using hd
          have HD := Lib.hid hd
          clear hd
          generalize hq : (⟨l[k].toArray⟩ : ByteArray) = q at hx ht
          clear hq
          go_wp2_with fail
          go_round
          case rel => exact ⟨k + 1, by omega, by go_num, by rw [HS.out, if_neg HD.out]; go_num⟩
          case measure => simp [RowKit.intOf]; omega
      · have e0 : l.take k = l := List.take_of_length_le (by omega)
        have E0 := Lib.hid e0
        clear e0
        go_wp2_with fail
        go_ret
        rw [E0.out]
        exact ⟨rfl, HBEL.out⟩

theorem ups_clean (p : ByteArray) (h : p.size ≤ 2147483640) : Ups ⟨(Pa.clean p.data.toList).toArray⟩ (Pl.to p.data.toList).up := by
  intro W hm
  have hz : (⟨(Pa.clean p.data.toList).toArray⟩ : ByteArray).size = (Pa.clean p.data.toList).length := Pa.size_mk _
  have hl := Pl.clean_len p.data.toList
  rw [← Lib.size_eq] at hl
  have k := ups_any ⟨(Pa.clean p.data.toList).toArray⟩ W hm (by omega)
  rw [show (⟨(Pa.clean p.data.toList).toArray⟩ : ByteArray).data.toList = Pa.clean p.data.toList from rfl, Pl.upsN_clean] at k
  exact k

end Go.Proofs.YtgkbkocakinmfaaDoor
