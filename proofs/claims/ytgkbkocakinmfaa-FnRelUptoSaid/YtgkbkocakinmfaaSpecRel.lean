/-
  The reference's Rel: what it returns, for every two paths. Conditions: as each theorem states them.
-/
import Derived.Test.YtgkbkocakinmfaaSpecBelow
import Derived.Test.YtgkbkocakinmfaaPlainSpecRel
namespace Go.Proofs.Ytgkbkocakinmfaa
open Go.RowKit Go.Lib

/-- what holds in the loop: the two variables' blocks -/
structure GI (w2 : World) (A B : Pl.Place) (na nb : Value) (wr : World) : Prop where
  row : wr.heap[w2.heap.size]? = some (.cells #[.bool A.rooted, .int .i64 A.up, na] 34 (0, 0))
  tgt : wr.heap[w2.heap.size + 1]? = some (.cells #[.bool B.rooted, .int .i64 B.up, nb] 34 (0, 0))
  rda : Rd (fun b => b ≠ w2.heap.size ∧ b ≠ w2.heap.size + 1) wr na (A.names.map bs)
  rdb : Rd (fun b => b ≠ w2.heap.size ∧ b ≠ w2.heap.size + 1) wr nb (B.names.map bs)
  low : Below w2.heap.size w2 wr
  size : w2.heap.size + 2 ≤ wr.heap.size

theorem GI.below {w2 : World} {A B : Pl.Place} {na nb : Value} {wr w' : World} (h : GI w2 A B na nb wr) (hb : Below wr.heap.size wr w') : GI w2 A B na nb w' :=
  ⟨(hb.block _ (by have := h.size; omega)).trans h.row, (hb.block _ (by have := h.size; omega)).trans h.tgt, h.rda.below hb, h.rdb.below hb, h.low.trans (hb.mono h.low.size), Nat.le_trans h.size hb.size⟩
theorem GI.set {w2 : World} {A A' B : Pl.Place} {na na' nb : Value} {wr : World} (h : GI w2 A B na nb wr) (hr : Rd (fun b => b ≠ w2.heap.size ∧ b ≠ w2.heap.size + 1) wr na' (A'.names.map bs)) :
    GI w2 A' B na' nb (((wr.setCell ⟨w2.heap.size, 0, none⟩ (.bool A'.rooted)).setCell ⟨w2.heap.size, 1, none⟩ (.int .i64 A'.up)).setCell ⟨w2.heap.size, 2, none⟩ na') := by
  refine ⟨set3 h.row, ?_, ?_, ?_, ?_, ?_⟩
  · rw [Below.heap_setCell _ _ _ _ (by simp), Below.heap_setCell _ _ _ _ (by simp), Below.heap_setCell _ _ _ _ (by simp)]
    exact h.tgt
  · exact ((hr.set _ _ (by simp)).set _ _ (by simp)).set _ _ (by simp)
  · exact ((h.rdb.set _ _ (by simp)).set _ _ (by simp)).set _ _ (by simp)
  · exact ((h.low.setCell (by simp) _).setCell (by simp) _).setCell (by simp) _
  · have := h.size
    simp [World.setCell]
    omega

set_option maxHeartbeats 2000000 in
theorem specRel_some (s t : ByteArray) (w : World) (hz : s.size + t.size ≤ 1048576) {r : Pl.Place} (h : Pl.way (Pl.to s.data.toList) (Pl.to t.data.toList) = some r) :
    Calls Try.prog 23 #[.string s, .string t] w fun e w' => e = .returned (.tuple #[.string (bs (Pl.text r)), .bool true]) ∧ Below w.heap.size w w' := by
  have T1 := Lib.hid (fun W => to_c s W (by omega))
  have T2 := Lib.hid (fun W => to_c t W (by omega))
  have ca := Pl.to_count s.data.toList
  have cb := Pl.to_count t.data.toList
  rw [← Lib.size_eq] at ca cb
  have hB := Pl.good_to t.data.toList
  have hsz := Pl.rel_len s.data.toList t.data.toList
  rw [(Pl.relS_some h).1, ← Lib.size_eq, ← Lib.size_eq] at hsz
  have htl := (Pl.text_len r).2
  generalize Pl.to s.data.toList = A at *
  generalize Pl.to t.data.toList = B at *
  have hr := (Pl.way_cases h).1
  have HR := Lib.hid hr
  obtain ⟨hu, hmost⟩ := Pl.search_most h
  have HGR := Lib.hid (Pl.good_way hB h)
  have HRF := Lib.hid (Pl.way_cases h).2.1
  have HEND := Lib.hid (Pl.search_end hB h)
  have HGO := Lib.hid (fun k hk => Pl.search_go hB h k hk)
  have HTL : Hid (Pl.sumL (Pl.parts r) ≤ 1099511627776) := by show _ ≤ _; omega
  have hru : r.up ≤ 4194304 := by omega
  have HCA : Hid (A.names.length + A.up ≤ 1048577) := by show _ ≤ _; omega
  have HCB : Hid (B.names.length + B.up ≤ 1048577) := by show _ ≤ _; omega
  have g1 : ¬ ((B.up : Int) < (A.up : Int)) := by omega
  have g2 : (A.up : Int) ≤ (B.up : Int) := by omega
  have g0 : decide (B.up < A.up) = false := decide_eq_false (by omega)
  have g00 : decide ((B.up : Int) < (A.up : Int)) = false := decide_eq_false (by omega)
  have hla : A.names.length ≤ 1048577 := by omega
  have hlb : B.up ≤ 1048577 := by omega
  clear hsz htl hB h ca cb hz
  have HB0 := Lib.hid (Below.refl w.heap.size w)
  go_enter Try.func23, Try.ntmps23
  go_wp2_with fail
  refine (T1.out _).mono ?_
  rintro x w1 ⟨⟨va, rfl, na, rfl, hra⟩, hb1⟩
  have HB1 := Lib.hid hb1
  have HRA := Lib.hid hra
  clear hra hb1
  go_wp2_with fail
  refine (T2.out _).mono ?_
  rintro x w2 ⟨⟨vb, rfl, nb, rfl, hrb⟩, hb2⟩
  have HB2 := Lib.hid (HB1.out.trans (hb2.mono HB1.out.size))
  have HRA2 := Lib.hid (HRA.out.below hb2)
  have HRB := Lib.hid hrb
  have HLW : Hid (w.heap.size ≤ w2.heap.size) := HB2.out.size
  obtain ⟨aoa, ca, ea, _⟩ := HRA2.out.lies
  obtain ⟨aob, cb, eb, _⟩ := HRB.out.lies
  subst ea eb
  rw [List.length_map] at *
  clear hb2 hrb HRA HB1
  have HI : Hid (GI w2 (Pl.ups A 0) B (.slice aoa A.names.length ca) (.slice aob B.names.length cb) ((w2.alloc (.cells #[.bool B.rooted, .int .i64 A.up, .slice aoa A.names.length ca] 34)).alloc (.cells #[.bool B.rooted, .int .i64 B.up, .slice aob B.names.length cb] 34))) := by
    show GI _ _ _ _ _ _
    rw [Pl.ups_zero]
    refine ⟨by rw [HR.out]; exact heap_alloc2_old _ _ _, heap_alloc2_new _ _ _, ?_, ?_, two_allocs _ _ _, by simp⟩
    · exact (HRA2.out.mono fun b hb _ => ⟨by omega, by omega⟩).below (two_allocs _ _ _)
    · exact (HRB.out.mono fun b hb _ => ⟨by omega, by omega⟩).below (two_allocs _ _ _)
  have HMOST : Hid ((r.up : Int) ≤ (A.names.length : Int) + (B.up : Int) - (A.up : Int)) := by show _ ≤ _; omega
  go_wp2_with fail
  clear hr
  go_loopw [9] (fun v9 wr => ∃ k : Nat, k ≤ r.up ∧ v9 = .int .i64 k ∧ Hid (∃ ao m c, GI w2 (Pl.ups A k) B (.slice ao m c) (.slice aob B.names.length cb) wr)) (fun v9 _ => r.up - (RowKit.intOf v9).toNat)
  case atStart => exact ⟨0, Nat.zero_le _, rfl, _, _, _, HI.out⟩
  case round =>
    clear HI
    obtain ⟨k, hk, rfl, HI⟩ := hrel
    obtain ⟨ao, m, c, hI⟩ := HI.out
    clear HI
    have HI := Lib.hid hI
    obtain ⟨⟨a0, a1, a2⟩, _⟩ := row3 hI.row
    obtain ⟨⟨z0, z1, z2⟩, _⟩ := row3 hI.tgt
    clear hI
    have g3 : (k : Int) ≤ (A.names.length : Int) + (B.up : Int) - (A.up : Int) := by have := HMOST.out; omega
    have HLK : Hid (B.names.length + (Pl.ups A k).names.length ≤ 549755813888) := by
      show _ ≤ _
      rw [Pl.ups_len]
      have := HCB.out
      omega
    have HPK : Hid ((Pl.ups A k).names.length + (Pl.ups A k).up ≤ 1099511627776) := by
      show _ ≤ _
      have h1 := Pl.along_count (List.replicate k ([46, 46] : Pl.Bs)) A
      rw [Pl.along_dd, List.length_replicate] at h1
      have := HCA.out
      omega
    have HAB := Lib.hid (Pl.above_ups A k)
    by_cases hlt : k < r.up
    · have HN := Lib.hid (HGO.out k hlt)
      generalize Pl.ups A k = Q at *
      go_wp2_with fail
      refine (below_c B Q _ _ wr HLK.out ⟨_, rfl, HI.out.rdb⟩ ⟨_, rfl, HI.out.rda⟩).mono ?_
      rintro x w3 ⟨_, k2, hb3⟩
      obtain rfl := k2 HN.out
      have HI3 := Lib.hid (HI.out.below hb3)
      clear k2 hb3 a0 a1 a2 z0 z1 z2
      obtain ⟨⟨a0, a1, a2⟩, _⟩ := row3 HI3.out.row
      go_wp2_with fail
      refine (parent_c Q _ w3 HPK.out ⟨_, rfl, HI3.out.rda⟩).mono ?_
      rintro x w4 ⟨⟨v', rfl, nv', rfl, hr'⟩, hb4⟩
      obtain ⟨ao3, m3, c3, rfl⟩ := hr'.slice
      have HI4 := Lib.hid ((HI3.out.below hb4).set hr')
      obtain ⟨⟨y0, y1, y2⟩, k0, k1, k2⟩ := row3 (HI3.out.below hb4).row
      clear hr' hb4 a0 a1 a2 HI HI3
      go_wp2_with fail
      go_roundw
      case rel => exact ⟨k + 1, by omega, by go_num, ao3, m3, c3, by rw [← HAB.out]; exact HI4.out⟩
      case measure => simp [RowKit.intOf]; omega
    · obtain rfl : k = r.up := by omega
      have HT : Hid (∀ (W : World) (nv : Value), Rd (fun b => b ≠ w2.heap.size ∧ b ≠ w2.heap.size + 1) W nv (r.names.map bs) → Calls Try.prog 39 #[.agg #[.bool false, .int .i64 r.up, nv]] W fun e w' => e = .returned (.string (bs (Pl.text r))) ∧ Below W.heap.size W w') := fun W nv hnv =>
        text_c r HGR.out _ W HTL.out ⟨nv, by rw [HRF.out], hnv⟩
      generalize Pl.ups A r.up = Q at *
      go_wp2_with fail
      refine (below_c B Q _ _ wr HLK.out ⟨_, rfl, HI.out.rdb⟩ ⟨_, rfl, HI.out.rda⟩).mono ?_
      rintro x w3 ⟨k1, _, hb3⟩
      obtain ⟨nv, rfl, hnv⟩ := k1 ⟨HEND.out.1, HEND.out.2.1, HEND.out.2.2.1⟩
      rw [HEND.out.2.2.2] at hnv
      obtain ⟨ao9, m9, c9, rfl⟩ := hnv.slice
      have HNV := Lib.hid hnv
      have HB3 := Lib.hid (HB2.out.trans ((HI.out.low.trans (hb3.mono HI.out.low.size)).mono HLW.out))
      clear k1 hnv hb3 a0 a1 a2 z0 z1 z2
      go_wp2_with fail
      refine (HT.out _ _ HNV.out).mono ?_
      rintro e w4 ⟨rfl, hb4⟩
      have HB4 := Lib.hid (HB3.out.trans (hb4.mono HB3.out.size))
      clear hb4 HB3
      go_wp2_with fail
      go_ret2
      exact ⟨rfl, HB4.out⟩

theorem specRel_none (s t : ByteArray) (w : World) (hz : s.size + t.size ≤ 1048576) (h : Pl.way (Pl.to s.data.toList) (Pl.to t.data.toList) = none) :
    Calls Try.prog 23 #[.string s, .string t] w fun e w' => e = .returned (.tuple #[.string ⟨#[]⟩, .bool false]) ∧ Below w.heap.size w w' := by
  have T1 := Lib.hid (fun W => to_c s W (by omega))
  have T2 := Lib.hid (fun W => to_c t W (by omega))
  generalize Pl.to s.data.toList = A at *
  generalize Pl.to t.data.toList = B at *
  by_cases hr : A.rooted = B.rooted
  · have hu : B.up < A.up := by
      rcases Pl.way_none.1 h with e | e
      · exact absurd hr e
      · exact e
    have g0 : decide (B.up < A.up) = true := decide_eq_true hu
    have g1 : (B.up : Int) < (A.up : Int) := by omega
    clear h hz
    have HB0 := Lib.hid (Below.refl w.heap.size w)
    go_enter Try.func23, Try.ntmps23
    go_wp2_with fail
    refine (T1.out _).mono ?_
    rintro x w1 ⟨⟨va, rfl, na, rfl, hra⟩, hb1⟩
    have HB1 := Lib.hid hb1
    have HRA := Lib.hid hra
    clear hra hb1
    go_wp2_with fail
    refine (T2.out _).mono ?_
    rintro x w2 ⟨⟨vb, rfl, nb, rfl, hrb⟩, hb2⟩
    have HB2 := Lib.hid (HB1.out.trans (hb2.mono HB1.out.size))
    obtain ⟨aoa, ca, ea, _⟩ := HRA.out.lies
    obtain ⟨aob, cb, eb, _⟩ := hrb.lies
    subst ea eb
    clear hb2 hrb HRA HB1
    go_wp2_with fail
    go_ret2
    exact ⟨rfl, (HB2.out.alloc HB2.out.size _).alloc (by have := HB2.out.size; simp; omega) _⟩
  · clear h hz
    cases hA : A.rooted with
    | true =>
      have hB : B.rooted = false := by
        revert hr
        rw [hA]
        cases B.rooted <;> simp
      clear hr
      have HB0 := Lib.hid (Below.refl w.heap.size w)
      go_enter Try.func23, Try.ntmps23
      go_wp2_with fail
      refine (T1.out _).mono ?_
      rintro x w1 ⟨⟨va, rfl, na, rfl, hra⟩, hb1⟩
      have HB1 := Lib.hid hb1
      have HRA := Lib.hid hra
      clear hra hb1
      go_wp2_with fail
      refine (T2.out _).mono ?_
      rintro x w2 ⟨⟨vb, rfl, nb, rfl, hrb⟩, hb2⟩
      have HB2 := Lib.hid (HB1.out.trans (hb2.mono HB1.out.size))
      obtain ⟨aoa, ca, ea, _⟩ := HRA.out.lies
      obtain ⟨aob, cb, eb, _⟩ := hrb.lies
      subst ea eb
      clear hb2 hrb HRA HB1
      go_wp2_with fail
      go_ret2
      exact ⟨rfl, (HB2.out.alloc HB2.out.size _).alloc (by have := HB2.out.size; simp; omega) _⟩
    | false =>
      have hB : B.rooted = true := by
        revert hr
        rw [hA]
        cases B.rooted <;> simp
      clear hr
      have HB0 := Lib.hid (Below.refl w.heap.size w)
      go_enter Try.func23, Try.ntmps23
      go_wp2_with fail
      refine (T1.out _).mono ?_
      rintro x w1 ⟨⟨va, rfl, na, rfl, hra⟩, hb1⟩
      have HB1 := Lib.hid hb1
      have HRA := Lib.hid hra
      clear hra hb1
      go_wp2_with fail
      refine (T2.out _).mono ?_
      rintro x w2 ⟨⟨vb, rfl, nb, rfl, hrb⟩, hb2⟩
      have HB2 := Lib.hid (HB1.out.trans (hb2.mono HB1.out.size))
      obtain ⟨aoa, ca, ea, _⟩ := HRA.out.lies
      obtain ⟨aob, cb, eb, _⟩ := hrb.lies
      subst ea eb
      clear hb2 hrb HRA HB1
      go_wp2_with fail
      go_ret2
      exact ⟨rfl, (HB2.out.alloc HB2.out.size _).alloc (by have := HB2.out.size; simp; omega) _⟩
end Go.Proofs.Ytgkbkocakinmfaa
