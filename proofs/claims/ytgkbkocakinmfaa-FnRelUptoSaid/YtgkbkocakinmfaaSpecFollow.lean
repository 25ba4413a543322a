/-
  The reference's Follow and To: what they return, for every path. Conditions: as each theorem states them.
-/
import Derived.Test.YtgkbkocakinmfaaSpecEls
namespace Go.Proofs.Ytgkbkocakinmfaa
open Go.RowKit Go.Lib

theorem Rd.slice {S : Nat → Prop} {w : World} {v : Value} {l : List ByteArray} (h : Rd S w v l) : ∃ ao m c, v = .slice ao m c := by
  rcases h with ⟨_, ao, cap, e, _⟩ | ⟨_, b, off, cap, e, _⟩
  · exact ⟨_, _, _, e⟩
  · exact ⟨_, _, _, e⟩

/-- what holds in the loop: the variable of the place, the result's block, the elements -/
structure FI (S : Nat → Prop) (w : World) (b2 off2 : Nat) (es : List Pl.Bs) (P : Pl.Place) (nv : Value) (wr : World) : Prop where
  row : wr.heap[w.heap.size]? = some (.cells #[.bool P.rooted, .int .i64 P.up, nv] 34 (0, 0))
  zero : wr.heap[w.heap.size + 1]? = some (.cells #[.bool false, .int .i64 0, .slice none 0 0] 34 (0, 0))
  rd : Rd (fun b => S b ∧ b ≠ w.heap.size ∧ b ≠ w.heap.size + 1) wr nv (P.names.map bs)
  els : ∀ k (hk : k < es.length), wr.cell? ⟨b2, off2 + k, none⟩ = some (.string (bs es[k]))
  low : Below w.heap.size w wr
  size : w.heap.size + 2 ≤ wr.heap.size

theorem FI.set {S : Nat → Prop} {w : World} {b2 off2 : Nat} {es : List Pl.Bs} {P P' : Pl.Place} {nv nv' : Value} {wr w' : World} (h : FI S w b2 off2 es P nv wr) (hb : Below wr.heap.size wr w') (hlt : b2 < wr.heap.size) (h2 : w.heap.size + 2 ≤ b2)
    (hr : Rd (fun b => S b ∧ b ≠ w.heap.size ∧ b ≠ w.heap.size + 1) w' nv' (P'.names.map bs)) :
    FI S w b2 off2 es P' nv' (((w'.setCell ⟨w.heap.size, 0, none⟩ (.bool P'.rooted)).setCell ⟨w.heap.size, 1, none⟩ (.int .i64 P'.up)).setCell ⟨w.heap.size, 2, none⟩ nv') := by
  have hs := h.size
  refine ⟨set3 ((hb.block _ (by omega)).trans h.row), ?_, ?_, ?_, ?_, ?_⟩
  · rw [Below.heap_setCell _ _ _ _ (by simp), Below.heap_setCell _ _ _ _ (by simp), Below.heap_setCell _ _ _ _ (by simp)]
    exact (hb.block _ (by omega)).trans h.zero
  · exact ((hr.set _ _ (by simp)).set _ _ (by simp)).set _ _ (by simp)
  · intro k hk
    have e : ∀ (W : World) (a : Addr) (u : Value), a.block = w.heap.size → (W.setCell a u).cell? ⟨b2, off2 + k, none⟩ = W.cell? ⟨b2, off2 + k, none⟩ := fun W a u ha =>
      World.cell?_of_block (Below.heap_setCell _ _ _ _ (by rw [ha]; show b2 ≠ _; omega))
    rw [e _ _ _ rfl, e _ _ _ rfl, e _ _ _ rfl]
    exact (hb.cell (by exact hlt)).trans (h.els k hk)
  · exact (((h.low.trans (hb.mono h.low.size)).setCell (by simp) _).setCell (by simp) _).setCell (by simp) _
  · have := hb.size
    simp [World.setCell]
    omega

theorem Pl.along_take (P : Pl.Place) (es : List Pl.Bs) (k : Nat) (hk : k < es.length) : Pl.along P (es.take (k + 1)) = Pl.into (Pl.along P (es.take k)) es[k] := by
  rw [List.take_succ_eq_append_getElem hk, Pl.along_append, Pl.along_cons, Pl.along_nil]

set_option maxHeartbeats 2000000 in
theorem follow_c {S : Nat → Prop} (P : Pl.Place) (v : Value) (s : ByteArray) (w : World) (hn : P.names.length + P.up + s.size ≤ 549755813888) (hS : ∀ b, w.heap.size ≤ b → S b) (h : PV S w v P) :
    Calls Try.prog 25 #[v, .string s] w fun e w' => (∃ v', e = .returned v' ∧ PV S w' v' (Pl.follow P s.data.toList)) ∧ Below w.heap.size w w' := by
  obtain ⟨nv, rfl, hr⟩ := h
  obtain ⟨ao, m, c, rfl⟩ := hr.slice
  have HC := Lib.hid (elements_c s ((w.alloc (.cells #[.bool P.rooted, .int .i64 P.up, .slice ao m c] 34)).alloc (.cells #[.bool false, .int .i64 0, .slice none 0 0] 34)) (by omega))
  have hel := Pl.els_len s.data.toList
  rw [← Lib.size_eq] at hel
  have hno := Pl.els_no47 s.data.toList
  obtain ⟨e0, er, hee⟩ := Pa.els_ne s.data.toList
  have hne : Pa.els s.data.toList ≠ [] := by rw [hee]; simp
  have HF : Hid (Pl.follow P s.data.toList = Pl.along P (Pa.els s.data.toList)) := rfl
  generalize Pl.follow P s.data.toList = F at HF
  clear hee
  generalize hes : Pa.els s.data.toList = es at *
  clear hes
  have HR := Lib.hid hr
  have HS := Lib.hid hS
  have HNO := Lib.hid hno
  have HNE := Lib.hid hne
  clear hr hS hno hne
  go_enter Try.func25, Try.ntmps25
  go_wp2_with fail
  refine HC.out.mono ?_
  rintro x w1 ⟨⟨ev, rfl, hev⟩, hb1⟩
  rcases hev with ⟨he, _⟩ | ⟨_, b2, off2, cap2, rfl, hcap, hb2, hlt2, hcell⟩
  · exact absurd (List.map_eq_nil_iff.1 he) HNE.out
  have hb2' : w.heap.size + 2 ≤ b2 := by simpa using hb2
  have HI : Hid (FI S w b2 off2 es P (.slice ao m c) w1) := by
    have hz : ((w.alloc (.cells #[.bool P.rooted, .int .i64 P.up, .slice ao m c] 34)).alloc (.cells #[.bool false, .int .i64 0, .slice none 0 0] 34)).heap.size = w.heap.size + 2 := by simp
    refine ⟨(hb1.block _ (by omega)).trans (heap_alloc2_old _ _ _), (hb1.block _ (by omega)).trans (heap_alloc2_new _ _ _), ?_, ?_, (two_allocs _ _ _).trans (hb1.mono (by omega)), by have := hb1.size; omega⟩
    · exact (((HR.out.mono (S' := fun b => S b ∧ b ≠ w.heap.size ∧ b ≠ w.heap.size + 1) (fun b hb hSb => ⟨hSb, by omega, by omega⟩)).below (two_allocs _ _ _)).below hb1)
    · intro k hk
      have := hcell k (by rw [List.length_map]; exact hk)
      rw [this, List.getElem_map]
  rw [List.length_map]
  have HLT := Lib.hid hlt2
  have HB2 := Lib.hid hb2'
  have hnn : es.length ≤ 1099511627776 := by omega
  have hnn2 : P.names.length + P.up + es.length ≤ 1099511627776 := by omega
  clear hb1 hcell hcap hb2 hb2' hlt2 HR HC hn hel
  generalize hnl : es.length = n at *
  have HN := Lib.hid hnl
  clear hnl
  go_wp2_with fail
  go_loopw [10] (fun v10 wr => ∃ k : Nat, k ≤ n ∧ v10 = .int .i64 k ∧ Hid (b2 < wr.heap.size) ∧ Hid (∃ ao m c, FI S w b2 off2 es (Pl.along P (es.take k)) (.slice ao m c) wr)) (fun v10 _ => n - (RowKit.intOf v10).toNat)
  case atStart => exact ⟨0, Nat.zero_le _, rfl, HLT, ao, m, c, HI.out⟩
  case round =>
    clear HI HLT
    obtain ⟨k, hk, rfl, HLT, HI⟩ := hrel
    obtain ⟨ao2, m2, c2, hI⟩ := HI.out
    clear HI
    have HI := Lib.hid hI
    obtain ⟨⟨a0, a1, a2⟩, f0, f1, f2⟩ := row3 hI.row
    obtain ⟨⟨z0, z1, z2⟩, g0, g1, g2⟩ := row3 hI.zero
    clear hI
    by_cases hlt : k < n
    · have hke : k < es.length := by have := HN.out; omega
      have hx := HI.out.els k hke
      have HP := Lib.hid (Pl.along_take P es k hke)
      have hcnt := Pl.along_count (es.take k) P
      have htk : (es.take k).length ≤ k := List.length_take_le _ _
      have hek := HNO.out es[k] (List.getElem_mem _)
      have HEK := Lib.hid hek
      have hpn : (Pl.along P (es.take k)).names.length + (Pl.along P (es.take k)).up ≤ 1099511627776 := by omega
      have HPN := Lib.hid hpn
      clear hcnt htk hek hpn
      generalize es[k] = e at hx HP HEK
      generalize Pl.along P (es.take k) = Q at *
      by_cases h1 : e = []
      · have t0 : (bs e).toList.isEmpty = true := by rw [bs_list, h1]; rfl
        have HIN := Lib.hid (show Pl.into Q e = Q by rw [h1, Pl.into_nil])
        clear h1
        generalize bs e = q at hx t0
        go_wp2_with fail
        go_roundw
        case rel => exact ⟨k + 1, by omega, by go_num, HLT, ao2, m2, c2, by rw [HP.out, HIN.out]; exact HI.out⟩
        case measure => simp [RowKit.intOf]; omega
      · have t0 : (bs e).toList.isEmpty = false := by rw [bs_list]; simpa using h1
        by_cases h2 : e = [46]
        · have t1 : ((bs e).toList == [46]) = true := by rw [bs_list, h2]; rfl
          have HIN := Lib.hid (show Pl.into Q e = Q by rw [h2, Pl.into_dot])
          clear h1 h2
          generalize bs e = q at hx t0 t1
          go_wp2_with fail
          go_roundw
          case rel => exact ⟨k + 1, by omega, by go_num, HLT, ao2, m2, c2, by rw [HP.out, HIN.out]; exact HI.out⟩
          case measure => simp [RowKit.intOf]; omega
        · have t1 : ((bs e).toList == [46]) = false := by rw [bs_list]; simpa using h2
          by_cases h3 : e = [46, 46]
          · have t2 : ((bs e).toList == [46, 46]) = true := by rw [bs_list, h3]; rfl
            have HIN := Lib.hid (show Pl.into Q e = Pl.above Q by rw [h3, Pl.into_dd])
            clear h1 h2 h3
            generalize bs e = q at hx t0 t1 t2
            go_wp2_with fail
            refine (parent_c Q _ wr HPN.out ⟨_, rfl, HI.out.rd⟩).mono ?_
            rintro x w2 ⟨⟨v', rfl, nv', rfl, hr'⟩, hb'⟩
            obtain ⟨ao3, m3, c3, rfl⟩ := hr'.slice
            obtain ⟨⟨y0, y1, y2⟩, k0, k1, k2⟩ := row3 ((hb'.block _ (by have := HI.out.size; omega)).trans HI.out.row)
            have HI2 := Lib.hid (HI.out.set hb' HLT.out HB2.out hr')
            have HLT2 : Hid (b2 < w2.heap.size) := Nat.lt_of_lt_of_le HLT.out hb'.size
            clear hr' hb' hx a0 a1 a2 f0 f1 f2 z0 z1 z2 g0 g1 g2 HI HLT
            go_wp2_with fail
            go_roundw
            case rel => exact ⟨k + 1, by omega, by go_num, (by show b2 < _; simpa [World.setCell] using HLT2.out), ao3, m3, c3, by rw [HP.out, HIN.out]; exact HI2.out⟩
            case measure => simp [RowKit.intOf]; omega
          · have t2 : ((bs e).toList == [46, 46]) = false := by rw [bs_list]; simpa using h3
            have HNM := Lib.hid (show Pl.Nm e from ⟨h1, h2, h3, HEK.out⟩)
            clear h1 h2 h3
            go_wp2_with fail
            refine (child_c Q _ e wr HNM.out (by have := HPN.out; omega) (fun b hb => ⟨HS.out b (Nat.le_trans HI.out.low.size hb), by have := HI.out.size; omega, by have := HI.out.size; omega⟩) ⟨_, rfl, HI.out.rd⟩).mono ?_
            rintro x w2 ⟨⟨v', rfl, nv', rfl, hr'⟩, hb'⟩
            obtain ⟨ao3, m3, c3, rfl⟩ := hr'.slice
            obtain ⟨⟨y0, y1, y2⟩, k0, k1, k2⟩ := row3 ((hb'.block _ (by have := HI.out.size; omega)).trans HI.out.row)
            have HI2 := Lib.hid (HI.out.set hb' HLT.out HB2.out hr')
            have HLT2 : Hid (b2 < w2.heap.size) := Nat.lt_of_lt_of_le HLT.out hb'.size
            clear hr' hb' hx a0 a1 a2 f0 f1 f2 z0 z1 z2 g0 g1 g2 HI HLT
            go_wp2_with fail
            go_roundw
            case rel => exact ⟨k + 1, by omega, by go_num, (by show b2 < _; simpa [World.setCell] using HLT2.out), ao3, m3, c3, by rw [HP.out]; exact HI2.out⟩
            case measure => simp [RowKit.intOf]; omega
    · have HQ : Hid (Pl.along P (es.take k) = F) := by
        show _ = _
        rw [HF.out, List.take_of_length_le (by have := HN.out; omega)]
      generalize Pl.along P (es.take k) = Q at *
      go_wp2_with fail
      refine bodyPost_ret (ret_place rfl _ _ (w.heap.size + 1) _ rfl (set3 HI.out.zero) rfl) rfl ?_
      refine ⟨⟨_, rfl, .slice ao2 m2 c2, by rw [← HQ.out], ?_⟩, ((HI.out.low.setCell (by simp) _).setCell (by simp) _).setCell (by simp) _⟩
      rw [← HQ.out]
      exact (((HI.out.rd.set _ _ (by simp)).set _ _ (by simp)).set _ _ (by simp)).mono fun b _ hb => hb.1

set_option maxHeartbeats 1000000 in
theorem to_c (s : ByteArray) (w : World) (hs : s.size ≤ 274877906944) :
    Calls Try.prog 26 #[.string s] w fun e w' => (∃ v', e = .returned v' ∧ PV (w.heap.size ≤ ·) w' v' (Pl.to s.data.toList)) ∧ Below w.heap.size w w' := by
  have HC := Lib.hid (follow_c (S := fun b => w.heap.size + 1 ≤ b) (Pl.start s.data.toList) (.agg #[.bool (Pl.isR s.data.toList), .int .i64 (0 : Nat), .slice none 0 0]) s (w.alloc (.cells #[.bool false, .int .i64 0, .slice none 0 0] 34))
    (by show 0 + 0 + _ ≤ _; omega) (fun b hb => by simpa using hb) ⟨_, rfl, Rd.nil _ _⟩)
  rw [show Pl.follow (Pl.start s.data.toList) s.data.toList = Pl.to s.data.toList from rfl] at HC
  generalize Pl.to s.data.toList = F at *
  by_cases h0 : s.size = 0
  · have hi : Pl.isR s.data.toList = false := by
      rw [Lib.size_eq] at h0
      rw [List.length_eq_zero_iff.1 h0]
      rfl
    rw [hi] at HC
    have g0 : ¬ ((0 : Int) < (s.size : Int)) := by omega
    clear hi
    go_enter Try.func26, Try.ntmps26
    go_wp2_with fail
    refine HC.out.mono ?_
    rintro x w2 ⟨⟨v', rfl, nv', rfl, hr'⟩, hb'⟩
    obtain ⟨ao3, m3, c3, rfl⟩ := hr'.slice
    have hz : w2.heap[w.heap.size]? = some (.cells #[.bool false, .int .i64 0, .slice none 0 0] 34 (0, 0)) := (hb'.block _ (by simp)).trans (heap_alloc_new _ _)
    obtain ⟨⟨y0, y1, y2⟩, k0, k1, k2⟩ := row3 hz
    have HZ := Lib.hid hz
    have HB := Lib.hid (show Below w.heap.size w w2 from ((Below.refl _ _).alloc (Nat.le_refl _) _).trans (hb'.mono (by simp)))
    have HR := Lib.hid hr'
    clear hz hb' hr'
    go_wp2_with fail
    refine bodyPost_ret (ret_place rfl _ _ w.heap.size _ rfl (set3 HZ.out) rfl) rfl ?_
    refine ⟨⟨_, rfl, .slice ao3 m3 c3, rfl, ?_⟩, ((HB.out.setCell (by simp) _).setCell (by simp) _).setCell (by simp) _⟩
    exact (((HR.out.set _ _ (by simp)).set _ _ (by simp)).set _ _ (by simp)).mono fun b _ hb => by omega
  · have g0 : (0 : Int) < (s.size : Int) := by omega
    have hlt : 0 < s.size := by omega
    have hh : s.data.toList.head? = some (s[0]'hlt) := by rw [List.head?_eq_getElem?, bytes_at s 0 hlt]
    by_cases h47 : (((s[0]'hlt).toNat : Int) == 47) = true
    · have hi : Pl.isR s.data.toList = true := by
        have h1 : (((s[0]'hlt).toNat : Int)) = 47 := by simpa using h47
        have h2 : (s[0]'hlt).toNat = 47 := by omega
        unfold Pl.isR
        rw [hh, UInt8.toNat_inj.1 (h2.trans (by decide : (47 : Nat) = (47 : UInt8).toNat))]
        rfl
      rw [hi] at HC
      clear hi hh h0
      go_enter Try.func26, Try.ntmps26
      go_wp2_with fail
      refine HC.out.mono ?_
      rintro x w2 ⟨⟨v', rfl, nv', rfl, hr'⟩, hb'⟩
      obtain ⟨ao3, m3, c3, rfl⟩ := hr'.slice
      have hz : w2.heap[w.heap.size]? = some (.cells #[.bool false, .int .i64 0, .slice none 0 0] 34 (0, 0)) := (hb'.block _ (by simp)).trans (heap_alloc_new _ _)
      obtain ⟨⟨y0, y1, y2⟩, k0, k1, k2⟩ := row3 hz
      have HZ := Lib.hid hz
      have HB := Lib.hid (show Below w.heap.size w w2 from ((Below.refl _ _).alloc (Nat.le_refl _) _).trans (hb'.mono (by simp)))
      have HR := Lib.hid hr'
      clear hz hb' hr'
      go_wp2_with fail
      refine bodyPost_ret (ret_place rfl _ _ w.heap.size _ rfl (set3 HZ.out) rfl) rfl ?_
      refine ⟨⟨_, rfl, .slice ao3 m3 c3, rfl, ?_⟩, ((HB.out.setCell (by simp) _).setCell (by simp) _).setCell (by simp) _⟩
      exact (((HR.out.set _ _ (by simp)).set _ _ (by simp)).set _ _ (by simp)).mono fun b _ hb => by omega
    · have h47' : (((s[0]'hlt).toNat : Int) == 47) = false := by simpa using h47
      have hi : Pl.isR s.data.toList = false := by
        unfold Pl.isR
        rw [hh]
        refine beq_eq_false_iff_ne.2 fun e => h47 ?_
        rw [Option.some.inj e]
        decide
      rw [hi] at HC
      clear hi hh h0 h47
      go_enter Try.func26, Try.ntmps26
      go_wp2_with fail
      refine HC.out.mono ?_
      rintro x w2 ⟨⟨v', rfl, nv', rfl, hr'⟩, hb'⟩
      obtain ⟨ao3, m3, c3, rfl⟩ := hr'.slice
      have hz : w2.heap[w.heap.size]? = some (.cells #[.bool false, .int .i64 0, .slice none 0 0] 34 (0, 0)) := (hb'.block _ (by simp)).trans (heap_alloc_new _ _)
      obtain ⟨⟨y0, y1, y2⟩, k0, k1, k2⟩ := row3 hz
      have HZ := Lib.hid hz
      have HB := Lib.hid (show Below w.heap.size w w2 from ((Below.refl _ _).alloc (Nat.le_refl _) _).trans (hb'.mono (by simp)))
      have HR := Lib.hid hr'
      clear hz hb' hr'
      go_wp2_with fail
      refine bodyPost_ret (ret_place rfl _ _ w.heap.size _ rfl (set3 HZ.out) rfl) rfl ?_
      refine ⟨⟨_, rfl, .slice ao3 m3 c3, rfl, ?_⟩, ((HB.out.setCell (by simp) _).setCell (by simp) _).setCell (by simp) _⟩
      exact (((HR.out.set _ _ (by simp)).set _ _ (by simp)).set _ _ (by simp)).mono fun b _ hb => by omega
end Go.Proofs.Ytgkbkocakinmfaa
