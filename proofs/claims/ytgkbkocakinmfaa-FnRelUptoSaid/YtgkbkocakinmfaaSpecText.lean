/-
  The reference's Text and Clean: what they return, for every place and path. Conditions: as each theorem states them.
-/
import Derived.Test.YtgkbkocakinmfaaSpecSame
namespace Go.Proofs.Ytgkbkocakinmfaa
open Go.RowKit Go.Lib

theorem Pl.sumL_take' (es : List Pl.Bs) (k : Nat) : Pl.sumL (es.take k) ≤ Pl.sumL es := by
  have := Pl.sumL_append (es.take k) (es.drop k)
  rw [List.take_append_drop] at this
  omega
theorem Pl.sumL_at (es : List Pl.Bs) (k : Nat) (hk : k < es.length) : es[k].length ≤ Pl.sumL es := by
  have h := Pl.sumL_take' es (k + 1)
  rw [List.take_succ_eq_append_getElem hk, Pl.sumL_append] at h
  simp only [Pl.sumL] at h
  omega
theorem Pl.sumL_len (es : List Pl.Bs) : es.length ≤ Pl.sumL es := by
  induction es with
  | nil => exact Nat.le_refl _
  | cons e es ih => simp only [List.length_cons, Pl.sumL]; omega
theorem Pl.inter_take (es : List Pl.Bs) (k : Nat) (hk : k < es.length) : Pl.inter (es.take (k + 1)) = if k = 0 then es[k] else Pl.inter (es.take k) ++ 47 :: es[k] := by
  rw [List.take_succ_eq_append_getElem hk]
  by_cases h : k = 0
  · subst h
    rw [if_pos rfl, List.take_zero, List.nil_append, Pl.inter_one]
  · rw [if_neg h, Pl.inter_snoc _ _ (by
      intro e
      have := congrArg List.length e
      rw [List.length_take, List.length_nil] at this
      omega)]
theorem bs_app (a b : Pl.Bs) : bs a ++ bs b = bs (a ++ b) := by
  rw [← bs_of (bs a ++ bs b), app_list]
  rfl

set_option maxHeartbeats 2000000 in
theorem text_walk {S : Nat → Prop} (r : Bool) (u : Nat) (nv : Value) (l : List ByteArray) (ps : List Pl.Bs) (res : ByteArray) (w : World) (hres : res = bs (if r = true then 47 :: Pl.inter ps else if ps = [] then [46] else Pl.inter ps)) (hps : ps.map bs = List.replicate u (bs [46, 46]) ++ l) (hz : Pl.sumL ps ≤ 1099511627776)
    (hin : Pl.inter ps = [] ↔ ps = []) (hr : Rd S w nv l) :
    Calls Try.prog 39 #[.agg #[.bool r, .int .i64 u, nv]] w fun e w' =>
      e = .returned (.string res) ∧ Below w.heap.size w w' := by
  have hlen := Pl.sumL_len ps
  have hul : u + l.length = ps.length := by
    have := congrArg List.length hps
    rw [List.length_map, List.length_append, List.length_replicate] at this
    exact this.symm
  have hu : u ≤ 1099511627776 := by omega
  obtain ⟨ao, m, c, rfl⟩ := hr.slice
  have HR := Lib.hid hr
  have HRES := Lib.hid hres
  have HPS := Lib.hid hps
  have HIN := Lib.hid hin
  have HUL := Lib.hid hul
  have HZ := Lib.hid hz
  have HLEN := Lib.hid hlen
  have hB0 : Below w.heap.size w (w.alloc (.cells #[.bool r, .int .i64 u, .slice ao m c] 34)) := (Below.refl _ _).alloc (Nat.le_refl _) _
  have HB0 := Lib.hid hB0
  have HA := Lib.hid (heap_alloc_new w (.cells #[.bool r, .int .i64 u, .slice ao m c] 34))
  have HSZ : Hid ((w.alloc (.cells #[.bool r, .int .i64 u, .slice ao m c] 34)).heap.size = w.heap.size + 1) := by show _ = _; simp
  clear hr hps hin hul hz hlen hB0 hres
  go_enter Try.func39, Try.ntmps39
  go_wp2_with fail
  go_loopw [9, 3] (fun v9 v3 wr => ∃ k : Nat, k ≤ u ∧ v9 = .int .i64 k ∧ Hid (Owns wr (w.heap.size + 1) v3 (List.replicate k (bs [46, 46]))) ∧
      Hid (Below (w.heap.size + 1) (w.alloc (.cells #[.bool r, .int .i64 u, .slice ao m c] 34)) wr)) (fun v9 _ _ => u - (RowKit.intOf v9).toNat)
  case atStart => exact ⟨0, Nat.zero_le _, rfl, Owns.nil _ _, Below.refl _ _⟩
  case round =>
    obtain ⟨k, hk, rfl, HO, HB⟩ := hrel
    have hsz : w.heap.size + 1 ≤ wr.heap.size := by have := HB.out.size; have := HSZ.out; omega
    have HS1 := Lib.hid hsz
    clear hsz
    by_cases hlt : k < u
    · have HO1 : Hid (Seen (wr.alloc (.cells #[.string ⟨#[46, 46]⟩] 9)) (w.heap.size + 1) u3 (List.replicate k (bs [46, 46]))) := .inr (HO.out.below ((Below.refl _ _).alloc (Nat.le_refl _) _))
      clear HO
      go_wp2_with (at_builtin; refine append_seen _ rfl _ _ rfl (w.heap.size + 1) _ (List.replicate k (bs [46, 46])) rfl HO1.out ⟨wr.heap.size, 0, none⟩ 1 [⟨#[46, 46]⟩] (by simp) rfl ?c1 ?c2 ?c3 ?_)
      case c1 =>
        intro j z hj
        match j, hj with
        | 0, hj =>
          have : z = .string ⟨#[46, 46]⟩ := by simpa [strs] using hj.symm
          rw [this]
          first | rfl | (rw [add_at, World.cell?_alloc_new]; rfl)
      case c2 => rw [List.length_replicate]; simp; omega
      case c3 => have := HS1.out; simp; omega
      · intro v' w2 hown hb2
        have HB2 := Lib.hid ((HB.out.alloc (by have := HS1.out; omega) (.cells #[.string ⟨#[46, 46]⟩] 9)).trans hb2)
        have HO2 : Hid (Owns w2 (w.heap.size + 1) v' (List.replicate (k + 1) (bs [46, 46]))) := by
          show Owns _ _ _ _
          rw [List.replicate_succ']
          exact hown
        clear hown hb2 HO1
        go_wp2_with fail
        go_roundw
        case rel => exact ⟨k + 1, by omega, by go_num, HO2, HB2⟩
        case measure => simp [RowKit.intOf]; omega
    · obtain rfl : k = u := by omega
      have HRr := Lib.hid (show Rd S wr (.slice ao m c) l from (HR.out.below HB0.out).below (HB.out.mono (by have := HSZ.out; omega)))
      obtain ⟨⟨a0, a1, a2⟩, _⟩ := row3 ((HB.out.block _ (by omega)).trans HA.out)
      go_wp2_with (at_builtin; refine append_rd (S := S) _ rfl _ _ rfl (w.heap.size + 1) _ (List.replicate k (bs [46, 46])) rfl HO.out (.slice ao m c) l rfl HRr.out ?d1 ?d2 ?_)
      case d1 => rw [List.length_replicate]; have := HUL.out; have := HZ.out; have := HLEN.out; omega
      case d2 => exact HS1.out
      intro v2 w2 hown hb2
      have HB2 := Lib.hid (HB.out.trans hb2)
      rw [← HPS.out] at hown
      have hrd := hown.rd
      obtain ⟨ao2, c2, rfl, L2⟩ := hrd.lies
      rw [List.length_map] at L2 ⊢
      have HL2 := Lib.hid L2
      obtain ⟨⟨b0, b1, b2⟩, _⟩ := row3 ((HB2.out.block _ (by omega)).trans HA.out)
      have HBw := Lib.hid (HB0.out.trans (HB2.out.mono (by omega)))
      clear hown hb2 hrd L2 a0 a1 a2 HO HB HRr HS1
      have hnl : ps.length ≤ 1099511627776 := by have := HZ.out; have := HLEN.out; omega
      generalize hnn : ps.length = n at *
      have HN := Lib.hid hnn
      clear hnn
      go_wp2_with fail
      go_loop [21, 4] (fun v21 v4 => ∃ k : Nat, k ≤ n ∧ v21 = .int .i64 k ∧ v4 = .string (bs (Pl.inter (ps.take k)))) (fun v21 _ => n - (RowKit.intOf v21).toNat)
      case atStart => exact ⟨0, Nat.zero_le _, rfl, rfl⟩
      case round =>
        obtain ⟨i, hi, rfl, rfl⟩ := hrel
        by_cases hil : i < n
        · obtain ⟨bb, oo, rfl, _, hx⟩ := HL2.out i hil
          have hil' : i < ps.length := by have := HN.out; omega
          have hget : (ps.map bs).getD i ByteArray.empty = bs ps[i] := by
            rw [List.getD_eq_getElem?_getD, List.getElem?_map, List.getElem?_eq_getElem hil']
            rfl
          have hx' : w2.cell? ⟨bb, oo + i, none⟩ = some (.string (bs ps[i])) := by rw [← hget]; exact hx
          have HT := Lib.hid (Pl.inter_take ps i hil')
          have e1 := Pl.sumL_at ps i hil'
          have e2 := Pl.sumL_take' ps i
          have e3 := Pl.inter_len_le (ps.take i)
          have e4 := HZ.out
          have e5 : (bs ps[i]).size ≤ 1099511627776 := by rw [bs_size]; omega
          have e6 : (bs (Pl.inter (ps.take i))).size ≤ 1099511627776 := by rw [bs_size]; omega
          clear e1 e2 e3 e4 hx hget
          by_cases hi0 : i = 0
          · have HT' : Hid (bs (Pl.inter (ps.take (i + 1))) = bs (Pl.inter (ps.take i)) ++ bs ps[i]) := by
              show _ = _
              rw [HT.out, if_pos hi0, bs_app]
              subst hi0
              rfl
            have g0 : ¬ ((0 : Int) < (i : Int)) := by omega
            generalize bs ps[i] = q at hx' e5 HT'
            generalize bs (Pl.inter (ps.take i)) = o at e6 HT'
            clear hi0
            go_wp2_with fail
            go_round
            case rel => exact ⟨i + 1, by omega, by go_num, by rw [HT'.out]⟩
            case measure => simp [RowKit.intOf]; omega
          · have HT' : Hid (bs (Pl.inter (ps.take (i + 1))) = (bs (Pl.inter (ps.take i)) ++ ⟨#[47]⟩) ++ bs ps[i]) := by
              show _ = _
              rw [HT.out, if_neg hi0, show (⟨#[47]⟩ : ByteArray) = bs [47] from rfl, bs_app, bs_app, List.append_assoc]
              rfl
            have g0 : (0 : Int) < (i : Int) := by omega
            generalize bs ps[i] = q at hx' e5 HT'
            generalize bs (Pl.inter (ps.take i)) = o at e6 HT'
            clear hi0
            go_wp2_with fail
            go_round
            case rel => exact ⟨i + 1, by omega, by go_num, by rw [HT'.out]⟩
            case measure => simp [RowKit.intOf]; omega
        · have e0 : ps.take i = ps := List.take_of_length_le (by have := HN.out; omega)
          rw [e0]
          have e3 := Pl.inter_len_le ps
          have e4 := HZ.out
          have e6 : (bs (Pl.inter ps)).size ≤ 1099511627776 := by rw [bs_size]; omega
          clear e0 e3 e4
          cases r with
          | true =>
            have HX : Hid (res = ⟨#[47]⟩ ++ bs (Pl.inter ps)) := by
              show _ = _
              rw [HRES.out, if_pos rfl, show (⟨#[47]⟩ : ByteArray) = bs [47] from rfl, bs_app]
              rfl
            generalize bs (Pl.inter ps) = o at e6 HX
            go_wp2_with fail
            go_ret
            rw [HX.out]
            exact ⟨rfl, HBw.out⟩
          | false =>
            by_cases hp : ps = []
            · have t0 : (bs (Pl.inter ps)).toList.isEmpty = true := by rw [bs_list, HIN.out.2 hp]; rfl
              have HX : Hid (res = ⟨#[46]⟩) := by
                show _ = _
                rw [HRES.out, if_neg (by decide), if_pos hp]
                rfl
              generalize bs (Pl.inter ps) = o at e6 t0
              go_wp2_with fail
              go_ret
              rw [HX.out]
              exact ⟨rfl, HBw.out⟩
            · have t0 : (bs (Pl.inter ps)).toList.isEmpty = false := by
                rw [bs_list]
                simpa using fun e => hp (HIN.out.1 e)
              have HX : Hid (res = bs (Pl.inter ps)) := by
                show _ = _
                rw [HRES.out, if_neg (by decide), if_neg hp]
              generalize bs (Pl.inter ps) = o at e6 t0 HX
              go_wp2_with fail
              go_ret
              rw [HX.out]
              exact ⟨rfl, HBw.out⟩

theorem text_c {S : Nat → Prop} (P : Pl.Place) (hP : Pl.Good P) (v : Value) (w : World) (hz : Pl.sumL (Pl.parts P) ≤ 1099511627776) (h : PV S w v P) :
    Calls Try.prog 39 #[v] w fun e w' => e = .returned (.string (bs (Pl.text P))) ∧ Below w.heap.size w w' := by
  obtain ⟨nv, rfl, hr⟩ := h
  refine text_walk P.rooted P.up nv (P.names.map bs) (Pl.parts P) _ w rfl ?_ hz (Pl.inter_eq_nil (Pl.parts_el hP)) hr
  unfold Pl.parts
  rw [List.map_append, List.map_replicate]

theorem specClean_c (s : ByteArray) (w : World) (hs : s.size ≤ 17179869184) :
    Calls Try.prog 37 #[.string s] w fun e w' => e = .returned (.string (bs (Pl.text (Pl.to s.data.toList)))) ∧ Below w.heap.size w w' := by
  have hl := Pl.clean_len s.data.toList
  rw [Pl.clean_eq, ← Lib.size_eq] at hl
  have hz := (Pl.text_len (Pl.to s.data.toList)).2
  have T1 := Lib.hid (fun W => to_c s W (by omega))
  have T2 : Hid (∀ (W : World) (v : Value), PV (w.heap.size ≤ ·) W v (Pl.to s.data.toList) → Calls Try.prog 39 #[v] W fun e w' => e = .returned (.string (bs (Pl.text (Pl.to s.data.toList)))) ∧ Below W.heap.size W w') := fun W v hv =>
    text_c (Pl.to s.data.toList) (Pl.good_to _) v W (by omega) hv
  clear hl hz
  generalize bs (Pl.text (Pl.to s.data.toList)) = res at *
  generalize Pl.to s.data.toList = P at *
  have HB0 := Lib.hid (Below.refl w.heap.size w)
  go_enter Try.func37, Try.ntmps37
  go_wp2_with fail
  refine (T1.out _).mono ?_
  rintro x w1 ⟨⟨v, rfl, hv⟩, hb1⟩
  have HB1 := Lib.hid hb1
  have HV := Lib.hid hv
  clear hv hb1
  go_wp2_with fail
  refine (T2.out _ _ HV.out).mono ?_
  rintro e w2 ⟨rfl, hb2⟩
  have HB2 := Lib.hid (HB1.out.trans (hb2.mono HB1.out.size))
  clear hb2 HB1
  go_wp2_with fail
  go_ret
  exact ⟨rfl, HB2.out⟩
end Go.Proofs.Ytgkbkocakinmfaa
