/-
  The reference's Join: what it returns, for every slice of strings. Conditions: as each theorem states them.
-/
import Derived.Test.YtgkbkocakinmfaaSpecText
namespace Go.Proofs.Ytgkbkocakinmfaa
open Go.RowKit Go.Lib

theorem Pl.inter_nil' : ∀ (X : List Pl.Bs), (∀ e, e ∈ X → e ≠ []) → (Pl.inter X = [] ↔ X = [])
  | [], _ => by simp [Pl.inter_nil]
  | [x], h => by rw [Pl.inter_one]; exact ⟨fun e => absurd e (h x (by simp)), fun e => by cases e⟩
  | x :: y :: X, _ => by rw [Pl.inter_cons]; simp
theorem Pl.sumL_filt (p : Pl.Bs → Bool) : ∀ X : List Pl.Bs, Pl.sumL (X.filter p) ≤ Pl.sumL X
  | [] => Nat.le_refl _
  | x :: X => by
    have := Pl.sumL_filt p X
    by_cases h : p x = true
    · rw [List.filter_cons_of_pos h]; simp only [Pl.sumL]; omega
    · rw [List.filter_cons_of_neg h]; simp only [Pl.sumL]; omega

/-- what the loop has gathered -/
def gath (L : List Pl.Bs) (k : Nat) : List Pl.Bs := (L.take k).filter (· ≠ [])
theorem gath_ne (L : List Pl.Bs) (k : Nat) : ∀ e, e ∈ gath L k → e ≠ [] := fun e he => by
  have := (List.mem_filter.1 he).2
  simpa using this
theorem gath_skip (L : List Pl.Bs) (k : Nat) (hk : k < L.length) (h : L[k] = []) : gath L (k + 1) = gath L k := by
  unfold gath
  rw [List.take_succ_eq_append_getElem hk, List.filter_append, h]
  simp
theorem gath_add (L : List Pl.Bs) (k : Nat) (hk : k < L.length) (h : L[k] ≠ []) : gath L (k + 1) = gath L k ++ [L[k]] := by
  unfold gath
  rw [List.take_succ_eq_append_getElem hk, List.filter_append]
  congr 1
  rw [List.filter_cons_of_pos (by simpa using h), List.filter_nil]
theorem gath_size (L : List Pl.Bs) (k : Nat) : (Pl.inter (gath L k)).length ≤ Pl.sumL L := by
  have h1 := Pl.inter_len_le (gath L k)
  have h2 := Pl.sumL_filt (· ≠ []) (L.take k)
  have h3 := Pl.sumL_take' L k
  unfold gath at *
  omega
theorem join_gath (L : List Pl.Bs) (k : Nat) (hk : L.length ≤ k) : Pa.join L = if gath L k = [] then [] else Pl.text (Pl.to (Pl.inter (gath L k))) := by
  unfold Pa.join gath
  rw [List.take_of_length_le hk, Pl.clean_eq]
  rfl

set_option maxHeartbeats 1000000 in
theorem specJoin_c {S : Nat → Prop} (l : List ByteArray) (v : Value) (w : World) (hz : Pl.sumL (l.map (·.data.toList)) ≤ 8589934592) (h : Rd S w v l) :
    Calls Try.prog 21 #[v] w fun e w' => e = .returned (.string (bs (Pa.join (l.map (·.data.toList))))) ∧ Below w.heap.size w w' := by
  obtain ⟨ao, c, rfl, L⟩ := h.lies
  have hlen := Pl.sumL_len (l.map (·.data.toList))
  rw [List.length_map] at hlen
  have HJ := Lib.hid (fun k (hk : (l.map (·.data.toList)).length ≤ k) => join_gath (l.map (·.data.toList)) k hk)
  generalize hres : bs (Pa.join (l.map (·.data.toList))) = res
  have HRES := Lib.hid hres
  have HL := Lib.hid L
  have hn : l.length ≤ 8589934592 := by omega
  have HZ := Lib.hid hz
  have HLL : Hid ((l.map (·.data.toList)).length = l.length) := List.length_map ..
  have HGET : Hid (∀ k (hk : k < (l.map (·.data.toList)).length), l.getD k ByteArray.empty = bs (l.map (·.data.toList))[k]) := fun k hk => by
    rw [List.length_map] at hk
    rw [List.getD_eq_getElem?_getD, List.getElem?_eq_getElem hk, List.getElem_map]
    exact (bs_of _).symm
  clear hres L hlen hz h
  generalize l.map (·.data.toList) = LL at *
  generalize hll : l.length = n at *
  clear hll
  go_enter Try.func21, Try.ntmps21
  go_wp2_with fail
  go_loop [8, 3] (fun v8 v3 => ∃ k : Nat, k ≤ n ∧ v8 = .int .i64 k ∧ v3 = .string (bs (Pl.inter (gath LL k)))) (fun v8 _ => n - (RowKit.intOf v8).toNat)
  case atStart => exact ⟨0, Nat.zero_le _, rfl, rfl⟩
  case round =>
    obtain ⟨k, hk, rfl, rfl⟩ := hrel
    have e6 : (bs (Pl.inter (gath LL k))).size ≤ 1099511627776 := by
      have := gath_size LL k
      have := HZ.out
      rw [bs_size]
      omega
    by_cases hlt : k < n
    · obtain ⟨b, off, rfl, _, hx⟩ := HL.out k hlt
      have hk' : k < LL.length := by have := HLL.out; omega
      have hx' : w.cell? ⟨b, off + k, none⟩ = some (.string (bs LL[k])) := by rw [← HGET.out k hk']; exact hx
      have e5 : (bs LL[k]).size ≤ 1099511627776 := by
        have := Pl.sumL_at LL k hk'
        have := HZ.out
        rw [bs_size]
        omega
      clear hx
      by_cases he : LL[k] = []
      · have t0 : (bs LL[k]).toList.isEmpty = true := by rw [bs_list, he]; rfl
        have HG := Lib.hid (gath_skip LL k hk' he)
        generalize bs LL[k] = q at hx' e5 t0
        go_wp2_with fail
        go_round
        case rel => exact ⟨k + 1, by omega, by go_num, by rw [HG.out]⟩
        case measure => simp [RowKit.intOf]; omega
      · have t0 : (bs LL[k]).toList.isEmpty = false := by rw [bs_list]; simpa using he
        have hG := gath_add LL k hk' he
        by_cases h0 : gath LL k = []
        · have t1 : (bs (Pl.inter (gath LL k))).toList.isEmpty = true := by rw [bs_list, h0]; rfl
          have HT : Hid (bs (Pl.inter (gath LL (k + 1))) = bs (Pl.inter (gath LL k)) ++ bs LL[k]) := by
            show _ = _
            rw [hG, h0, bs_app, List.nil_append, Pl.inter_one]
            rfl
          clear hG h0 he
          generalize bs LL[k] = q at hx' e5 t0 HT
          generalize bs (Pl.inter (gath LL k)) = o at e6 t1 HT
          go_wp2_with fail
          go_round
          case rel => exact ⟨k + 1, by omega, by go_num, by rw [HT.out]⟩
          case measure => simp [RowKit.intOf]; omega
        · have t1 : (bs (Pl.inter (gath LL k))).toList.isEmpty = false := by
            rw [bs_list]
            simpa using fun e => h0 ((Pl.inter_nil' _ (gath_ne LL k)).1 e)
          have HT : Hid (bs (Pl.inter (gath LL (k + 1))) = (bs (Pl.inter (gath LL k)) ++ ⟨#[47]⟩) ++ bs LL[k]) := by
            show _ = _
            rw [hG, Pl.inter_snoc _ _ h0, show (⟨#[47]⟩ : ByteArray) = bs [47] from rfl, bs_app, bs_app, List.append_assoc]
            rfl
          clear hG h0 he
          generalize bs LL[k] = q at hx' e5 t0 HT
          generalize bs (Pl.inter (gath LL k)) = o at e6 t1 HT
          go_wp2_with fail
          go_round
          case rel => exact ⟨k + 1, by omega, by go_num, by rw [HT.out]⟩
          case measure => simp [RowKit.intOf]; omega
    · have hj := HJ.out k (by have := HLL.out; omega)
      by_cases h0 : gath LL k = []
      · have t1 : (bs (Pl.inter (gath LL k))).toList.isEmpty = true := by rw [bs_list, h0]; rfl
        have HX : Hid (res = ByteArray.empty) := by
          show _ = _
          rw [← HRES.out, hj, if_pos h0]
          rfl
        clear hj h0
        generalize bs (Pl.inter (gath LL k)) = o at e6 t1
        go_wp2_with fail
        go_ret
        rw [HX.out]
        exact ⟨rfl, Below.refl _ _⟩
      · have t1 : (bs (Pl.inter (gath LL k))).toList.isEmpty = false := by
          rw [bs_list]
          simpa using fun e => h0 ((Pl.inter_nil' _ (gath_ne LL k)).1 e)
        have HX : Hid (∀ W, Calls Try.prog 37 #[.string (bs (Pl.inter (gath LL k)))] W fun e w' => e = .returned (.string res) ∧ Below W.heap.size W w') := fun W => by
          have kk := specClean_c (bs (Pl.inter (gath LL k))) W (by have := gath_size LL k; have := HZ.out; rw [bs_size]; omega)
          rw [bs_data] at kk
          rw [← HRES.out, hj, if_neg h0]
          exact kk
        clear hj h0
        generalize bs (Pl.inter (gath LL k)) = o at e6 t1 HX
        go_wp2_with fail
        refine (HX.out _).mono ?_
        rintro x w1 ⟨rfl, hb1⟩
        have HB1 := Lib.hid hb1
        clear hb1
        go_wp2_with fail
        go_ret
        exact ⟨rfl, HB1.out⟩
end Go.Proofs.Ytgkbkocakinmfaa
