/-
  laws.FnRelChainOfRoots returns true at every slice of paths. Conditions: the paths, with one byte for each, are no longer than 2^20 bytes together.
-/
import Derived.Test.YtgkbkocakinmfaaOwn
import Derived.Test.YtgkbkocakinmfaaPlainChain
namespace Go.Proofs.Ytgkbkocakinmfaa
open Go.RowKit Go.Lib

/-- the slice that the loop has gathered: the start, and the ways so far -/
def ws (s : ByteArray) (r : Nat → ByteArray) (k : Nat) : List ByteArray := s :: (List.range k).map r
theorem ws_len (s : ByteArray) (r : Nat → ByteArray) (k : Nat) : (ws s r k).length = k + 1 := by unfold ws; simp
theorem ws_ne (s : ByteArray) (r : Nat → ByteArray) (k : Nat) : ws s r k ≠ [] := fun e => by cases e
theorem ws_succ (s : ByteArray) (r : Nat → ByteArray) (k : Nat) : ws s r (k + 1) = ws s r k ++ [r k] := by unfold ws; rw [List.range_succ, List.map_append]; rfl
theorem ws_lens (s : ByteArray) (r : Nat → ByteArray) (k : Nat) : Lib.lens ((ws s r k).map (·.data.toList)) = s.size + ((List.range k).map (fun j => (r j).size)).sum := by
  unfold ws Lib.lens
  rw [List.map_cons, List.map_cons, List.sum_cons, List.map_map, List.map_map, ← Lib.size_eq]
  rfl

theorem chainR_walk (ao : Option Addr) (len cap : Nat) (p q r : Nat → ByteArray) (j : ByteArray) (w : World) (hL : Lies w ao len p) (hlen : len ≤ 1048576) (hp : ∀ k, k < len → (p k).size ≤ 1048576) (hq0 : q 0 = ⟨#[47]⟩)
    (hq : ∀ k, k < len → q (k + 1) = ⟨#[47]⟩ ++ p k) (R : ∀ k, k < len → RelC (q k) (⟨#[47]⟩ ++ p k) (r k) true) (JL : JoinL (ws ⟨#[47]⟩ r len) j) (C : CleanC (q len) j) :
    Calls Try.prog 8 #[.slice ao len cap] w fun e w' => e = .returned (.bool true) ∧ Below w.heap.size w w' := by
  have HL := Lib.hid hL
  have HP := Lib.hid hp
  have HQ := Lib.hid hq
  have HR := Lib.hid R
  have HQ0 := Lib.hid hq0
  have hjj := beq_true j
  have HB0 := Lib.hid ((Below.refl w.heap.size w).alloc (Nat.le_refl _) (.cells #[.string ⟨#[47]⟩] 9))
  have HO0 : Hid (Owns (w.alloc (.cells #[.string ⟨#[47]⟩] 9)) w.heap.size (.slice (some ⟨w.heap.size, 0, none⟩) 1 1) (ws ⟨#[47]⟩ r 0)) := Owns.new w w.heap.size (Nat.le_refl _) [⟨#[47]⟩] (by simp [maxLen])
  clear hL hp hq R hq0
  go_enter Try.func8, Try.ntmps8
  go_wp2_with fail
  go_loopw [13, 3, 4] (fun v13 v3 v4 wr => ∃ k : Nat, k ≤ len ∧ v13 = .int .i64 k ∧ v3 = .string (q k) ∧ Hid (Owns wr w.heap.size v4 (ws ⟨#[47]⟩ r k)) ∧ Hid (Below w.heap.size w wr)) (fun v13 _ _ _ => len - (RowKit.intOf v13).toNat)
  case atStart => exact ⟨0, Nat.zero_le _, rfl, by rw [HQ0.out], HO0, HB0⟩
  case round =>
    clear HO0 HB0
    obtain ⟨k, hk, rfl, rfl, HO, HB⟩ := hrel
    by_cases hlt : k < len
    · obtain ⟨b, off, rfl, hb, hx⟩ := (HL.out.below HB.out) k hlt
      have hps := HP.out k hlt
      have Rk := HR.out k hlt
      have HQ1 := Lib.hid (HQ.out k hlt)
      have HWS := Lib.hid (ws_succ ⟨#[47]⟩ r k)
      generalize p k = pk at hx hps Rk HQ1
      generalize q k = qk at Rk
      generalize r k = rk at Rk HWS
      clear hb
      go_wp2_with fail
      refine (Rk _).mono ?_
      rintro x w1 ⟨rfl, hb1⟩
      have HB1 := Lib.hid (HB.out.trans (hb1.mono HB.out.size))
      have HO1 : Hid (Seen (w1.alloc (.cells #[.string rk] 9)) w.heap.size u4 (ws ⟨#[47]⟩ r k)) := .inr ((HO.out.below hb1).below ((Below.refl _ _).alloc (Nat.le_refl _) _))
      clear hb1 HO HB hx
      go_wp2_with (at_builtin; refine append_seen _ rfl _ _ rfl w.heap.size _ (ws ⟨#[47]⟩ r k) rfl HO1.out ⟨w1.heap.size, 0, none⟩ 1 [rk] (by simp) rfl ?c1 ?c2 ?c3 ?_)
      case c1 =>
        intro i z hi
        match i, hi with
        | 0, hi =>
          have : z = .string rk := by simpa [strs] using hi.symm
          rw [this]
          first | rfl | (rw [add_at, World.cell?_alloc_new]; rfl)
      case c2 => rw [ws_len]; simp; omega
      case c3 => have := HB1.out.size; simp; omega
      · intro v' w2 hown hb2
        have HB2 := Lib.hid ((HB1.out.alloc HB1.out.size (.cells #[.string rk] 9)).trans hb2)
        have HO2 : Hid (Owns w2 w.heap.size v' (ws ⟨#[47]⟩ r (k + 1))) := by
          show Owns _ _ _ _
          rw [HWS.out]
          exact hown
        clear hown hb2 HO1 HB1
        go_wp2_with fail
        go_roundw
        case rel => exact ⟨k + 1, by omega, by go_num, by rw [HQ1.out], HO2, HB2⟩
        case measure => simp [RowKit.intOf]; omega
    · obtain rfl : k = len := by omega
      generalize q k = qk at C
      go_wp2_with fail
      refine (JL _ _ _ HO.out).mono ?_
      rintro x w1 ⟨rfl, hb1⟩
      have HB1 := Lib.hid (HB.out.trans (hb1.mono HB.out.size))
      clear hb1 HB
      go_wp2_with fail
      refine (C _).mono ?_
      rintro e w2 ⟨rfl, hb2⟩
      have HB2 := Lib.hid (HB1.out.trans (hb2.mono HB1.out.size))
      clear hb2 HB1
      go_wp2_with fail
      go_ret
      exact ⟨rfl, HB2.out⟩

theorem fnRelChainOfRoots_walk (ao : Option Addr) (len cap : Nat) (p : Nat → ByteArray) (w : World) (hL : Lies w ao len p) (hs : ((List.range len).map (fun k => (p k).size + 1)).sum ≤ 1048576) :
    Calls Try.prog 8 #[.slice ao len cap] w fun e w' => e = .returned (.bool true) ∧ Below w.heap.size w w' := by
  have hpk : ∀ k, k < len → (p k).size + 1 ≤ 1048576 := fun k hk => Nat.le_trans (Pl.one_le_sum (fun k => (p k).size + 1) len k hk) hs
  have hsum := Pl.sum_lin (fun k => (p k).size) 1 1 len
  simp only [Nat.one_mul] at hsum
  have hlen : len ≤ 1048576 := by omega
  let q : Nat → ByteArray := fun k => match k with | 0 => ⟨#[47]⟩ | j + 1 => ⟨#[47]⟩ ++ p j
  have qz : (q 0).size = 1 := rfl
  have qs1 : ∀ k, (q (k + 1)).size = (p k).size + 1 := fun k => by show (⟨#[47]⟩ ++ p k : ByteArray).size = _; rw [app_size]; show 1 + _ = _; omega
  have ql : ∀ k, ∃ x, (q k).data.toList = 47 :: x := fun k => by
    cases k with
    | zero => exact ⟨[], rfl⟩
    | succ k => exact ⟨(p k).data.toList, by show (⟨#[47]⟩ ++ p k : ByteArray).data.toList = _; rw [app_list]; rfl⟩
  have qr : ∀ k, (Pl.to (q k).data.toList).rooted = true := fun k => by
    obtain ⟨x, hx⟩ := ql k
    rw [Pl.to_rooted, hx]
    rfl
  have qsz : ∀ k, k ≤ len → (q k).size ≤ 1048576 := fun k hk => by
    cases k with
    | zero => show 1 ≤ _; omega
    | succ k => rw [qs1]; exact hpk k (by omega)
  have hway : ∀ k, ∃ r, Pl.way (Pl.to (q k).data.toList) (Pl.to (q (k + 1)).data.toList) = some r := fun k =>
    ⟨_, Pl.way_eq ((qr k).trans (qr (k + 1)).symm) (((Pl.good_to _).up0 (qr k)).trans ((Pl.good_to _).up0 (qr (k + 1))).symm)⟩
  let r : Nat → Pl.Place := fun k => Classical.choose (hway k)
  have hr : ∀ k, Pl.way (Pl.to (q k).data.toList) (Pl.to (q (k + 1)).data.toList) = some (r k) := fun k => Classical.choose_spec (hway k)
  have hch := Pl.chain (q := fun k => (q k).data.toList) (r := r) len (fun k _ => hr k)
  have rsz : ∀ k, k < len → (bs (Pl.text (r k))).size ≤ 3 * (q k).size + (4 * (q (k + 1)).size + 12) := fun k _ => by
    have := way_size (hr k)
    omega
  have e1 := Pl.sum_range_le (fun k => (bs (Pl.text (r k))).size) (fun k => 3 * (q k).size + (4 * (q (k + 1)).size + 12)) len rsz
  rw [Pl.sum_add (fun k => 3 * (q k).size) (fun k => 4 * (q (k + 1)).size + 12), Pl.sum_lin (fun k => (q (k + 1)).size)] at e1
  have e2 := Pl.sum_lin (fun k => (q k).size) 3 0 len
  simp only [Nat.add_zero, Nat.zero_mul] at e2
  have e3 := Pl.sum_shift (fun k => (q k).size) len
  have e4 : (List.range len).map (fun k => (q (k + 1)).size) = (List.range len).map (fun k => (p k).size + 1) := List.map_congr_left fun k _ => qs1 k
  have e5 : ((fun k => (q k).size) 0) = 1 := rfl
  rw [e4] at e1 e3
  rw [e2] at e1
  have JL := joinL_c (ws ⟨#[47]⟩ (fun k => bs (Pl.text (r k))) len) (ws_ne _ _ _) (by rw [ws_lens, ws_len]; show 1 + _ + _ ≤ _; omega)
  have e6 : (ws ⟨#[47]⟩ (fun k => bs (Pl.text (r k))) len).map (·.data.toList) = [47] :: (List.range len).map (fun k => Pl.text (r k)) := by
    unfold ws
    rw [List.map_cons, List.map_map]
    rfl
  rw [e6, Pl.join_cons _ _ (by simp)] at JL
  have e7 : Pl.to [47] = Pl.to ((fun k => (q k).data.toList) 0) := rfl
  rw [e7, hch] at JL
  exact chainR_walk ao len cap p q (fun k => bs (Pl.text (r k))) _ w hL hlen (fun k hk => by have := hpk k hk; omega) rfl (fun k _ => rfl) (fun k hk => rel_some (by have := qsz k (by omega); omega) (by have := qsz (k + 1) (by omega); show (q (k + 1)).size ≤ _; omega) (hr k)) JL
    (clean_c _ (by have := qsz len (Nat.le_refl _); omega))
end Go.Proofs.Ytgkbkocakinmfaa
