/-
  laws.exchanged: a text in which two bytes are exchanged, for every text and every two bytes. Conditions: the text is no longer than 2^40 bytes.
-/
import Derived.Test.YtgkbkocakinmfaaImpl
import Derived.Lib.ConvBytes
namespace Go.Proofs.Ytgkbkocakinmfaa
open Go.RowKit

def sw (x y c : UInt8) : UInt8 := if c = x then y else if c = y then x else c
def swL (x y : UInt8) (l : List UInt8) (k : Nat) : List UInt8 := (l.take k).map (sw x y) ++ l.drop k

theorem swL_zero (x y : UInt8) (l : List UInt8) : swL x y l 0 = l := by simp [swL]
theorem swL_full (x y : UInt8) (l : List UInt8) : swL x y l l.length = l.map (sw x y) := by simp [swL]
theorem swL_len (x y : UInt8) (l : List UInt8) (k : Nat) : (swL x y l k).length = l.length := by simp [swL]; omega
theorem swL_at (x y : UInt8) (l : List UInt8) (k : Nat) (hk : k < l.length) : (swL x y l k)[k]? = some l[k] := by
  unfold swL
  rw [List.getElem?_append_right (by simp; omega)]
  simp only [List.length_map, List.length_take, List.getElem?_drop]
  rw [show k + (k - min k l.length) = k by omega, List.getElem?_eq_getElem hk]
theorem swL_succ (x y : UInt8) (l : List UInt8) (k : Nat) (hk : k < l.length) : swL x y l (k + 1) = (swL x y l k).set k (sw x y l[k]) := by
  apply List.ext_getElem?
  intro j
  unfold swL
  rw [List.getElem?_set]
  simp only [List.getElem?_append, List.length_map, List.length_take, List.getElem?_map, List.getElem?_take, List.getElem?_drop, List.length_append, List.length_drop]
  by_cases h1 : k = j
  · subst h1
    rw [if_pos (by omega), if_pos (by omega), if_pos rfl, if_pos (by omega), List.getElem?_eq_getElem hk]
    rfl
  · rw [if_neg h1]
    by_cases h2 : j < k
    · rw [if_pos (by omega), if_pos (by omega), if_pos (by omega), if_pos h2]
    · rw [if_neg (by omega), if_neg (by omega)]
      congr 1
      omega

theorem buf_set {w0 wr : World} {h N : Nat} {acc : List UInt8} (hb : Lib.Buf w0 wr h N acc) (k : Nat) (c : UInt8) (hk : k < acc.length) :
    Lib.Buf w0 (wr.setCell ⟨h, k, none⟩ (.int .u8 (c.toNat : Int))) h N (acc.set k c) := by
  have hN : k < N := Nat.lt_of_lt_of_le hk hb.fits
  obtain ⟨v, hv⟩ := Option.isSome_iff_exists.1 (hb.there k hN)
  have hsame := World.cell?_setCell_same wr ⟨h, k, none⟩ (.int .u8 (c.toNat : Int)) hv
  have hoth : ∀ j, j ≠ k → (wr.setCell ⟨h, k, none⟩ (.int .u8 (c.toNat : Int))).cell? ⟨h, j, none⟩ = wr.cell? ⟨h, j, none⟩ := fun j hj =>
    World.cell?_setCell_other wr ⟨h, k, none⟩ ⟨h, j, none⟩ _ (fun e => hj (by injection e with _ e2; exact e2.symm))
  refine ⟨hb.below.setCell (p := ⟨h, k, none⟩) (Nat.le_refl _) _, ?_, ?_, ?_, by rw [List.length_set]; exact hb.fits⟩
  · intro j hj
    by_cases e : j = k
    · subst e; rw [hsame]; rfl
    · rw [hoth j e]; exact hb.there j hj
  · intro j hj
    rw [World.frozen?_setCell]
    exact hb.free j hj
  · intro j x hx
    rw [List.getElem?_set] at hx
    by_cases e : k = j
    · subst e
      rw [if_pos rfl, if_pos hk] at hx
      rw [hsame, Option.some.inj hx]
    · rw [if_neg e] at hx
      rw [hoth j (Ne.symm e)]
      exact hb.holds j x hx

theorem buf_of_string (w : World) (e : TypeId) (s : ByteArray) : Lib.Buf w (Lib.bytesWorld w e s) w.heap.size s.size s.data.toList := by
  have hl : s.data.toList.length = s.size := (Lib.size_eq s).symm
  refine ⟨⟨rfl, rfl, rfl, ?_, fun k hk => Lib.bytesWorld_at_old w e s k hk⟩, ?_, ?_, ?_, by omega⟩
  · rw [Lib.bytesWorld_size]; omega
  · intro j hj
    rw [Lib.bytesWorld_cell w e s j hj]
    rfl
  · intro j hj
    have hz : s.size ≤ (Lib.bytesCells w e s).size := by
      unfold Lib.bytesCells
      rw [Array.size_append, Array.size_map]
      exact Nat.le_add_right _ _
    unfold World.frozen?
    simp only [Lib.bytesWorld_at_new]
    simp
    omega
  · intro j x hx
    have hj : j < s.size := by rw [← hl]; exact (List.getElem?_eq_some_iff.1 hx).1
    rw [Lib.bytesWorld_cell w e s j hj, List.getD, hx]
    rfl

set_option maxHeartbeats 1000000 in
theorem exchanged_any (s : ByteArray) (x y : UInt8) (w : World) (hs : s.size ≤ 1099511627776) :
    Calls Try.prog 27 #[.string s, .int .u8 (x.toNat : Int), .int .u8 (y.toNat : Int)] w fun e w' =>
      e = .returned (.string ⟨(s.data.toList.map (sw x y)).toArray⟩) ∧ Below w.heap.size w w' := by
  have hcv := Lib.run_convert_string_bytes (P := Try.prog) w 9 51 5 s (u := .string) Try.underlying9 Try.underlying51 Try.underlying5
  have HB0 := Lib.hid (buf_of_string w 5 s)
  generalize Lib.bytesWorld w 5 s = wb at hcv HB0
  generalize grownCap w s.size 0 5 = cap at hcv
  have hl : s.data.toList.length = s.size := (Lib.size_eq s).symm
  have HL := Lib.hid hl
  clear hl
  go_enter Try.func27, Try.ntmps27
  go_wp2_with fail
  clear hcv
  go_loopw [13] (fun v wr => ∃ k : Nat, k ≤ s.size ∧ v = .int .i64 k ∧ Hid (Lib.Buf w wr w.heap.size s.size (swL x y s.data.toList k))) (fun v _ => s.size - (RowKit.intOf v).toNat)
  case atStart => exact ⟨0, Nat.zero_le _, rfl, by rw [swL_zero]; exact HB0⟩
  case round =>
    clear HB0
    obtain ⟨k, hk, rfl, HB⟩ := hrel
    by_cases hlt : k < s.size
    · have hlt' : k < s.data.toList.length := by rw [HL.out]; exact hlt
      have hc := HB.out.holds k _ (swL_at x y s.data.toList k hlt')
      have hf := HB.out.free k hlt
      have hset := buf_set HB.out k (sw x y s.data.toList[k]) (by rw [swL_len]; exact hlt')
      rw [← swL_succ x y s.data.toList k hlt'] at hset
      have hnoset : sw x y s.data.toList[k] = s.data.toList[k] → Lib.Buf w wr w.heap.size s.size (swL x y s.data.toList (k + 1)) := by
        intro e
        have e2 : swL x y s.data.toList (k + 1) = swL x y s.data.toList k := by
          rw [swL_succ x y s.data.toList k hlt', e]
          apply List.ext_getElem?
          intro j
          rw [List.getElem?_set]
          by_cases hj : k = j
          · subst hj
            rw [if_pos rfl, if_pos (by rw [swL_len]; exact hlt'), swL_at x y s.data.toList k hlt']
          · rw [if_neg hj]
        rw [e2]
        exact HB.out
      generalize hcc : s.data.toList[k] = c at hc hset hnoset
      have HS := Lib.hid hset
      have HN := Lib.hid hnoset
      clear hset hnoset hcc hlt' HB
      by_cases hx : c = x
      · subst hx
        have e1 : sw c y c = y := by simp [sw]
        rw [e1] at HS
        have t1 : ((c.toNat : Int) == (c.toNat : Int)) = true := by simp
        clear e1 HN
        go_wp2_with fail
        go_roundw
        case rel => exact ⟨k + 1, by omega, by go_num, HS⟩
        case measure => simp [RowKit.intOf]; omega
      · have t1 : ((c.toNat : Int) == (x.toNat : Int)) = false := by rw [Lib.Pa.beq_lit]; simpa using hx
        by_cases hy : c = y
        · subst hy
          have e1 : sw x c c = x := by simp [sw, hx]
          rw [e1] at HS
          have t2 : ((c.toNat : Int) == (c.toNat : Int)) = true := by simp
          clear e1 HN hx
          go_wp2_with fail
          go_roundw
          case rel => exact ⟨k + 1, by omega, by go_num, HS⟩
          case measure => simp [RowKit.intOf]; omega
        · have t2 : ((c.toNat : Int) == (y.toNat : Int)) = false := by rw [Lib.Pa.beq_lit]; simpa using hy
          have HQ := Lib.hid (HN.out (by simp [sw, hx, hy]))
          clear HS HN hx hy
          go_wp2_with fail
          go_roundw
          case rel => exact ⟨k + 1, by omega, by go_num, HQ⟩
          case measure => simp [RowKit.intOf]; omega
    · obtain rfl : k = s.size := by omega
      have e0 : swL x y s.data.toList s.size = s.data.toList.map (sw x y) := by rw [← HL.out, swL_full]
      rw [e0] at HB
      have hq : (s.data.toList.map (sw x y)).length = s.size := by rw [List.length_map, HL.out]
      generalize hq0 : s.data.toList.map (sw x y) = q at HB hq
      have HQ0 := Lib.hid hq0
      clear hq0
      have hconv := run_convert_bytes_back (P := Try.prog) wr 51 9 5 ⟨w.heap.size, 0, none⟩ cap q Try.underlying51 Try.underlying5 Try.underlying9 (fun j hj => by
        have := HB.out.holds j q[j] (List.getElem?_eq_getElem hj)
        unfold Addr.add
        by_cases e0 : j = 0
        · subst e0; simpa using this
        · simpa [e0] using this)
      rw [hq] at hconv
      clear e0 hq
      go_wp2_with fail
      go_ret
      rw [HQ0.out]
      exact ⟨rfl, HB.out.below⟩

end Go.Proofs.Ytgkbkocakinmfaa
