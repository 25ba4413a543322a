/-
  What the laws' small functions steps, ups, goesUp and rooted return, as short words for the laws' walks. For every input shorter than 2^31 bytes, where the library's variable MaxLen holds an int.
-/
import Derived.Test.YtgkbkocakinmfaaDoorC
import Derived.Test.YtgkbkocakinmfaaDoorFnRelErrors
import Derived.Test.YtgkbkocakinmfaaDoorPlainDist
namespace Go.Proofs.YtgkbkocakinmfaaDoor
open Go.RowKit Go.Lib

def StepsC (s : ByteArray) (n : Nat) : Prop := ∀ W : World, Ml W → Calls Tryd.prog 19 #[.string s] W fun e w' => (∃ A c, e = .returned (.slice A n c)) ∧ Below W.heap.size W w'
def GoesC (s : ByteArray) (b : Bool) : Prop := ∀ W : World, Ml W → Calls Tryd.prog 23 #[.string s] W fun e w' => e = .returned (.bool b) ∧ Below W.heap.size W w'
def RootedC (s : ByteArray) (b : Bool) : Prop := ∀ W : World, Calls Tryd.prog 14 #[.string s] W fun e w' => e = .returned (.bool b) ∧ Below W.heap.size W w'

theorem rooted_c (s : ByteArray) : RootedC s (Pl.isR s.data.toList) := fun W => rooted_bel s W
theorem steps_c {A : Pl.Place} (h : Pl.Good A) (hr : A.rooted = false) (hs : (bs (Pl.text A)).size ≤ 2147483648) : StepsC (bs (Pl.text A)) (A.up + A.names.length) := fun W hm => by
  have k := steps_len (bs (Pl.text A)) W hm hs
  rw [bs_data, Pl.stepsL_text h hr, Pl.parts_len] at k
  exact k
theorem ups_c {A : Pl.Place} (h : Pl.Good A) (hs : (bs (Pl.text A)).size ≤ 2147483648) : Ups (bs (Pl.text A)) A.up := fun W hm => by
  have k := ups_any (bs (Pl.text A)) W hm hs
  rw [bs_data, Pl.upsN_text h] at k
  exact k

set_option maxHeartbeats 1000000 in
theorem goes_c (s : ByteArray) (hs : s.size ≤ 2147483648) : GoesC s (decide ([46, 46] ∈ Pa.els s.data.toList)) := by
  intro w hm
  have hc := split_any s w hm hs
  have hle := els_size s
  have hcell := fun j hj => strV_cell (Pa.els s.data.toList) w 9 j hj
  have hbel : Below w.heap.size w (w.alloc (.cells (strV (Pa.els s.data.toList)).toArray 9)) := (Below.refl _ _).alloc (Nat.le_refl _) _
  generalize Pa.els s.data.toList = l at *
  generalize w.alloc (.cells (strV l).toArray 9) = wa at hc hcell hbel
  have HC := Lib.hid hc
  have HCELL := Lib.hid hcell
  have HBEL := Lib.hid hbel
  generalize hd0 : decide ([46, 46] ∈ l) = d
  have HD0 := Lib.hid hd0
  clear hc hcell hbel hm hd0
  go_enter Tryd.func23, Tryd.ntmps23
  go_wp2_with fail
  refine HC.out.mono ?_
  rintro e w' ⟨rfl, rfl⟩
  go_wp2_with fail
  go_loop [8] (fun i => ∃ k : Nat, k ≤ l.length ∧ i = .int .i64 k ∧ Hid ([46, 46] ∉ l.take k)) (fun i => l.length - (RowKit.intOf i).toNat)
  case atStart => exact ⟨0, Nat.zero_le _, rfl, by show _ ∉ _; simp⟩
  case round =>
    obtain ⟨k, hk, rfl, HN⟩ := hrel
    by_cases hlt : k < l.length
    · have hx := HCELL.out k hlt
      by_cases hd : l[k] = [46, 46]
      · have ht : ((⟨l[k].toArray⟩ : ByteArray).toList == [46, 46]) = true := by rw [Lib.toList_data]; simpa using hd
        have HD := Lib.hid (show d = true from HD0.out.symm.trans (decide_eq_true (by rw [← hd]; exact List.getElem_mem hlt)))
        generalize hq : (⟨l[k].toArray⟩ : ByteArray) = q at hx ht
        clear hq hd
        go_wp2_with fail
        go_ret
        rw [HD.out]
        exact ⟨rfl, HBEL.out⟩
      · have ht : ((⟨l[k].toArray⟩ : ByteArray).toList == [46, 46]) = false := by rw [Lib.toList_data]; simpa using hd
        have HN' := Lib.hid (show [46, 46] ∉ l.take (k + 1) by
          rw [List.take_succ_eq_append_getElem hlt]
          intro hm
          rcases List.mem_append.1 hm with h | h
          · exact HN.out h
          · exact hd (List.mem_singleton.1 h).symm)
        generalize hq : (⟨l[k].toArray⟩ : ByteArray) = q at hx ht
        clear hq hd
        go_wp2_with fail
        go_round
        case rel => exact ⟨k + 1, by omega, by go_num, HN'⟩
        case measure => simp [RowKit.intOf]; omega
    · have HD := Lib.hid (show d = false from HD0.out.symm.trans (decide_eq_false (by
        have := HN.out
        rw [List.take_of_length_le (by omega)] at this
        exact this)))
      go_wp2_with fail
      go_ret
      rw [HD.out]
      exact ⟨rfl, HBEL.out⟩
end Go.Proofs.YtgkbkocakinmfaaDoor
