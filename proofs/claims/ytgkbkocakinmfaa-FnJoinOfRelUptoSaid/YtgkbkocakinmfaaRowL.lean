/-
  A slice of strings among a law's arguments: where its strings lie, and what they weigh. For the rows. Conditions: none.
-/
import Derived.Test.YtgkbkocakinmfaaRows
import Derived.Test.YtgkbkocakinmfaaOwn
import Derived.WalkKit
import Derived.ProofKit
import Derived.OpenShut
import Derived.SliceStrings
import Derived.ShutString
import Derived.JoinedCond
import Derived.SizedLaws
namespace Go.Proofs.Ytgkbkocakinmfaa
open Go.ChangeShapes Go.WideShapes Go.ChangeAt Go.RowKit

theorem laid : laidOutB Try.prog = true := by kernel_rfl
theorem cells_str : Try.prog.cellsOf 9 = 1 := by kernel_rfl
theorem bulk_strs {H : Type} : ∀ l : List ByteArray, Rows.uptoBulkAll (ChangeShapes.strs (H := H) l) = (l.map (fun s => s.size + 1)).sum
  | [] => rfl
  | s :: l => by
    have h := bulk_strs (H := H) l
    show Rows.uptoBulk (DataW.lit (H := H) (.string s.data.toList)) + Rows.uptoBulkAll (ChangeShapes.strs (H := H) l) = _
    rw [h]
    simp only [Rows.uptoBulk, Array.length_toList, List.map_cons, List.sum_cons]
    rfl
theorem range_take (ss : List ByteArray) (len : Nat) (h : len ≤ ss.length) : (List.range len).map (fun k => (ss.getD k ByteArray.empty).size + 1) = (ss.take len).map (fun s => s.size + 1) := by
  apply List.ext_getElem?
  intro i
  by_cases hi : i < len
  · have h1 : i < ss.length := by omega
    rw [List.getElem?_map, List.getElem?_map, List.getElem?_range hi, List.getElem?_take, if_pos hi, List.getElem?_eq_getElem h1]
    simp only [Option.map_some, Option.some.injEq]
    rw [List.getD_eq_getElem?_getD, List.getElem?_eq_getElem h1]
    rfl
  · rw [List.getElem?_eq_none (by simp; omega), List.getElem?_eq_none (by simp; omega)]

theorem lies_of {H : Type} {enc : TypeId × Value → H} {W : World} {ao : Option Addr} {len cap : Nat} {d : DataW H} {ps : List MemPlace}
    (h : DataW.Trod enc Try.prog W 0 (fun _ => true) true 27 (.slice ao len cap) d ps) (hlt : ∀ x ∈ ps, x.block < W.heap.size) :
    ∃ p : Nat → ByteArray, Lies W ao len p ∧ ((List.range len).map (fun k => (p k).size + 1)).sum + 1 ≤ Rows.uptoBulk d := by
  obtain ⟨fuel, hf⟩ := h
  rcases open_strings Try.underlying27 Try.underlying9 cells_str hf with ⟨hcs, hx⟩ | ⟨a, len', cap', ss, hcs, _, hl, hm, hz, hx, hcell, hws⟩
  · simp [Value.cells] at hcs
    obtain ⟨rfl, rfl, rfl⟩ := hcs
    simp only [Prod.mk.injEq] at hx
    obtain ⟨rfl, rfl⟩ := hx
    exact ⟨fun _ => ByteArray.empty, fun k hk => by omega, by simp [Rows.uptoBulk]⟩
  · simp [Value.cells] at hcs
    obtain ⟨rfl, rfl, rfl⟩ := hcs
    simp only [Prod.mk.injEq] at hx
    obtain ⟨rfl, rfl⟩ := hx
    simp only [if_true] at hz
    refine ⟨fun k => ss.getD k ByteArray.empty, ?_, ?_⟩
    · intro k hk
      obtain ⟨b, off, spot⟩ := a
      have hspot : spot = none := by simpa [Addr.add] using World.cell?_spot (hcell 0 (by omega))
      subst hspot
      refine ⟨b, off, rfl, hlt (.cell b off) (MemPlace.mem_row.2 ⟨0, by omega, by simp⟩), ?_⟩
      rw [← add_plain]
      exact hcell k (by omega)
    · rw [range_take ss len (by omega)]
      simp only [Rows.uptoBulk, bulk_strs]
      omega
end Go.Proofs.Ytgkbkocakinmfaa
