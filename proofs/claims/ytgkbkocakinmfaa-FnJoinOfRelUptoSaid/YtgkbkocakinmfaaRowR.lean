/-
  A slice of strings among a law's arguments, as one that can be read. For the rows. Conditions: none.
-/
import Derived.Test.YtgkbkocakinmfaaRowL
import Derived.Test.YtgkbkocakinmfaaSpecPlace
namespace Go.Proofs.Ytgkbkocakinmfaa
open Go.ChangeShapes Go.WideShapes Go.ChangeAt Go.RowKit

theorem rd_of {H : Type} {enc : TypeId × Value → H} {W : World} {ao : Option Addr} {len cap : Nat} {d : DataW H} {ps : List MemPlace}
    (h : DataW.Trod enc Try.prog W 0 (fun _ => true) true 27 (.slice ao len cap) d ps) (hlt : ∀ x ∈ ps, x.block < W.heap.size) :
    ∃ l : List ByteArray, Rd (fun _ => True) W (.slice ao len cap) l ∧ (l.map (fun s => s.size + 1)).sum + 1 ≤ Rows.uptoBulk d := by
  obtain ⟨fuel, hf⟩ := h
  rcases open_strings Try.underlying27 Try.underlying9 cells_str hf with ⟨hcs, hx⟩ | ⟨a, len', cap', ss, hcs, _, hl, hm, hz, hx, hcell, hws⟩
  · simp [Value.cells] at hcs
    obtain ⟨rfl, rfl, rfl⟩ := hcs
    simp only [Prod.mk.injEq] at hx
    obtain ⟨rfl, rfl⟩ := hx
    exact ⟨[], Rd.nil _ _, by simp [Rows.uptoBulk]⟩
  · simp [Value.cells] at hcs
    obtain ⟨rfl, rfl, rfl⟩ := hcs
    simp only [Prod.mk.injEq] at hx
    obtain ⟨rfl, rfl⟩ := hx
    simp only [if_true] at hz
    have htl : (ss.take len).length = len := by rw [List.length_take]; omega
    refine ⟨ss.take len, ?_, ?_⟩
    · by_cases h0 : len = 0
      · subst h0
        exact .inl ⟨by rw [List.take_zero], some a, cap, rfl, fun e => by cases e⟩
      · obtain ⟨b, off, spot⟩ := a
        have hspot : spot = none := by simpa [Addr.add] using World.cell?_spot (hcell 0 (by omega))
        subst hspot
        refine .inr ⟨fun e => h0 (by rw [← htl, e]; rfl), b, off, cap, by rw [htl], by rw [htl]; exact hl, trivial, hlt (.cell b off) (MemPlace.mem_row.2 ⟨0, by omega, by simp⟩), fun k hk => ?_⟩
        rw [htl] at hk
        rw [← add_plain, hcell k (by omega), List.getElem_take, List.getD_eq_getElem?_getD, List.getElem?_eq_getElem (by omega)]
        rfl
    · simp only [Rows.uptoBulk, bulk_strs]
      omega
end Go.Proofs.Ytgkbkocakinmfaa
