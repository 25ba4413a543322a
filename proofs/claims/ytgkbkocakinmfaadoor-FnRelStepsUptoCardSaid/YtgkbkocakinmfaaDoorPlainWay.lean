/-
  PLAIN FACTS ON A WAY GONE STEP BY STEP: one comes to no place twice. No program in sight. Conditions: none.
-/
import Derived.Test.YtgkbkocakinmfaaDoorPlainDist
namespace Go.Proofs.YtgkbkocakinmfaaDoor
namespace Pl
open Go.Lib

def at' (A : Place) (es : List Bs) (k : Nat) : Place := along A (es.take k)
theorem at_zero (A : Place) (es : List Bs) : at' A es 0 = A := rfl
theorem at_succ (A : Place) (es : List Bs) (k : Nat) (hk : k < es.length) : at' A es (k + 1) = into (at' A es k) es[k] := by
  unfold at'
  rw [List.take_succ_eq_append_getElem hk, along_append, along_cons, along_nil]
theorem at_end (A : Place) (es : List Bs) : at' A es es.length = along A es := by unfold at'; rw [List.take_length]
theorem good_at {A : Place} (hA : Good A) {es : List Bs} (h : ∀ e, e ∈ es → 47 ∉ e) (k : Nat) : Good (at' A es k) :=
  Good.along _ hA (fun e he => h e (List.mem_of_mem_take he))

theorem way_distinct {A T r : Place} (hT : Good T) (h : way A T = some r) {i j : Nat} (hij : i < j) (hj : j ≤ (parts r).length) : at' A (parts r) i ≠ at' A (parts r) j := by
  intro he
  have hg := good_way hT h
  have hel : ∀ e, e ∈ parts r → 47 ∉ e := fun e m => (parts_el hg e m).2
  have hel2 : ∀ e, e ∈ (parts r).take i ++ (parts r).drop j → 47 ∉ e := by
    intro e m
    rcases List.mem_append.1 m with m | m
    · exact hel e (List.mem_of_mem_take m)
    · exact hel e (List.mem_of_mem_drop m)
  have h0 : Good (⟨false, 0, []⟩ : Place) := ⟨fun _ => rfl, fun e he => by cases he⟩
  have hQ : Good (along ⟨false, 0, []⟩ ((parts r).take i ++ (parts r).drop j)) := Good.along _ h0 hel2
  have e1 := along_clean A ((parts r).take i ++ (parts r).drop j) ⟨false, 0, []⟩ h0 rfl hel2
  have e2 : along A ((parts r).take i ++ (parts r).drop j) = T := by
    rw [along_append]
    have : along A ((parts r).take i) = along A ((parts r).take j) := he
    rw [this, ← along_append, List.take_append_drop]
    exact along_way hT h
  have e3 : along A (parts (along ⟨false, 0, []⟩ ((parts r).take i ++ (parts r).drop j))) = T := e1.trans e2
  have k := way_fewest hQ h e3
  rw [parts_len (along _ _)] at k
  have c := along_count ((parts r).take i ++ (parts r).drop j) ⟨false, 0, []⟩
  rw [List.length_append, List.length_take, List.length_drop] at c
  simp only [List.length_nil] at c
  omega

/-- up first, and then down -/
theorem parts_up {r : Place} (hg : Good r) (k : Nat) (hk : k < (parts r).length) : (parts r)[k] = [46, 46] ↔ k < r.up := by
  have hl : (List.replicate r.up ([46, 46] : Bs)).length = r.up := List.length_replicate
  revert hk
  unfold parts
  intro hk
  by_cases h : k < r.up
  · have : (List.replicate r.up ([46, 46] : Bs) ++ r.names)[k] = [46, 46] := by
      rw [List.getElem_append_left (by rw [hl]; exact h)]
      exact List.getElem_replicate ..
    exact ⟨fun _ => h, fun _ => this⟩
  · refine ⟨fun e => ?_, fun e => absurd e h⟩
    exfalso
    rw [List.getElem_append_right (by omega)] at e
    exact (hg.nm _ (by rw [← e]; exact List.getElem_mem _)).2.2.1 rfl

/-! ### how long such texts are -/
theorem sumL_above (p : Place) : sumL (parts (above p)) ≤ sumL (parts p) + 3 := by
  unfold above
  split
  · rename_i h
    split
    · omega
    · unfold parts
      rw [sumL_append, sumL_append, sumL_dd, sumL_dd, h]
      simp only [sumL]
      omega
  · rename_i h
    unfold parts
    rw [sumL_append, sumL_append]
    have := sumL_append p.names.dropLast [p.names.getLast h]
    rw [List.dropLast_concat_getLast] at this
    show sumL (List.replicate p.up [46, 46]) + sumL p.names.dropLast ≤ _
    omega
theorem sumL_into (p : Place) (e : Bs) : sumL (parts (into p e)) ≤ sumL (parts p) + e.length + 3 := by
  unfold into
  split
  · omega
  · split
    · have := sumL_above p
      omega
    · unfold parts
      rw [sumL_append, sumL_append, sumL_append]
      simp only [sumL]
      omega
theorem sumL_along (es : List Bs) : ∀ p : Place, sumL (parts (along p es)) ≤ sumL (parts p) + 3 * sumL es := by
  induction es with
  | nil => exact fun p => by rw [along_nil]; omega
  | cons e es ih =>
    intro p
    have h1 := ih (into p e)
    have h2 := sumL_into p e
    rw [along_cons]
    simp only [sumL] at *
    omega
theorem sumL_take (es : List Bs) (k : Nat) : sumL (es.take k) ≤ sumL es := by
  have := sumL_append (es.take k) (es.drop k)
  rw [List.take_append_drop] at this
  omega
theorem at_text_len (A : Place) (es : List Bs) (k : Nat) : (text (at' A es k)).length ≤ sumL (parts A) + 3 * sumL es + 1 := by
  have h1 := (text_len (at' A es k)).1
  have h2 := sumL_along (es.take k) A
  have h3 := sumL_take es k
  unfold at' at *
  omega
theorem getD_len : ∀ (es : List Bs) (k : Nat), (es.getD k []).length ≤ sumL es
  | [], _ => by simp
  | e :: es, 0 => by simp [sumL]; omega
  | e :: es, k + 1 => by
    have := getD_len es k
    simp only [List.getD_cons_succ, sumL]
    omega
end Pl
end Go.Proofs.YtgkbkocakinmfaaDoor
