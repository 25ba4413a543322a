/-
  PLAIN FACTS ON THE REFERENCE'S SEARCH: going up from base, the first place that lies above the target is as many steps up as the way goes. No program in sight. Conditions: none.
-/
import Derived.Test.YtgkbkocakinmfaaPlainDist
namespace Go.Proofs.Ytgkbkocakinmfaa
namespace Pl
open Go.Lib

theorem ups_zero (A : Place) : ups A 0 = A := by
  unfold ups
  refine Place.eq_of rfl ?_ ?_
  · show (if A.rooted = true then A.up else A.up + (0 - A.names.length)) = A.up
    split <;> omega
  · show A.names.take (A.names.length - 0) = A.names
    rw [Nat.sub_zero, List.take_length]
theorem ups_len (A : Place) (k : Nat) : (ups A k).names.length = A.names.length - k := by
  show (A.names.take (A.names.length - k)).length = _
  rw [List.length_take]
  omega

theorem search_end {A B r : Place} (hB : Good B) (h : way A B = some r) : B.rooted = (ups A r.up).rooted ∧ B.up = (ups A r.up).up ∧ (ups A r.up).names <+: B.names ∧ B.names.drop (ups A r.up).names.length = r.names := by
  have e := along_way hB h
  rw [along_parts A r (good_way hB h)] at e
  rw [← e]
  exact ⟨rfl, rfl, List.prefix_append _ _, List.drop_left⟩
theorem search_go {A B r : Place} (hB : Good B) (h : way A B = some r) (k : Nat) (hk : k < r.up) : ¬ (B.rooted = (ups A k).rooted ∧ B.up = (ups A k).up ∧ (ups A k).names <+: B.names) := by
  rintro ⟨h1, h2, R, h3⟩
  have hQ : Good (⟨false, k, R⟩ : Place) := ⟨fun e => (by cases e), fun e he => hB.nm e (by rw [← h3]; simp [he])⟩
  have e : along A (parts (⟨false, k, R⟩ : Place)) = B := by
    rw [along_parts A _ hQ]
    exact Place.eq_of h1.symm h2.symm h3
  have f := way_fewest hQ h e
  rw [parts_len, parts_len] at f
  have l1 := congrArg List.length h3
  rw [List.length_append, ups_len] at l1
  obtain ⟨_, _, ⟨R', hR'⟩, hd⟩ := search_end hB h
  have l2 := congrArg List.length hd
  rw [List.length_drop, ups_len] at l2
  have l3 := congrArg List.length hR'
  rw [List.length_append, ups_len] at l3
  simp only [] at f
  omega
theorem search_most {A B r : Place} (h : way A B = some r) : A.up ≤ B.up ∧ r.up ≤ A.names.length + (B.up - A.up) := by
  have hr := (way_cases h).1
  have hu1 : ¬ B.up < A.up := fun e => by rw [way_none.2 (.inr e)] at h; cases h
  refine ⟨by omega, ?_⟩
  by_cases hu : A.up < B.up
  · rw [way_lt hr hu] at h
    rw [← Option.some.inj h]
    exact Nat.le_refl _
  · rw [way_eq hr (by omega)] at h
    rw [← Option.some.inj h]
    show A.names.length - cp A.names B.names ≤ _
    omega
end Pl
end Go.Proofs.Ytgkbkocakinmfaa
