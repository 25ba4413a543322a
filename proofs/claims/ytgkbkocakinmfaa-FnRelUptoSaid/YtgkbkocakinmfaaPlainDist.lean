/-
  PLAIN FACTS ON HOW LONG WAYS ARE: there and back, one after the other, and any other path that leads to the same place. No program in sight. Conditions: none.
-/
import Derived.Test.YtgkbkocakinmfaaPlainSteps
namespace Go.Proofs.Ytgkbkocakinmfaa
namespace Pl
open Go.Lib

theorem way_both {A B r q : Place} (h1 : way A B = some r) (h2 : way B A = some q) : r.up = q.names.length ∧ q.up = r.names.length := by
  have hr := (way_cases h1).1
  have hu1 : ¬ B.up < A.up := fun e => by rw [way_none.2 (.inr e)] at h1; cases h1
  have hu2 : ¬ A.up < B.up := fun e => by rw [way_none.2 (.inr e)] at h2; cases h2
  rw [way_eq hr (by omega)] at h1
  rw [way_eq hr.symm (by omega)] at h2
  rw [← Option.some.inj h1, ← Option.some.inj h2]
  have e := cp_comm A.names B.names
  have l1 := cp_le_left A.names B.names
  have l2 := cp_le_right A.names B.names
  simp only [List.length_drop]
  omega

theorem le_cp : ∀ (k : Nat) (A C : List Bs), k ≤ A.length → k ≤ C.length → A.take k = C.take k → k ≤ cp A C
  | 0, _, _, _, _, _ => Nat.zero_le _
  | k + 1, [], _, h, _, _ => by simp at h
  | k + 1, _ :: _, [], _, h, _ => by simp at h
  | k + 1, a :: A, c :: C, h1, h2, h3 => by
    rw [List.take_succ_cons, List.take_succ_cons] at h3
    obtain ⟨e1, e2⟩ := List.cons.inj h3
    subst e1
    rw [cp_cons_same]
    have := le_cp k A C (by simpa using h1) (by simpa using h2) e2
    omega
theorem take_le {A B : List Bs} {k : Nat} (h : k ≤ cp A B) : A.take k = B.take k := by
  have := take_cp A B
  have h1 := congrArg (List.take k) this
  rw [List.take_take, List.take_take, Nat.min_eq_left h] at h1
  exact h1
theorem cp_tri (A B C : List Bs) : cp A B + cp B C ≤ B.length + cp A C := by
  have h1 := cp_le_right A B
  have h2 := cp_le_left B C
  have h3 := cp_le_left A B
  have h4 := cp_le_right B C
  have key : min (cp A B) (cp B C) ≤ cp A C :=
    le_cp _ A C (by omega) (by omega) ((take_le (Nat.min_le_left _ _)).trans (take_le (Nat.min_le_right _ _)))
  omega

theorem way_len {A B r : Place} (h : way A B = some r) : (parts r).length = if A.up < B.up then A.names.length + (B.up - A.up) + B.names.length else A.names.length + B.names.length - 2 * cp A.names B.names := by
  have hr := (way_cases h).1
  have hu1 : ¬ B.up < A.up := fun e => by rw [way_none.2 (.inr e)] at h; cases h
  have l1 := cp_le_left A.names B.names
  have l2 := cp_le_right A.names B.names
  by_cases hu : A.up < B.up
  · rw [way_lt hr hu] at h
    rw [← Option.some.inj h, parts_len, if_pos hu]
  · rw [way_eq hr (by omega)] at h
    rw [← Option.some.inj h, parts_len, if_neg hu]
    simp only [List.length_drop]
    omega

theorem way_tri {A B C r q : Place} (h1 : way A B = some r) (h2 : way B C = some q) : ∃ s, way A C = some s ∧ (parts s).length ≤ (parts r).length + (parts q).length := by
  have r1 := (way_cases h1).1
  have r2 := (way_cases h2).1
  have hu1 : ¬ B.up < A.up := fun e => by rw [way_none.2 (.inr e)] at h1; cases h1
  have hu2 : ¬ C.up < B.up := fun e => by rw [way_none.2 (.inr e)] at h2; cases h2
  cases hs : way A C with
  | none =>
    rcases way_none.1 hs with e | e
    · exact absurd (r1.trans r2) e
    · omega
  | some s =>
    refine ⟨s, rfl, ?_⟩
    rw [way_len h1, way_len h2, way_len hs]
    have a1 := cp_le_left A.names B.names
    have a2 := cp_le_right A.names B.names
    have b1 := cp_le_left B.names C.names
    have b2 := cp_le_right B.names C.names
    have c1 := cp_le_left A.names C.names
    have c2 := cp_le_right A.names C.names
    have t := cp_tri A.names B.names C.names
    by_cases e1 : A.up < B.up
    · rw [if_pos e1, if_pos (by omega)]
      by_cases e2 : B.up < C.up
      · rw [if_pos e2]; omega
      · rw [if_neg e2]; omega
    · rw [if_neg e1]
      by_cases e2 : B.up < C.up
      · rw [if_pos e2, if_pos (by omega)]; omega
      · rw [if_neg e2, if_neg (by omega)]; omega

/-- to follow a path is to follow it cleaned -/
theorem along_into (A P : Place) (hg : Good P) (hr : P.rooted = false) (e : Bs) (he : 47 ∉ e) : along A (parts (into P e)) = into (along A (parts P)) e := by
  unfold into
  by_cases h1 : e = [] ∨ e = [46]
  · rw [if_pos h1, if_pos h1]
  · rw [if_neg h1, if_neg h1]
    by_cases h2 : e = [46, 46]
    · rw [if_pos h2, if_pos h2]
      by_cases h3 : P.names = []
      · have ea : above P = ⟨false, P.up + 1, []⟩ := by unfold above; rw [if_pos h3, hr, if_neg (by decide)]
        have e1 : parts (⟨false, P.up + 1, []⟩ : Place) = parts P ++ [[46, 46]] := by
          unfold parts
          rw [h3, List.append_nil, List.append_nil, List.replicate_succ']
        rw [ea, e1, along_append, along_cons, along_nil, into_dd]
      · obtain ⟨ns, n, hn⟩ : ∃ ns n, P.names = ns ++ [n] := ⟨_, _, (List.dropLast_concat_getLast h3).symm⟩
        have hnm : Nm n := hg.nm n (by rw [hn]; simp)
        have ea : above P = ⟨P.rooted, P.up, ns⟩ := by unfold above; rw [if_neg h3, hn]; simp
        have e1 : parts (⟨P.rooted, P.up, ns⟩ : Place) = List.replicate P.up [46, 46] ++ ns := rfl
        have e2 : parts P = (List.replicate P.up [46, 46] ++ ns) ++ [n] := by
          unfold parts
          rw [hn]
          simp
        rw [ea, e1, e2, along_append A _ [n], along_cons, along_nil, into_nm _ hnm]
        generalize along A (List.replicate P.up [46, 46] ++ ns) = X
        unfold above
        rw [if_neg (by simp)]
        exact Place.eq_of rfl rfl (by simp)
    · rw [if_neg h2, if_neg h2]
      have hnm : Nm e := ⟨fun x => h1 (.inl x), fun x => h1 (.inr x), h2, he⟩
      have e1 : parts (⟨P.rooted, P.up, P.names ++ [e]⟩ : Place) = parts P ++ [e] := by unfold parts; simp
      rw [e1, along_append, along_cons, along_nil, into_nm _ hnm]
theorem along_clean (A : Place) (es : List Bs) : ∀ P : Place, Good P → P.rooted = false → (∀ e, e ∈ es → 47 ∉ e) → along A (parts (along P es)) = along (along A (parts P)) es := by
  induction es with
  | nil => exact fun _ _ _ _ => rfl
  | cons e es ih =>
    intro P hg hr h
    rw [along_cons, ih (into P e) (hg.into (h e (by simp))) (by rw [into_rooted]; exact hr) (fun x hx => h x (by simp [hx])), along_into A P hg hr e (h e (by simp)), along_cons]
theorem follow_clean (A : Place) (x : Bs) (hx : isR x = false) : follow A x = along A (parts (to x)) := by
  have h := along_clean A (Pa.els x) ⟨false, 0, []⟩ ⟨fun _ => rfl, fun e he => by cases he⟩ rfl (els_no47 x)
  have e : to x = along ⟨false, 0, []⟩ (Pa.els x) := by unfold to follow start; rw [hx]
  rw [e, h]
  rfl

/-- no path that leads there has fewer elements -/
theorem way_fewest {A T r Q : Place} (hQ : Good Q) (h : way A T = some r) (hq : along A (parts Q) = T) : (parts r).length ≤ (parts Q).length := by
  rw [way_len h, parts_len Q]
  rw [along_parts A Q hQ] at hq
  have hu : (ups A Q.up).up = T.up := by rw [← hq]
  have hn : (ups A Q.up).names ++ Q.names = T.names := by rw [← hq]
  have hk : (ups A Q.up).names = A.names.take (A.names.length - Q.up) := rfl
  rw [hk] at hn
  have hlen : T.names.length = (A.names.length - Q.up) + Q.names.length := by
    rw [← hn, List.length_append, List.length_take]
    omega
  have hcp : A.names.length - Q.up ≤ cp A.names T.names := by
    refine le_cp _ _ _ (by omega) (by omega) ?_
    rw [← hn, List.take_append_of_le_length (by rw [List.length_take]; omega), List.take_take, Nat.min_self]
  have l1 := cp_le_left A.names T.names
  have l2 := cp_le_right A.names T.names
  by_cases hr : A.rooted = true
  · have e1 : T.up = A.up := by rw [← hu]; unfold ups; simp [hr]
    rw [if_neg (by omega)]
    omega
  · have e1 : T.up = A.up + (Q.up - A.names.length) := by rw [← hu]; unfold ups; simp [hr]
    by_cases hlt : A.up < T.up
    · rw [if_pos hlt]; omega
    · rw [if_neg hlt]; omega

/-! ### elements that do not go up -/
def nmB (e : Bs) : Bool := decide (e ≠ [] ∧ e ≠ [46])
theorem along_level (es : List Bs) : ∀ P : Place, (∀ e, e ∈ es → e ≠ [46, 46]) → along P es = ⟨P.rooted, P.up, P.names ++ es.filter nmB⟩ := by
  induction es with
  | nil => exact fun P _ => by simp [along_nil]
  | cons e es ih =>
    intro P h
    rw [along_cons, ih _ (fun x hx => h x (by simp [hx]))]
    by_cases h1 : e = [] ∨ e = [46]
    · have hf : nmB e = false := by
        unfold nmB
        rcases h1 with h1 | h1 <;> simp [h1]
      rw [List.filter_cons_of_neg (by simp [hf])]
      unfold into
      rw [if_pos h1]
    · have hf : nmB e = true := by
        unfold nmB
        exact decide_eq_true ⟨fun x => h1 (.inl x), fun x => h1 (.inr x)⟩
      rw [List.filter_cons_of_pos (by simp [hf])]
      unfold into
      rw [if_neg h1, if_neg (h e (by simp))]
      simp
def level (x : Bs) : List Bs := (Pa.els x).filter nmB
theorem follow_level (P : Place) (x : Bs) (h : [46, 46] ∉ Pa.els x) : follow P x = ⟨P.rooted, P.up, P.names ++ level x⟩ :=
  along_level _ P (fun _ he e0 => h (e0 ▸ he))
theorem join_level (b x : Bs) (hb : b ≠ []) (h : [46, 46] ∉ Pa.els x) : to (Pa.join [b, x]) = ⟨(to b).rooted, (to b).up, (to b).names ++ level x⟩ ∧ Pa.join [b, x] = text ⟨(to b).rooted, (to b).up, (to b).names ++ level x⟩ := by
  have e : Pa.join [b, x] = text (follow (to b) x) := join_cons b [x] hb
  rw [e, to_text ((good_to b).follow x), follow_level _ x h]
  exact ⟨rfl, rfl⟩
theorem way_level (P : Place) (na nb : List Bs) : way ⟨P.rooted, P.up, P.names ++ na⟩ ⟨P.rooted, P.up, P.names ++ nb⟩ = way ⟨false, 0, na⟩ ⟨false, 0, nb⟩ := by
  rw [way_eq (a := ⟨P.rooted, P.up, P.names ++ na⟩) (b := ⟨P.rooted, P.up, P.names ++ nb⟩) rfl rfl, way_eq (a := ⟨false, 0, na⟩) (b := ⟨false, 0, nb⟩) rfl rfl, cp_app]
  simp only [List.length_append, Option.some.injEq, Place.mk.injEq, true_and]
  refine ⟨by omega, ?_⟩
  rw [List.drop_append]
  simp
end Pl
end Go.Proofs.Ytgkbkocakinmfaa
