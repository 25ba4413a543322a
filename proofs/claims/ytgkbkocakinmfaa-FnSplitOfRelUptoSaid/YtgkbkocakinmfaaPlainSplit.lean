/-
  PLAIN FACTS ON Split, Dir and Base of paths, and on the ways between a path and what lies above it. No program in sight. Conditions: none.
-/
import Derived.Test.YtgkbkocakinmfaaPlainJoin
namespace Go.Proofs.Ytgkbkocakinmfaa
namespace Pl
open Go.Lib

theorem split_app (l : Bs) : (Pa.split l).1 ++ (Pa.split l).2 = l := List.take_append_drop _ _
theorem split_no47 (l : Bs) : 47 ∉ (Pa.split l).2 := by
  intro hm
  obtain ⟨j, hj⟩ := List.getElem?_of_mem hm
  unfold Pa.split at hj
  rw [List.getElem?_drop] at hj
  rcases Pa.lastIndexByte_spec l 47 with ⟨e, hn⟩ | ⟨i, e, _, hn⟩
  · exact hn _ hj
  · refine hn _ ?_ hj
    rw [e]
    omega
/-- the first part is empty, or ends in a slash -/
theorem split_head (l : Bs) : (Pa.split l).1 = [] ∨ ∃ d, (Pa.split l).1 = d ++ [47] := by
  unfold Pa.split
  rcases Pa.lastIndexByte_spec l 47 with ⟨e, _⟩ | ⟨i, e, hi, _⟩
  · left; rw [e]; rfl
  · right
    refine ⟨l.take i, ?_⟩
    show l.take (Pa.lastIndexByte l 47 + 1).toNat = _
    rw [e, show ((i : Int) + 1).toNat = i + 1 by omega, List.take_add_one, hi]
    rfl
theorem to_split (l : Bs) (h : Nm (Pa.split l).2) : to l = ⟨(to (Pa.split l).1).rooted, (to (Pa.split l).1).up, (to (Pa.split l).1).names ++ [(Pa.split l).2]⟩ := by
  have ha := split_app l
  generalize (Pa.split l).2 = f at *
  rcases split_head l with hd | ⟨d, hd⟩
  · rw [hd] at ha ⊢
    have e : l = f := by rw [← ha]; rfl
    subst e
    have hr : isR l = false := by
      unfold isR
      cases l with
      | nil => rfl
      | cons c t =>
        have hc : c ≠ 47 := fun e => h.2.2.2 (by rw [e]; simp)
        simpa using hc
    unfold to follow start
    rw [hr, els_one h.2.2.2, along_cons, along_nil, into_nm _ h]
    rfl
  · rw [hd] at ha ⊢
    have e1 : l = d ++ 47 :: f := by rw [← ha]; simp
    have e2 : isR l = isR (d ++ [47]) := by
      rw [e1]
      unfold isR
      cases d <;> rfl
    unfold to follow start
    rw [e2, e1, Pa.els_app, els_one h.2.2.2, along_append, show d ++ [47] = d ++ 47 :: [] from rfl, Pa.els_app, along_append, along_cons, along_nil, into_nm _ h]
    show _ = (⟨(along (along _ (Pa.els d)) [[]]).rooted, (along (along _ (Pa.els d)) [[]]).up, (along (along _ (Pa.els d)) [[]]).names ++ [f]⟩ : Place)
    rw [along_cons, into_nil, along_nil]
theorem way_child (A : Place) (f : Bs) : way A ⟨A.rooted, A.up, A.names ++ [f]⟩ = some ⟨false, 0, [f]⟩ := by
  rw [way_eq (a := A) (b := ⟨A.rooted, A.up, A.names ++ [f]⟩) rfl rfl]
  have h : cp A.names (A.names ++ [f]) = A.names.length := by
    have := cp_app A.names [] [f]
    rw [List.append_nil, cp_nil_left] at this
    exact this
  rw [h]
  simp
theorem way_parent (A : Place) (f : Bs) : way ⟨A.rooted, A.up, A.names ++ [f]⟩ A = some ⟨false, 1, []⟩ := by
  rw [way_eq (a := ⟨A.rooted, A.up, A.names ++ [f]⟩) (b := A) rfl rfl]
  have h : cp (A.names ++ [f]) A.names = A.names.length := by
    rw [cp_comm]
    have := cp_app A.names [] [f]
    rw [List.append_nil, cp_nil_left] at this
    exact this
  rw [h]
  simp
theorem text_one (f : Bs) : text ⟨false, 0, [f]⟩ = f := by
  unfold text parts
  simp [inter_one]
theorem relS_child {d p f : Bs} (hp : to p = ⟨(to d).rooted, (to d).up, (to d).names ++ [f]⟩) : relS d p = f ∧ relOk d p = true ∧ relS p d = [46, 46] ∧ relOk p d = true := by
  have h1 : way (to d) (to p) = some ⟨false, 0, [f]⟩ := by rw [hp]; exact way_child _ _
  have h2 : way (to p) (to d) = some ⟨false, 1, []⟩ := by rw [hp]; exact way_parent _ _
  exact ⟨(relS_some h1).1.trans (text_one f), (relS_some h1).2, (relS_some h2).1, (relS_some h2).2⟩
theorem room_child {d p f : Bs} (hp : to p = ⟨(to d).rooted, (to d).up, (to d).names ++ [f]⟩) : (∀ r, way (to d) (to p) = some r → r.up ≤ 35184372088832) ∧ (∀ r, way (to p) (to d) = some r → r.up ≤ 35184372088832) := by
  constructor
  · intro r hr
    rw [hp, way_child] at hr
    rw [← Option.some.inj hr]
    exact Nat.zero_le _
  · intro r hr
    rw [hp, way_parent] at hr
    rw [← Option.some.inj hr]
    decide

theorem last_inter : ∀ (e : Bs) (es : List Bs), (∀ x, x ∈ e :: es → El x) → ∃ (y : Bs) (c : UInt8), inter (e :: es) = y ++ [c] ∧ c ≠ 47
  | e, [], h => by
    obtain ⟨h1, h2⟩ := h e (by simp)
    refine ⟨e.dropLast, e.getLast h1, by rw [inter_one, List.dropLast_concat_getLast], fun hc => h2 ?_⟩
    rw [← hc]
    exact List.getLast_mem h1
  | e, x :: es, h => by
    obtain ⟨y, c, hy, hc⟩ := last_inter x es (fun z hz => h z (by simp [List.mem_cons.1 hz]))
    exact ⟨e ++ 47 :: y, c, by rw [inter_cons, hy]; simp, hc⟩
theorem trim_text {A : Place} (h : Good A) : text A = [47] ∨ Pa.trimSlashes (text A) = text A := by
  have key : ∀ (y : Bs) (c : UInt8), c ≠ 47 → Pa.trimSlashes (y ++ [c]) = y ++ [c] := by
    intro y c hc
    unfold Pa.trimSlashes
    rw [List.reverse_append, List.reverse_singleton, List.singleton_append, List.dropWhile_cons_of_neg (by simpa using hc), List.reverse_cons, List.reverse_reverse]
  unfold text
  cases hp : parts A with
  | nil =>
    split
    · exact .inl rfl
    · exact .inr rfl
  | cons e es =>
    obtain ⟨y, c, hy, hc⟩ := last_inter e es (fun x hx => parts_el h x (by rw [hp]; exact hx))
    split
    · right
      rw [hy, ← List.cons_append]
      exact key _ _ hc
    · rw [if_neg (by simp), hy]
      exact .inr (key _ _ hc)
/-- Base of a clean path: a slash, or what Split has behind the last one -/
theorem base_clean (p : Bs) : Pa.base (Pa.clean p) = [47] ∨ (Pa.base (Pa.clean p) = (Pa.split (Pa.clean p)).2 ∧ (Pa.split (Pa.clean p)).2 ≠ []) := by
  rw [clean_eq]
  have hg := good_to p
  have hne := text_ne_nil hg
  rcases trim_text hg with h | h
  · left; rw [h]; decide
  · unfold Pa.base
    rw [if_neg hne, h]
    by_cases hf : (Pa.split (text (to p))).2 = []
    · left; rw [if_pos hf]
    · right; rw [if_neg hf]; exact ⟨rfl, hf⟩
end Pl
end Go.Proofs.Ytgkbkocakinmfaa
