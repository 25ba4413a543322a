/-
  PLAIN FACTS ON LENGTHS: how long a cleaned path, a joined one and a way are at the most. No program in sight. Conditions: none.
-/
import Derived.Test.YtgkbkocakinmfaaPlainRel
import Derived.Lib.CleanLen
namespace Go.Proofs.Ytgkbkocakinmfaa
namespace Pl
open Go.Lib

theorem els_len (l : Bs) : (Pa.els l).length ≤ l.length + 1 := by
  induction l with
  | nil => simp [Pa.els]
  | cons c t ih =>
    by_cases hc : c = 47
    · subst hc
      rw [Pa.els_slash, List.length_cons, List.length_cons]
      omega
    · obtain ⟨e, r, h⟩ := Pa.els_ne t
      rw [Pa.els, if_neg hc, h]
      rw [h] at ih
      simp only [List.length_cons] at ih ⊢
      omega

theorem above_count (p : Place) : (above p).names.length + (above p).up ≤ p.names.length + p.up + 1 := by
  unfold above
  split
  · split
    · omega
    · simp only [List.length_nil]; omega
  · simp only [List.length_dropLast]; omega
theorem into_count (p : Place) (e : Bs) : (into p e).names.length + (into p e).up ≤ p.names.length + p.up + 1 := by
  unfold into
  split
  · omega
  · split
    · exact above_count p
    · simp only [List.length_append, List.length_cons, List.length_nil]; omega
theorem along_count (es : List Bs) : ∀ p : Place, (along p es).names.length + (along p es).up ≤ p.names.length + p.up + es.length := by
  induction es with
  | nil => exact fun p => Nat.le_refl _
  | cons e es ih =>
    intro p
    have h1 := ih (into p e)
    have h2 := into_count p e
    rw [along_cons, List.length_cons]
    omega
theorem to_count (l : Bs) : (to l).names.length + (to l).up ≤ l.length + 1 := by
  have h := along_count (Pa.els l) (start l)
  have h2 := els_len l
  have h3 : (start l).names.length + (start l).up = 0 := rfl
  unfold to follow
  omega

theorem way_up {a b r : Place} (h : way a b = some r) : r.up ≤ a.names.length + b.up := by
  obtain ⟨_, _, h1 | h1⟩ := way_cases h
  · rw [h1.2]; show a.names.length + (b.up - a.up) ≤ _; omega
  · obtain ⟨_, pre, X, Y, h2, _, _, rfl⟩ := h1
    show X.length ≤ _
    rw [h2, List.length_append]
    omega
theorem way_up_le {s t : Bs} {r : Place} (h : way (to s) (to t) = some r) : r.up ≤ s.length + t.length + 2 := by
  have h1 := way_up h
  have h2 := to_count s
  have h3 := to_count t
  omega

def sumL : List Bs → Nat
  | [] => 0
  | e :: es => e.length + 1 + sumL es
theorem sumL_append (A B : List Bs) : sumL (A ++ B) = sumL A + sumL B := by
  induction A with
  | nil => simp [sumL]
  | cons a A ih => rw [List.cons_append, sumL, sumL, ih]; omega
theorem sumL_dd (n : Nat) : sumL (List.replicate n [46, 46]) = 3 * n := by
  induction n with
  | zero => rfl
  | succ n ih => rw [List.replicate_succ, sumL, ih]; simp; omega
theorem inter_len : ∀ (e : Bs) (es : List Bs), (inter (e :: es)).length + 1 = sumL (e :: es)
  | e, [] => by rw [inter_one]; rfl
  | e, x :: es => by
    have ih := inter_len x es
    rw [inter_cons, sumL, List.length_append, List.length_cons, ← ih]
    omega
theorem inter_len_le (es : List Bs) : (inter es).length ≤ sumL es := by
  cases es with
  | nil => exact Nat.le_refl _
  | cons e es => have := inter_len e es; omega
theorem sumL_le (es : List Bs) : sumL es ≤ (inter es).length + 1 := by
  cases es with
  | nil => simp [sumL]
  | cons e es => have := inter_len e es; omega
theorem text_len (p : Place) : (text p).length ≤ sumL (parts p) + 1 ∧ sumL (parts p) ≤ (text p).length + 1 := by
  have h1 := inter_len_le (parts p)
  have h2 := sumL_le (parts p)
  unfold text
  split
  · simp only [List.length_cons]; omega
  · split
    · rename_i h; rw [h]; simp [sumL]
    · omega
theorem clean_len (l : Bs) : (Pa.clean l).length ≤ l.length + 1 := by
  by_cases h : l = []
  · subst h; exact Nat.le_refl _
  · have := Pa.clean_length_le h; omega
theorem rel_len (s t : Bs) : (relS s t).length ≤ 3 * s.length + 4 * t.length + 12 := by
  unfold relS
  cases h : way (to s) (to t) with
  | none => simp
  | some r =>
    have h1 := way_up_le h
    have h2 := (text_len r).1
    have h3 : sumL (parts r) = 3 * r.up + sumL r.names := by unfold parts; rw [sumL_append, sumL_dd]
    have h4 : sumL r.names ≤ sumL (to t).names := by
      obtain ⟨_, _, hc | hc⟩ := way_cases h
      · rw [hc.2]; exact Nat.le_refl _
      · obtain ⟨_, pre, X, Y, _, e, _, rfl⟩ := hc
        rw [e, sumL_append]; exact Nat.le_add_left _ _
    have h5 : sumL (to t).names ≤ sumL (parts (to t)) := by unfold parts; rw [sumL_append]; exact Nat.le_add_left _ _
    have h6 := (text_len (to t)).2
    have h7 := clean_len t
    rw [clean_eq] at h7
    show (text r).length ≤ _
    omega
theorem sumL_filter (xs : List Bs) : sumL (xs.filter (· ≠ [])) ≤ sumL xs := by
  induction xs with
  | nil => exact Nat.le_refl _
  | cons x xs ih =>
    by_cases hx : x = []
    · subst hx
      rw [List.filter_cons_of_neg (by simp), sumL]; omega
    · rw [List.filter_cons_of_pos (by simpa using hx), sumL, sumL]; omega
theorem join_len (xs : List Bs) : (Pa.join xs).length ≤ sumL xs + 1 := by
  unfold Pa.join
  split
  · simp
  · have h1 := clean_len (inter (xs.filter (· ≠ [])))
    have h2 := inter_len_le (xs.filter (· ≠ []))
    have h3 := sumL_filter xs
    show (Pa.clean (inter (xs.filter (· ≠ [])))).length ≤ _
    omega
end Pl
end Go.Proofs.Ytgkbkocakinmfaa
