/-
  PLAIN FACTS: to turn the bytes of two paths by a one-to-one map that keeps the slash and the dot is to turn the way between them. No program in sight. Conditions: none.
-/
import Derived.Test.YtgkbkocakinmfaaPlainRel
namespace Go.Proofs.Ytgkbkocakinmfaa
namespace Pl
open Go.Lib

structure Keeps (f : UInt8 → UInt8) : Prop where
  inj : ∀ a b, f a = f b → a = b
  s47 : f 47 = 47
  s46 : f 46 = 46

section
variable {f : UInt8 → UInt8} (hf : Keeps f)
include hf

theorem map_inj {a b : Bs} (h : a.map f = b.map f) : a = b := by
  induction a generalizing b with
  | nil =>
    cases b with
    | nil => rfl
    | cons y b => cases h
  | cons x a ih =>
    cases b with
    | nil => cases h
    | cons y b =>
      rw [List.map_cons, List.map_cons] at h
      obtain ⟨h1, h2⟩ := List.cons.inj h
      rw [hf.inj _ _ h1, ih h2]
theorem map_dot (e : Bs) : e.map f = [46] ↔ e = [46] :=
  ⟨fun h => map_inj hf (by rw [h, List.map_cons, hf.s46]; rfl), fun h => by rw [h, List.map_cons, hf.s46]; rfl⟩
theorem map_dd (e : Bs) : e.map f = [46, 46] ↔ e = [46, 46] :=
  ⟨fun h => map_inj hf (by rw [h, List.map_cons, List.map_cons, hf.s46]; rfl), fun h => by rw [h, List.map_cons, List.map_cons, hf.s46]; rfl⟩
theorem f47 (c : UInt8) : f c = 47 ↔ c = 47 := ⟨fun h => hf.inj _ _ (by rw [h, hf.s47]), fun h => by rw [h, hf.s47]⟩

theorem els_map (l : Bs) : Pa.els (l.map f) = (Pa.els l).map (List.map f) := by
  induction l with
  | nil => rfl
  | cons c t ih =>
    rw [List.map_cons]
    by_cases hc : c = 47
    · subst hc
      rw [hf.s47, Pa.els_slash, Pa.els_slash, ih]
      rfl
    · obtain ⟨e, r, he⟩ := Pa.els_ne t
      rw [Pa.els, if_neg (fun h => hc ((f47 hf c).1 h)), ih, he, Pa.els, if_neg hc, he]
      rfl

def turn (f : UInt8 → UInt8) (p : Place) : Place := ⟨p.rooted, p.up, p.names.map (List.map f)⟩

omit hf in
theorem turn_above (p : Place) : above (turn f p) = turn f (above p) := by
  unfold above turn
  simp only [List.map_eq_nil_iff]
  split
  · split
    · rfl
    · rfl
  · simp only [List.map_dropLast]
theorem turn_into (p : Place) (e : Bs) : into (turn f p) (e.map f) = turn f (into p e) := by
  unfold into
  by_cases h1 : e = [] ∨ e = [46]
  · rw [if_pos h1, if_pos (h1.elim (fun h => .inl (List.map_eq_nil_iff.2 h)) (fun h => .inr ((map_dot hf e).2 h)))]
  · rw [if_neg h1, if_neg (fun h => h1 (h.elim (fun h => .inl (List.map_eq_nil_iff.1 h)) (fun h => .inr ((map_dot hf e).1 h))))]
    by_cases h2 : e = [46, 46]
    · rw [if_pos h2, if_pos ((map_dd hf e).2 h2), turn_above]
    · rw [if_neg h2, if_neg (fun h => h2 ((map_dd hf e).1 h))]
      unfold turn
      simp
theorem turn_along (es : List Bs) : ∀ p : Place, along (turn f p) (es.map (List.map f)) = turn f (along p es) := by
  induction es with
  | nil => exact fun _ => rfl
  | cons e es ih => exact fun p => by rw [List.map_cons, along_cons, turn_into hf, ih, along_cons]
theorem isR_map (l : Bs) : isR (l.map f) = isR l := by
  cases l with
  | nil => rfl
  | cons c t =>
    unfold isR
    rw [List.map_cons, List.head?_cons, List.head?_cons, Bool.eq_iff_iff]
    simp only [Option.some_beq_some, beq_iff_eq]
    exact f47 hf c
theorem to_map (l : Bs) : to (l.map f) = turn f (to l) := by
  unfold to follow start
  rw [isR_map hf, els_map hf]
  exact turn_along hf _ ⟨isR l, 0, []⟩
theorem cp_map (A : List Bs) : ∀ B, cp (A.map (List.map f)) (B.map (List.map f)) = cp A B := by
  induction A with
  | nil => intro B; rw [List.map_nil, cp_nil_left, cp_nil_left]
  | cons a A ih =>
    intro B
    cases B with
    | nil => rw [List.map_nil, cp_nil_right, cp_nil_right]
    | cons b B =>
      rw [List.map_cons, List.map_cons]
      by_cases h : a = b
      · subst h; rw [cp_cons_same, cp_cons_same, ih]
      · rw [cp_cons_ne _ _ (fun e => h (map_inj hf e)), cp_cons_ne _ _ h]
theorem way_map (a b : Place) : way (turn f a) (turn f b) = (way a b).map (turn f) := by
  unfold way
  show (if a.rooted ≠ b.rooted ∨ b.up < a.up then none else if a.up < b.up then some (⟨false, (a.names.map (List.map f)).length + (b.up - a.up), b.names.map (List.map f)⟩ : Place)
    else some ⟨false, (a.names.map (List.map f)).length - cp (a.names.map (List.map f)) (b.names.map (List.map f)), (b.names.map (List.map f)).drop (cp (a.names.map (List.map f)) (b.names.map (List.map f)))⟩) = _
  rw [cp_map hf, List.length_map]
  split
  · rfl
  · split
    · rfl
    · rw [← List.map_drop]; rfl
theorem inter_map : ∀ es : List Bs, inter (es.map (List.map f)) = (inter es).map f
  | [] => rfl
  | [e] => by rw [List.map_cons, List.map_nil, inter_one, inter_one]
  | e :: x :: es => by
    have ih := inter_map (x :: es)
    show inter (e.map f :: x.map f :: es.map (List.map f)) = _
    rw [inter_cons]
    rw [List.map_cons] at ih
    rw [ih, inter_cons, List.map_append, List.map_cons, hf.s47]
theorem parts_map (p : Place) : parts (turn f p) = (parts p).map (List.map f) := by
  have e : ([46, 46] : Bs).map f = [46, 46] := (map_dd hf _).2 rfl
  unfold parts turn
  rw [List.map_append, List.map_replicate, e]
theorem text_map (p : Place) : text (turn f p) = (text p).map f := by
  have e : ([46] : Bs).map f = [46] := (map_dot hf _).2 rfl
  unfold text
  rw [parts_map hf, inter_map hf]
  by_cases h1 : p.rooted = true
  · rw [if_pos h1, if_pos (show (turn f p).rooted = true from h1), List.map_cons, hf.s47]
  · rw [if_neg h1, if_neg (show ¬ (turn f p).rooted = true from h1)]
    by_cases h2 : parts p = []
    · rw [if_pos h2, if_pos (List.map_eq_nil_iff.2 h2)]
      exact e.symm
    · rw [if_neg h2, if_neg (fun h => h2 (List.map_eq_nil_iff.1 h))]
theorem relS_map (b t : Bs) : relS (b.map f) (t.map f) = (relS b t).map f ∧ relOk (b.map f) (t.map f) = relOk b t := by
  unfold relS relOk
  rw [to_map hf, to_map hf, way_map hf]
  cases way (to b) (to t) with
  | none => exact ⟨rfl, rfl⟩
  | some r => exact ⟨text_map hf r, rfl⟩
end
end Pl
end Go.Proofs.Ytgkbkocakinmfaa
