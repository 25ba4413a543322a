/-
  PLAIN FACTS ON WHAT LIES BELOW: one clean path, with a slash behind it, begins another one just if its elements begin the other's; and when a way goes up nowhere. No program in sight. Conditions: none.
-/
import Derived.Test.YtgkbkocakinmfaaDoorPlainDist
namespace Go.Proofs.YtgkbkocakinmfaaDoor
namespace Pl
open Go.Lib

theorem pre_slash : ∀ (x y u v : Bs), 47 ∉ x → 47 ∉ y → (x ++ 47 :: u) <+: (y ++ 47 :: v) → x = y ∧ u <+: v
  | [], [], u, v, _, _, h => ⟨rfl, (List.cons_prefix_cons.1 h).2⟩
  | [], d :: y, u, v, _, h2, h => absurd (List.cons_prefix_cons.1 h).1 (fun e => h2 (by simp [← e]))
  | c :: x, [], u, v, h1, _, h => absurd (List.cons_prefix_cons.1 h).1 (fun e => h1 (by simp [e]))
  | c :: x, d :: y, u, v, h1, h2, h => by
    obtain ⟨e, h'⟩ := List.cons_prefix_cons.1 h
    obtain ⟨e1, e2⟩ := pre_slash x y u v (fun m => h1 (by simp [m])) (fun m => h2 (by simp [m])) h'
    exact ⟨by rw [e, e1], e2⟩
theorem no_pre_slash (x y u : Bs) (h : 47 ∉ y) : ¬ (x ++ 47 :: u) <+: y := fun hp => h (hp.subset (by simp))

theorem inter_pre : ∀ (P Q : List Bs), P ≠ [] → (∀ e, e ∈ P → 47 ∉ e) → (∀ e, e ∈ Q → 47 ∉ e) → (inter P ++ [47] <+: inter Q ↔ ∃ R, R ≠ [] ∧ Q = P ++ R)
  | [], _, h, _, _ => absurd rfl h
  | [x], [], _, _, _ => ⟨fun h => absurd h (by simp [inter_nil, inter_one]), fun ⟨R, _, h⟩ => by simp at h⟩
  | [x], [y], _, _, hQ => ⟨fun h => absurd h (by rw [inter_one, inter_one]; exact no_pre_slash _ _ _ (hQ y (by simp))), fun ⟨R, h0, h⟩ => by simp at h; exact absurd h.2 h0⟩
  | [x], y :: z :: Q, _, hP, hQ => by
    rw [inter_one, inter_cons]
    constructor
    · intro h
      obtain ⟨e, _⟩ := pre_slash x y [] _ (hP x (by simp)) (hQ y (by simp)) h
      exact ⟨z :: Q, by simp, by rw [e]; rfl⟩
    · rintro ⟨R, h0, h⟩
      obtain ⟨e, _⟩ := List.cons.inj h
      rw [e]
      exact (List.prefix_append_right_inj x).2 (by simp)
  | x :: x' :: P, [], _, _, _ => ⟨fun h => absurd h (by simp [inter_nil, inter_cons]), fun ⟨R, _, h⟩ => by simp at h⟩
  | x :: x' :: P, [y], _, _, hQ => ⟨fun h => absurd h (by rw [inter_one, inter_cons, List.append_assoc]; exact no_pre_slash _ _ _ (hQ y (by simp))), fun ⟨R, h0, h⟩ => by simp at h⟩
  | x :: x' :: P, y :: z :: Q, _, hP, hQ => by
    have ih := inter_pre (x' :: P) (z :: Q) (by simp) (fun e he => hP e (by simp [he])) (fun e he => hQ e (by simp [he]))
    rw [inter_cons, inter_cons, List.append_assoc]
    constructor
    · intro h
      obtain ⟨e, h2⟩ := pre_slash x y _ _ (hP x (by simp)) (hQ y (by simp)) h
      obtain ⟨R, h0, hR⟩ := ih.1 h2
      exact ⟨R, h0, by rw [e, hR]; rfl⟩
    · rintro ⟨R, h0, h⟩
      obtain ⟨e, h2⟩ := List.cons.inj h
      rw [e]
      refine (List.prefix_append_right_inj x).2 ?_
      exact List.cons_prefix_cons.2 ⟨rfl, ih.2 ⟨R, h0, h2⟩⟩

/-- with a slash behind it, a clean path that is neither the root nor a dot begins another one just if its elements do -/
theorem text_pre {A B : Place} (hA : Good A) (hB : Good B) (hr : A.rooted = B.rooted) (hp : parts A ≠ []) :
    (text A ++ [47] <+: text B ↔ ∃ R, R ≠ [] ∧ parts B = parts A ++ R) := by
  have k := inter_pre (parts A) (parts B) hp (fun e he => (parts_el hA e he).2) (fun e he => (parts_el hB e he).2)
  cases hA' : A.rooted with
  | true =>
    have t1 : text A = 47 :: inter (parts A) := by unfold text; rw [if_pos hA']
    have t2 : text B = 47 :: inter (parts B) := by unfold text; rw [if_pos (hr ▸ hA')]
    rw [t1, t2]
    exact ⟨fun h => k.1 (List.cons_prefix_cons.1 h).2, fun h => List.cons_prefix_cons.2 ⟨rfl, k.2 h⟩⟩
  | false =>
    have t1 : text A = inter (parts A) := by unfold text; rw [hA', if_neg (by decide), if_neg hp]
    have hb' : B.rooted = false := hr ▸ hA'
    by_cases hpb : parts B = []
    · have t2 : text B = [46] := by unfold text; rw [hb', if_neg (by decide), if_pos hpb]
      rw [t1, t2]
      exact ⟨fun h => absurd h (no_pre_slash _ _ [] (by decide)), fun ⟨R, h0, h⟩ => by rw [hpb] at h; exact absurd (List.append_eq_nil_iff.1 h.symm).2 h0⟩
    · have t2 : text B = inter (parts B) := by unfold text; rw [hb', if_neg (by decide), if_neg hpb]
      rw [t1, t2]
      exact k

/-- a way goes up nowhere just if it goes from a place to one below it -/
theorem way_up0 {A B r : Place} (h : way A B = some r) : r.up = 0 ↔ A.up = B.up ∧ A.names <+: B.names := by
  have hr := (way_cases h).1
  have hu1 : ¬ B.up < A.up := fun e => by rw [way_none.2 (.inr e)] at h; cases h
  by_cases hu : A.up < B.up
  · rw [way_lt hr hu] at h
    rw [← Option.some.inj h]
    show A.names.length + (B.up - A.up) = 0 ↔ _
    exact ⟨fun e => by omega, fun e => by omega⟩
  · rw [way_eq hr (by omega)] at h
    rw [← Option.some.inj h]
    show A.names.length - cp A.names B.names = 0 ↔ _
    have l1 := cp_le_left A.names B.names
    constructor
    · intro e
      refine ⟨by omega, ?_⟩
      have k := take_cp A.names B.names
      rw [List.take_of_length_le (by omega)] at k
      rw [k]
      exact List.take_prefix _ _
    · rintro ⟨_, R, hR⟩
      have k := cp_app A.names [] R
      rw [List.append_nil, hR, cp_nil_left] at k
      omega

/-- the elements begin the other's -/
theorem parts_pre {A B : Place} (hA : Good A) (hB : Good B) (hn : A.names ≠ []) : (∃ R, parts B = parts A ++ R) ↔ A.up = B.up ∧ A.names <+: B.names := by
  constructor
  · rintro ⟨R, h⟩
    unfold parts at h
    obtain ⟨n, ns, hns⟩ : ∃ n ns, A.names = n :: ns := List.exists_cons_of_ne_nil hn
    have hnd : n ≠ [46, 46] := (hA.nm n (by rw [hns]; simp)).2.2.1
    have key : ∀ (i j : Nat) (X Y : List Bs), (∀ e, e ∈ X → e ≠ [46, 46]) → List.replicate i [46, 46] ++ X = List.replicate j [46, 46] ++ (n :: Y) → i = j ∧ X = n :: Y := by
      intro i
      induction i with
      | zero =>
        intro j X Y hX h
        cases j with
        | zero => exact ⟨rfl, by simpa using h⟩
        | succ j =>
          rw [List.replicate_succ] at h
          simp at h
          exact absurd rfl (hX [46, 46] (by rw [h]; simp))
      | succ i ih =>
        intro j X Y hX h
        cases j with
        | zero => rw [List.replicate_succ] at h; simp at h; exact absurd h.1.symm hnd
        | succ j =>
          rw [List.replicate_succ, List.replicate_succ] at h
          obtain ⟨e1, e2⟩ := ih j X Y hX (List.cons.inj h).2
          exact ⟨by omega, e2⟩
    rw [hns, List.append_assoc] at h
    obtain ⟨e1, e2⟩ := key B.up A.up B.names (ns ++ R) (fun e he => (hB.nm e he).2.2.1) h
    exact ⟨e1.symm, ⟨R, by rw [hns, e2]; rfl⟩⟩
  · rintro ⟨e, R, hR⟩
    exact ⟨R, by unfold parts; rw [e, ← hR, List.append_assoc]⟩

/-- whether the last element of a clean path goes up -/
theorem inter_suffix : ∀ (P : List Bs), (∀ e, e ∈ P → El e) → ([47, 46, 46] <:+ (47 :: inter P) ↔ P.getLast? = some [46, 46])
  | [], _ => by decide
  | [x], h => by
    rw [inter_one]
    have hx := (h x (by simp)).2
    constructor
    · rintro ⟨u, hu⟩
      cases u with
      | nil => exact congrArg some (List.cons.inj hu).2.symm
      | cons c u =>
        have := (List.cons.inj hu).2
        exact absurd (by rw [← this]; simp) hx
    · intro e
      have : x = [46, 46] := by simpa using e
      rw [this]
      exact List.suffix_refl _
  | x :: y :: P, h => by
    have ih := inter_suffix (y :: P) (fun e he => h e (by simp [he]))
    rw [inter_cons]
    have e1 : (x :: y :: P).getLast? = (y :: P).getLast? := by simp [List.getLast?_cons]
    rw [e1, ← ih]
    constructor
    · rintro ⟨u, hu⟩
      have hl := congrArg List.length hu
      obtain ⟨c, Z, hz⟩ : ∃ c Z, inter (y :: P) = c :: Z := List.exists_cons_of_ne_nil (fun e0 => by
        have := (inter_eq_nil (fun e he => h e (List.mem_cons_of_mem _ he)) (X := y :: P)).1 e0
        cases this)
      have hs : (47 :: inter (y :: P)) <:+ 47 :: (x ++ 47 :: inter (y :: P)) := ⟨47 :: x, by simp⟩
      have hs2 : [47, 46, 46] <:+ 47 :: (x ++ 47 :: inter (y :: P)) := ⟨u, hu⟩
      by_cases hlen : 3 ≤ (47 :: inter (y :: P)).length
      · exact List.suffix_of_suffix_length_le hs2 hs (by simpa using hlen)
      · have hZ : Z = [] := by
          rw [hz] at hlen
          simp only [List.length_cons] at hlen
          exact List.length_eq_zero_iff.1 (by omega)
        rw [hz, hZ] at hu hs2
        rw [show (47 : UInt8) :: (x ++ [47, c]) = (47 :: x) ++ [47, c] from rfl] at hu
        have h2 := congrArg (fun l => (l.reverse.take 2).reverse) hu
        simp at h2
    · intro hs
      exact hs.trans ⟨47 :: x, by simp⟩

theorem text_suffix {A : Place} (hA : Good A) : ([47, 46, 46] <:+ (47 :: text A)) ↔ A.names = [] ∧ A.up ≠ 0 := by
  have hlast : (parts A).getLast? = some [46, 46] ↔ A.names = [] ∧ A.up ≠ 0 := by
    unfold parts
    by_cases hn : A.names = []
    · rw [hn, List.append_nil]
      cases hu : A.up with
      | zero => simp
      | succ n => simp [List.replicate_succ']
    · constructor
      · intro h
        rw [List.getLast?_append, List.getLast?_eq_some_getLast hn, Option.some_or, ← List.getLast?_eq_some_getLast hn] at h
        have hm := List.mem_of_getLast? h
        exact absurd rfl (hA.nm _ hm).2.2.1
      · exact fun h => absurd h.1 hn
  rw [← hlast]
  have k := inter_suffix (parts A) (parts_el hA)
  cases hr : A.rooted with
  | true =>
    have t1 : text A = 47 :: inter (parts A) := by unfold text; rw [if_pos hr]
    rw [t1, ← k]
    constructor
    · rintro ⟨u, hu⟩
      cases u with
      | nil => exact absurd (List.cons.inj (List.cons.inj hu).2).1 (by decide)
      | cons c u => exact ⟨u, (List.cons.inj hu).2⟩
    · exact fun h => h.trans ⟨[47], rfl⟩
  | false =>
    by_cases hp : parts A = []
    · have t1 : text A = [46] := by unfold text; rw [hr, if_neg (by decide), if_pos hp]
      rw [t1, hp]
      decide
    · have t1 : text A = inter (parts A) := by unfold text; rw [hr, if_neg (by decide), if_neg hp]
      rw [t1]
      exact k

/-- the law's test, where the last element of base does not go up -/
theorem below_plain {A B r : Place} (hA : Good A) (hB : Good B) (h : way A B = some r) (hl : ¬ (A.names = [] ∧ A.up ≠ 0)) :
    r.up = 0 ↔ (text B = text A ∨ text A ++ [47] <+: text B ∨ text A = [47] ∨ (text A = [46] ∧ B.up = 0)) := by
  have hr := (way_cases h).1
  rw [way_up0 h]
  by_cases hn : A.names = []
  · have hu : A.up = 0 := Classical.byContradiction fun e => hl ⟨hn, e⟩
    have hp : parts A = [] := by unfold parts; rw [hn, hu]; rfl
    rw [hn, hu]
    cases hrt : A.rooted with
    | true =>
      have t1 : text A = [47] := by unfold text; rw [if_pos hrt, hp]; rfl
      have := hB.up0 (hr ▸ hrt)
      exact ⟨fun _ => .inr (.inr (.inl t1)), fun _ => ⟨this.symm, List.nil_prefix⟩⟩
    | false =>
      have t1 : text A = [46] := by unfold text; rw [hrt, if_neg (by decide), if_pos hp]
      rw [t1]
      constructor
      · exact fun e => .inr (.inr (.inr ⟨rfl, e.1.symm⟩))
      · rintro (e | e | e | e)
        · have := (text_dot hB).1 e
          rw [this]
          exact ⟨rfl, List.nil_prefix⟩
        · exfalso
          have hb : B.rooted = false := hr ▸ hrt
          by_cases hpb : parts B = []
          · have t2 : text B = [46] := by unfold text; rw [hb, if_neg (by decide), if_pos hpb]
            rw [t2] at e
            exact absurd e (by decide)
          · have t2 : text B = inter (parts B) := by unfold text; rw [hb, if_neg (by decide), if_neg hpb]
            rw [t2] at e
            have k := (inter_pre [[46]] (parts B) (by simp) (by simp) (fun e he => (parts_el hB e he).2)).1 (by rw [inter_one]; exact e)
            obtain ⟨R, _, hR⟩ := k
            exact parts_ne_dot hB [46] (by rw [hR]; simp) rfl
        · cases e
        · exact ⟨e.2.symm, List.nil_prefix⟩
  · have hp : parts A ≠ [] := by unfold parts; simp [hn]
    have n1 : text A ≠ [47] := fun e => by
      have h47 : text (⟨true, 0, []⟩ : Place) = [47] := rfl
      have := text_inj hA ⟨fun _ => rfl, fun e he => by cases he⟩ (e.trans h47.symm)
      rw [this] at hn
      exact hn rfl
    have n2 : text A ≠ [46] := fun e => by
      have := (text_dot hA).1 e
      rw [this] at hn
      exact hn rfl
    rw [← parts_pre hA hB hn, text_pre hA hB hr hp]
    constructor
    · rintro ⟨R, hR⟩
      by_cases h0 : R = []
      · refine .inl ?_
        rw [h0, List.append_nil] at hR
        rw [eq_of_parts hB hA hr.symm hR]
      · exact .inr (.inl ⟨R, h0, hR⟩)
    · rintro (e | ⟨R, _, e⟩ | e | e)
      · rw [text_inj hB hA e]; exact ⟨[], by simp⟩
      · exact ⟨R, e⟩
      · exact absurd e n1
      · exact absurd e.1 n2

theorem below_up {A B r : Place} (hA : Good A) (hB : Good B) (h : way A B = some r) (hl : A.names = [] ∧ A.up ≠ 0) :
    r.up = 0 ↔ (text B = text A ∨ (text A ++ [47] <+: text B ∧ B.up = A.up)) := by
  have hr := (way_cases h).1
  obtain ⟨hn, hu⟩ := hl
  rw [way_up0 h, hn]
  have hp : parts A ≠ [] := by
    unfold parts
    intro e
    have := (List.append_eq_nil_iff.1 e).1
    rw [List.replicate_eq_nil_iff] at this
    exact hu this
  rw [text_pre hA hB hr hp]
  have epa : parts A = List.replicate A.up [46, 46] := by unfold parts; rw [hn, List.append_nil]
  constructor
  · rintro ⟨e, _⟩
    by_cases h0 : B.names = []
    · exact .inl (by rw [show A = B from Place.eq_of hr e (hn.trans h0.symm)])
    · exact .inr ⟨⟨B.names, h0, by rw [epa]; unfold parts; rw [e]⟩, e.symm⟩
  · rintro (e | ⟨_, e⟩)
    · rw [text_inj hB hA e]; exact ⟨rfl, List.nil_prefix⟩
    · exact ⟨e.symm, List.nil_prefix⟩
end Pl
end Go.Proofs.YtgkbkocakinmfaaDoor
