/-
  PLAIN FACTS ON SLASH PATHS, as lists of bytes: where a path leads (a place in a tree), the shortest text of a place, the way from one place to another one. No program in sight. Conditions: none.
-/
import Derived.Lib.CleanSame
import Derived.Lib.JoinSame2
namespace Go.Proofs.Ytgkbkocakinmfaa
namespace Pl
open Go.Lib

abbrev Bs := List UInt8

/-- from the root, or from an unknown place so many times up; then down by names -/
structure Place where
  rooted : Bool
  up : Nat
  names : List Bs

def Nm (e : Bs) : Prop := e ≠ [] ∧ e ≠ [46] ∧ e ≠ [46, 46] ∧ 47 ∉ e

structure Good (p : Place) : Prop where
  up0 : p.rooted = true → p.up = 0
  nm : ∀ e, e ∈ p.names → Nm e

def above (p : Place) : Place :=
  if p.names = [] then (if p.rooted = true then p else ⟨p.rooted, p.up + 1, []⟩) else ⟨p.rooted, p.up, p.names.dropLast⟩

def into (p : Place) (e : Bs) : Place :=
  if e = [] ∨ e = [46] then p else if e = [46, 46] then above p else ⟨p.rooted, p.up, p.names ++ [e]⟩

def along (p : Place) (es : List Bs) : Place := es.foldl into p
def follow (p : Place) (l : Bs) : Place := along p (Pa.els l)
def isR (l : Bs) : Bool := l.head? == some 47
def start (l : Bs) : Place := ⟨isR l, 0, []⟩
def to (l : Bs) : Place := follow (start l) l
def parts (p : Place) : List Bs := List.replicate p.up [46, 46] ++ p.names
def inter (es : List Bs) : Bs := ([47] : Bs).intercalate es
def text (p : Place) : Bs := if p.rooted = true then 47 :: inter (parts p) else if parts p = [] then [46] else inter (parts p)

theorem Place.eq_of {p q : Place} (h1 : p.rooted = q.rooted) (h2 : p.up = q.up) (h3 : p.names = q.names) : p = q := by
  cases p; cases q; simp_all

theorem along_nil (p : Place) : along p [] = p := rfl
theorem along_cons (p : Place) (e : Bs) (es : List Bs) : along p (e :: es) = along (into p e) es := rfl
theorem along_append (p : Place) (a b : List Bs) : along p (a ++ b) = along (along p a) b := List.foldl_append ..
theorem into_nil (p : Place) : into p [] = p := by simp [into]
theorem into_dot (p : Place) : into p [46] = p := by simp [into]
theorem into_dd (p : Place) : into p [46, 46] = above p := by simp [into]
theorem into_nm (p : Place) {e : Bs} (h : Nm e) : into p e = ⟨p.rooted, p.up, p.names ++ [e]⟩ := by
  obtain ⟨h1, h2, h3, _⟩ := h
  simp [into, h1, h2, h3]
theorem above_rooted (p : Place) : (above p).rooted = p.rooted := by
  unfold above
  split
  · split <;> rfl
  · rfl
theorem into_rooted (p : Place) (e : Bs) : (into p e).rooted = p.rooted := by
  unfold into
  split
  · rfl
  · split
    · exact above_rooted p
    · rfl
theorem along_rooted (es : List Bs) : ∀ p : Place, (along p es).rooted = p.rooted := by
  induction es with
  | nil => exact fun _ => rfl
  | cons e es ih => exact fun p => by rw [along_cons, ih, into_rooted]

theorem Good.above {p : Place} (h : Good p) : Good (above p) := by
  unfold Pl.above
  split
  · split
    · exact h
    · rename_i h1 h2
      exact ⟨fun e => absurd e h2, fun e he => by cases he⟩
  · exact ⟨h.up0, fun e he => h.nm e (List.dropLast_subset _ he)⟩
theorem Good.into {p : Place} (h : Good p) {e : Bs} (he : 47 ∉ e) : Good (into p e) := by
  unfold Pl.into
  split
  · exact h
  · rename_i h1
    split
    · exact h.above
    · rename_i h2
      refine ⟨h.up0, fun x hx => ?_⟩
      rcases List.mem_append.1 hx with hx | hx
      · exact h.nm x hx
      · obtain rfl : x = e := by simpa using hx
        exact ⟨fun e0 => h1 (.inl e0), fun e0 => h1 (.inr e0), h2, he⟩
theorem Good.along (es : List Bs) : ∀ {p : Place}, Good p → (∀ e, e ∈ es → 47 ∉ e) → Good (along p es) := by
  induction es with
  | nil => exact fun h _ => h
  | cons e es ih => exact fun h he => by rw [along_cons]; exact ih (h.into (he e (by simp))) (fun x hx => he x (by simp [hx]))

theorem els_no47 : ∀ (l : Bs) (e : Bs), e ∈ Pa.els l → 47 ∉ e
  | [], e, h => by
    have : e = [] := by simpa [Pa.els] using h
    subst this
    simp
  | c :: t, e, h => by
    by_cases hc : c = 47
    · subst hc
      rw [Pa.els_slash] at h
      rcases List.mem_cons.1 h with h | h
      · subst h; simp
      · exact els_no47 t e h
    · obtain ⟨x, r, hx⟩ := Pa.els_ne t
      rw [Pa.els, if_neg hc, hx] at h
      rcases List.mem_cons.1 h with h | h
      · subst h
        have := els_no47 t x (by rw [hx]; simp)
        intro hm
        rcases List.mem_cons.1 hm with e0 | e0
        · exact hc e0.symm
        · exact this e0
      · exact els_no47 t e (by rw [hx]; simp [h])

theorem good_start (l : Bs) : Good (start l) := ⟨fun _ => rfl, fun e he => by cases he⟩
theorem Good.follow {p : Place} (h : Good p) (l : Bs) : Good (follow p l) := Good.along _ h (els_no47 l)
theorem good_to (l : Bs) : Good (to l) := (good_start l).follow l
theorem follow_rooted (p : Place) (l : Bs) : (follow p l).rooted = p.rooted := along_rooted _ p
theorem to_rooted (l : Bs) : (to l).rooted = isR l := follow_rooted _ l

theorem inter_nil : inter [] = [] := rfl
theorem inter_one (e : Bs) : inter [e] = e := Pa.J_one e
theorem inter_cons (e x : Bs) (es : List Bs) : inter (e :: x :: es) = e ++ 47 :: inter (x :: es) := Pa.J_cons e x es

theorem step_eq {p : Place} (hg : Good p) (e : Bs) : Pa.cleanStep p.rooted (parts p).reverse e = (parts (into p e)).reverse := by
  unfold Pa.cleanStep into
  by_cases h1 : e = [] ∨ e = [46]
  · rw [if_pos h1, if_pos h1]
  · rw [if_neg h1, if_neg h1]
    by_cases h2 : e = [46, 46]
    · rw [if_pos h2, if_pos h2]
      unfold above
      by_cases h3 : p.names = []
      · rw [if_pos h3]
        cases hu : p.up with
        | zero =>
          cases hr : p.rooted with
          | true => simp [parts, h3, hu]
          | false => simp [parts, h3, hu, h2]
        | succ k =>
          have hr : p.rooted = false := by
            cases hr : p.rooted with
            | true => have := hg.up0 hr; omega
            | false => rfl
          have e1 : (parts p).reverse = [46, 46] :: List.replicate k [46, 46] := by
            rw [parts, h3, hu, List.append_nil, List.reverse_replicate, List.replicate_succ]
          rw [e1, hr]
          simp only [if_true, Bool.false_eq_true, if_false]
          rw [parts, h2]
          show _ = (List.replicate (k + 1 + 1) ([46, 46] : Bs) ++ []).reverse
          rw [List.append_nil, List.reverse_replicate, List.replicate_succ, List.replicate_succ]
      · rw [if_neg h3]
        obtain ⟨ns, n, hn⟩ : ∃ ns n, p.names = ns ++ [n] := ⟨_, _, (List.dropLast_concat_getLast h3).symm⟩
        have hnm : Nm n := hg.nm n (by rw [hn]; simp)
        simp [parts, hn, hnm.2.2.1]
    · rw [if_neg h2, if_neg h2]
      simp [parts]

theorem steps_eq (es : List Bs) : ∀ {p : Place}, Good p → (∀ e, e ∈ es → 47 ∉ e) → es.foldl (Pa.cleanStep p.rooted) (parts p).reverse = (parts (along p es)).reverse := by
  induction es with
  | nil => exact fun _ _ => rfl
  | cons e es ih =>
    intro p hg he
    rw [List.foldl_cons, step_eq hg e, along_cons, ← into_rooted p e]
    exact ih (hg.into (he e (by simp))) (fun x hx => he x (by simp [hx]))

/-- Clean is the text of where the path leads -/
theorem clean_eq (l : Bs) : Pa.clean l = text (to l) := by
  rw [Pa.clean_eq_cleanEls]
  have h := steps_eq (Pa.els l) (good_start l) (els_no47 l)
  have e0 : (parts (start l)).reverse = [] := rfl
  rw [e0] at h
  have hro := to_rooted l
  unfold Pa.cleanEls text
  rw [hro]
  by_cases hl : l = []
  · subst hl
    rfl
  · rw [if_neg hl]
    change List.foldl (Pa.cleanStep (l.head? == some 47)) [] (Pa.els l) = (parts (to l)).reverse at h
    show (if (l.head? == some 47) = true then 47 :: ([47] : Bs).intercalate (List.foldl (Pa.cleanStep (l.head? == some 47)) [] (Pa.els l)).reverse else if ([47] : Bs).intercalate (List.foldl (Pa.cleanStep (l.head? == some 47)) [] (Pa.els l)).reverse = [] then [46] else ([47] : Bs).intercalate (List.foldl (Pa.cleanStep (l.head? == some 47)) [] (Pa.els l)).reverse) = _
    rw [h, List.reverse_reverse]
    show (if isR l = true then 47 :: inter (parts (to l)) else if inter (parts (to l)) = [] then [46] else inter (parts (to l))) = _
    by_cases hr : isR l = true
    · rw [if_pos hr, if_pos hr]
    · rw [if_neg hr, if_neg hr]
      cases hp : parts (to l) with
      | nil => rfl
      | cons y Y =>
        have hy : y ≠ [] := by
          have hm : y ∈ parts (to l) := by rw [hp]; simp
          rcases List.mem_append.1 hm with hm | hm
          · rw [(List.mem_replicate.1 hm).2]; simp
          · exact ((good_to l).nm y hm).1
        rw [if_neg (show inter (y :: Y) ≠ [] from (Pa.J_head y Y hy).2), if_neg (by simp)]

def El (e : Bs) : Prop := e ≠ [] ∧ 47 ∉ e
theorem Nm.el {e : Bs} (h : Nm e) : El e := ⟨h.1, h.2.2.2⟩
theorem el_dd : El [46, 46] := ⟨by simp, by decide⟩
theorem parts_el {p : Place} (h : Good p) : ∀ e, e ∈ parts p → El e := by
  intro e he
  rcases List.mem_append.1 he with he | he
  · rw [(List.mem_replicate.1 he).2]; exact el_dd
  · exact (h.nm e he).el

theorem els_one {e : Bs} (h : 47 ∉ e) : Pa.els e = [e] := by
  have := Pa.els_elem e [] h (.inl rfl)
  simpa [Pa.tailEls] using this

theorem flat_els : ∀ es : List Bs, (∀ e, e ∈ es → 47 ∉ e) → es.flatMap Pa.els = es
  | [], _ => rfl
  | e :: es, h => by
    rw [List.flatMap_cons, els_one (h e (by simp)), flat_els es (fun x hx => h x (by simp [hx]))]
    rfl

theorem els_inter (es : List Bs) (hne : es ≠ []) (h : ∀ e, e ∈ es → 47 ∉ e) : Pa.els (inter es) = es := by
  cases es with
  | nil => exact absurd rfl hne
  | cons y Y =>
    show Pa.els (([47] : Bs).intercalate (y :: Y)) = _
    rw [Pa.els_J, flat_els _ h]

theorem along_names (es : List Bs) : ∀ p : Place, (∀ e, e ∈ es → Nm e) → along p es = ⟨p.rooted, p.up, p.names ++ es⟩ := by
  induction es with
  | nil => exact fun p _ => by simp [along_nil]
  | cons e es ih =>
    intro p h
    rw [along_cons, into_nm p (h e (by simp)), ih _ (fun x hx => h x (by simp [hx]))]
    simp

/-- so many times up -/
def ups (p : Place) (n : Nat) : Place := ⟨p.rooted, if p.rooted = true then p.up else p.up + (n - p.names.length), p.names.take (p.names.length - n)⟩

theorem above_ups (p : Place) (n : Nat) : above (ups p n) = ups p (n + 1) := by
  unfold above ups
  simp only
  by_cases h : p.names.length ≤ n
  · have e1 : p.names.length - n = 0 := by omega
    have e2 : p.names.length - (n + 1) = 0 := by omega
    rw [e1, e2]
    simp only [List.take_zero, if_pos]
    by_cases hr : p.rooted = true
    · simp [hr]
    · simp only [hr]
      simp
      omega
  · obtain ⟨k, hk⟩ : ∃ k, p.names.length - n = k + 1 := ⟨p.names.length - n - 1, by omega⟩
    have e2 : p.names.length - (n + 1) = k := by omega
    have hlen : (p.names.take (k + 1)).length = k + 1 := by rw [List.length_take]; omega
    have hne : p.names.take (k + 1) ≠ [] := by
      intro e
      rw [e] at hlen
      simp at hlen
    rw [hk, e2, if_neg hne, List.dropLast_eq_take, hlen, List.take_take]
    have e3 : n - p.names.length = 0 := by omega
    have e4 : n + 1 - p.names.length = 0 := by omega
    rw [e3, e4]
    simp

theorem along_dd (p : Place) : ∀ n, along p (List.replicate n [46, 46]) = ups p n
  | 0 => by
    rw [List.replicate_zero, along_nil]
    exact Place.eq_of rfl (by simp [ups]) (by simp [ups])
  | n + 1 => by
    rw [List.replicate_succ', along_append, along_dd p n, along_cons, along_nil, into_dd, above_ups]

theorem along_parts (p q : Place) (h : Good q) : along p (parts q) = ⟨p.rooted, (ups p q.up).up, (ups p q.up).names ++ q.names⟩ := by
  unfold parts
  rw [along_append, along_dd, along_names _ _ h.nm]
  rfl

theorem els_text {q : Place} (h : Good q) (hr : q.rooted = false) (p : Place) : follow p (text q) = along p (parts q) := by
  unfold follow text
  rw [hr, if_neg (by decide)]
  by_cases hp : parts q = []
  · rw [if_pos hp, hp, els_one (by decide), along_cons, into_dot]
  · rw [if_neg hp, els_inter _ hp (fun e he => (parts_el h e he).2)]

theorem isR_inter {es : List Bs} (h : ∀ e, e ∈ es → El e) : isR (inter es) = false := by
  cases es with
  | nil => rfl
  | cons y Y =>
    have hy := h y (by simp)
    unfold isR
    show ((([47] : Bs).intercalate (y :: Y)).head? == some 47) = false
    rw [(Pa.J_head y Y hy.1).1]
    cases y with
    | nil => exact absurd rfl hy.1
    | cons c t =>
      have hc : c ≠ 47 := fun e => hy.2 (by rw [e]; simp)
      simpa using hc

theorem isR_text {p : Place} (h : Good p) : isR (text p) = p.rooted := by
  unfold text
  cases hr : p.rooted with
  | true => rw [if_pos rfl]; rfl
  | false =>
    rw [if_neg (by decide)]
    by_cases hp : parts p = []
    · rw [if_pos hp]; rfl
    · rw [if_neg hp]
      exact isR_inter (parts_el h)

/-- a place's text leads there -/
theorem to_text {p : Place} (h : Good p) : to (text p) = p := by
  unfold to start
  rw [isR_text h]
  have key : along ⟨p.rooted, 0, []⟩ (parts p) = p := by
    rw [along_parts _ p h]
    refine Place.eq_of rfl ?_ (by simp [ups])
    simp only [ups]
    cases hr : p.rooted with
    | true => rw [if_pos rfl]; exact (h.up0 hr).symm
    | false => simp
  cases hr : p.rooted with
  | false =>
    rw [els_text h hr, ← hr]
    exact key
  | true =>
    rw [← hr]
    unfold follow text
    rw [if_pos hr, Pa.els_slash, along_cons, into_nil]
    by_cases hp : parts p = []
    · rw [hp] at key ⊢
      rw [inter_nil]
      show along (into _ []) [] = p
      rw [into_nil]
      exact key
    · rw [els_inter _ hp (fun e he => (parts_el h e he).2)]
      exact key

theorem text_inj {p q : Place} (hp : Good p) (hq : Good q) (h : text p = text q) : p = q := by
  rw [← to_text hp, ← to_text hq, h]
theorem text_ne_nil {p : Place} (h : Good p) : text p ≠ [] := by
  unfold text
  split
  · simp
  · split
    · simp
    · rename_i hp
      cases hq : parts p with
      | nil => exact absurd hq hp
      | cons y Y => exact (Pa.J_head y Y (parts_el h y (by rw [hq]; simp)).1).2
theorem to_clean (l : Bs) : to (Pa.clean l) = to l := by rw [clean_eq, to_text (good_to l)]
theorem clean_inj {a b : Bs} (h : Pa.clean a = Pa.clean b) : to a = to b := by
  rw [clean_eq, clean_eq] at h
  exact text_inj (good_to a) (good_to b) h
theorem clean_eq_iff {a b : Bs} : Pa.clean a = Pa.clean b ↔ to a = to b := ⟨clean_inj, fun h => by rw [clean_eq, clean_eq, h]⟩

/-! ### Join -/
theorem follow_nil (p : Place) : follow p [] = p := by
  show along p [[]] = p
  rw [along_cons, into_nil, along_nil]
theorem foldl_follow (Y : List Bs) : ∀ p : Place, along p (Y.flatMap Pa.els) = Y.foldl follow p := by
  induction Y with
  | nil => exact fun _ => rfl
  | cons y Y ih => exact fun p => by rw [List.flatMap_cons, along_append, ih]; rfl
theorem foldl_filter (Y : List Bs) : ∀ p : Place, (Y.filter (· ≠ [])).foldl follow p = Y.foldl follow p := by
  induction Y with
  | nil => exact fun _ => rfl
  | cons y Y ih =>
    intro p
    by_cases hy : y = []
    · subst hy
      rw [List.filter_cons_of_neg (by simp), List.foldl_cons, follow_nil]
      exact ih p
    · rw [List.filter_cons_of_pos (by simpa using hy), List.foldl_cons, List.foldl_cons]
      exact ih _
theorem to_inter (y : Bs) (Y : List Bs) (hy : y ≠ []) : to (inter (y :: Y)) = Y.foldl follow (to y) := by
  have h1 : isR (inter (y :: Y)) = isR y := by
    unfold isR
    rw [show (inter (y :: Y)).head? = y.head? from (Pa.J_head y Y hy).1]
  unfold to start
  rw [h1]
  show along _ (Pa.els (([47] : Bs).intercalate (y :: Y))) = _
  rw [Pa.els_J, foldl_follow]
  rfl
theorem join_cons (y : Bs) (Y : List Bs) (hy : y ≠ []) : Pa.join (y :: Y) = text (Y.foldl follow (to y)) := by
  unfold Pa.join
  rw [List.filter_cons_of_pos (by simpa using hy), if_neg (by simp), clean_eq]
  show text (to (inter (y :: Y.filter (· ≠ [])))) = _
  rw [to_inter y _ hy, foldl_filter]
theorem join_skip (Y : List Bs) : Pa.join ([] :: Y) = Pa.join Y := by
  unfold Pa.join
  rw [List.filter_cons_of_neg (by simp)]
theorem join_nil : Pa.join [] = [] := rfl
theorem good_foldl (Y : List Bs) : ∀ {p : Place}, Good p → Good (Y.foldl follow p) := by
  induction Y with
  | nil => exact fun h => h
  | cons y Y ih => exact fun h => ih (h.follow y)

/-! ### ways -/
def cp : List Bs → List Bs → Nat
  | a :: A, b :: B => if a = b then cp A B + 1 else 0
  | _, _ => 0
theorem cp_nil_left (B : List Bs) : cp [] B = 0 := by cases B <;> rfl
theorem cp_nil_right (A : List Bs) : cp A [] = 0 := by cases A <;> rfl
theorem cp_cons_same (a : Bs) (A B : List Bs) : cp (a :: A) (a :: B) = cp A B + 1 := by simp [cp]
theorem cp_cons_ne {a b : Bs} (A B : List Bs) (h : a ≠ b) : cp (a :: A) (b :: B) = 0 := by simp [cp, h]
theorem cp_app (pre : List Bs) : ∀ A B : List Bs, cp (pre ++ A) (pre ++ B) = pre.length + cp A B := by
  induction pre with
  | nil => intro A B; simp
  | cons x pre ih => intro A B; rw [List.cons_append, List.cons_append, cp_cons_same, ih]; simp; omega
theorem cp_split : ∀ A B : List Bs, ∃ pre X Y, A = pre ++ X ∧ B = pre ++ Y ∧ cp A B = pre.length ∧ cp X Y = 0
  | [], B => ⟨[], [], B, rfl, rfl, cp_nil_left B, cp_nil_left B⟩
  | a :: A, [] => ⟨[], a :: A, [], rfl, rfl, cp_nil_right _, cp_nil_right _⟩
  | a :: A, b :: B => by
    by_cases h : a = b
    · subst h
      obtain ⟨pre, X, Y, h1, h2, h3, h4⟩ := cp_split A B
      exact ⟨a :: pre, X, Y, by rw [h1]; rfl, by rw [h2]; rfl, by rw [cp_cons_same, h3]; rfl, h4⟩
    · exact ⟨[], a :: A, b :: B, rfl, rfl, cp_cons_ne A B h, cp_cons_ne A B h⟩
theorem cp_self (A : List Bs) : cp A A = A.length := by
  induction A with
  | nil => rfl
  | cons a A ih => rw [cp_cons_same, ih]; rfl
theorem cp_comm (A : List Bs) : ∀ B, cp A B = cp B A := by
  induction A with
  | nil => intro B; rw [cp_nil_left, cp_nil_right]
  | cons a A ih =>
    intro B
    cases B with
    | nil => rw [cp_nil_left, cp_nil_right]
    | cons b B =>
      by_cases h : a = b
      · subst h; rw [cp_cons_same, cp_cons_same, ih]
      · rw [cp_cons_ne A B h, cp_cons_ne B A (Ne.symm h)]
theorem cp_le_left (A B : List Bs) : cp A B ≤ A.length := by
  obtain ⟨pre, X, Y, h1, h2, h3, _⟩ := cp_split A B
  rw [h3, h1]; simp
theorem cp_le_right (A B : List Bs) : cp A B ≤ B.length := by rw [cp_comm]; exact cp_le_left B A
theorem take_cp (A B : List Bs) : A.take (cp A B) = B.take (cp A B) := by
  obtain ⟨pre, X, Y, h1, h2, h3, _⟩ := cp_split A B
  rw [h3, h1, h2]; simp

def way (a b : Place) : Option Place :=
  if a.rooted ≠ b.rooted ∨ b.up < a.up then none
  else if a.up < b.up then some ⟨false, a.names.length + (b.up - a.up), b.names⟩
  else some ⟨false, a.names.length - cp a.names b.names, b.names.drop (cp a.names b.names)⟩

theorem way_none {a b : Place} : way a b = none ↔ a.rooted ≠ b.rooted ∨ b.up < a.up := by
  unfold way
  split
  · simp_all
  · split <;> simp_all

theorem way_none_iff {a b : Place} : (way a b).isSome = false ↔ a.rooted ≠ b.rooted ∨ b.up < a.up := by
  rw [← way_none]
  cases way a b <;> simp

theorem way_lt {a b : Place} (hr : a.rooted = b.rooted) (h : a.up < b.up) : way a b = some ⟨false, a.names.length + (b.up - a.up), b.names⟩ := by
  unfold way
  rw [if_neg (fun e => e.elim (fun h1 => h1 hr) (fun h1 => by omega)), if_pos h]
theorem way_eq {a b : Place} (hr : a.rooted = b.rooted) (h : a.up = b.up) : way a b = some ⟨false, a.names.length - cp a.names b.names, b.names.drop (cp a.names b.names)⟩ := by
  unfold way
  rw [if_neg (fun e => e.elim (fun h1 => h1 hr) (fun h1 => by omega)), if_neg (by omega)]

theorem way_cases {a b r : Place} (h : way a b = some r) : a.rooted = b.rooted ∧ r.rooted = false ∧
    ((a.up < b.up ∧ r = ⟨false, a.names.length + (b.up - a.up), b.names⟩) ∨
     (a.up = b.up ∧ ∃ pre X Y, a.names = pre ++ X ∧ b.names = pre ++ Y ∧ cp X Y = 0 ∧ r = ⟨false, X.length, Y⟩)) := by
  have hn : ¬ (a.rooted ≠ b.rooted ∨ b.up < a.up) := fun e => by rw [way_none.2 e] at h; cases h
  have hr : a.rooted = b.rooted := by
    cases ha : a.rooted <;> cases hb : b.rooted <;> simp_all
  by_cases hu : a.up < b.up
  · rw [way_lt hr hu] at h
    have h' := Option.some.inj h
    exact ⟨hr, by rw [← h'], .inl ⟨hu, h'.symm⟩⟩
  · have hu' : a.up = b.up := by
      have : ¬ b.up < a.up := fun e => hn (.inr e)
      omega
    rw [way_eq hr hu'] at h
    have h' := Option.some.inj h
    refine ⟨hr, by rw [← h'], .inr ⟨hu', ?_⟩⟩
    obtain ⟨pre, X, Y, h1, h2, h3, h4⟩ := cp_split a.names b.names
    refine ⟨pre, X, Y, h1, h2, h4, ?_⟩
    rw [← h', h3, h1, h2]
    simp

theorem good_way {a b r : Place} (hb : Good b) (h : way a b = some r) : Good r := by
  obtain ⟨_, hr, h1 | h1⟩ := way_cases h
  · rw [h1.2]; exact ⟨fun e => (by cases e), hb.nm⟩
  · obtain ⟨_, pre, X, Y, _, h3, _, rfl⟩ := h1
    exact ⟨fun e => (by cases e), fun e he => hb.nm e (by rw [h3]; simp [he])⟩

/-- the way leads there -/
theorem along_way {a b r : Place} (hb : Good b) (h : way a b = some r) : along a (parts r) = b := by
  rw [along_parts a r (good_way hb h)]
  obtain ⟨hr, _, h1 | h1⟩ := way_cases h
  · obtain ⟨hu, rfl⟩ := h1
    have hra : a.rooted = false := by
      cases e : a.rooted with
      | false => rfl
      | true => have := hb.up0 (hr ▸ e); omega
    refine Place.eq_of hr ?_ ?_
    · simp only [ups, hra]
      simp
      omega
    · simp only [ups]
      rw [show a.names.length - (a.names.length + (b.up - a.up)) = 0 by omega]
      simp
  · obtain ⟨hu, pre, X, Y, h2, h3, _, rfl⟩ := h1
    refine Place.eq_of hr ?_ ?_
    · simp only [ups]
      rw [h2]
      simp [show X.length - (pre.length + X.length) = 0 by omega, hu]
    · simp only [ups]
      rw [h2, h3]
      simp

theorem follow_way {a b r : Place} (hb : Good b) (h : way a b = some r) : follow a (text r) = b := by
  rw [els_text (good_way hb h) (way_cases h).2.1, along_way hb h]

/-- what impl.Rel returns -/
def relS (b t : Bs) : Bs := match way (to b) (to t) with | some r => text r | none => []
def relOk (b t : Bs) : Bool := (way (to b) (to t)).isSome

theorem relS_some {b t : Bs} {r : Place} (h : way (to b) (to t) = some r) : relS b t = text r ∧ relOk b t = true := by
  unfold relS relOk
  rw [h]
  exact ⟨rfl, rfl⟩
theorem relS_none {b t : Bs} (h : way (to b) (to t) = none) : relS b t = [] ∧ relOk b t = false := by
  unfold relS relOk
  rw [h]
  exact ⟨rfl, rfl⟩

end Pl
end Go.Proofs.Ytgkbkocakinmfaa
