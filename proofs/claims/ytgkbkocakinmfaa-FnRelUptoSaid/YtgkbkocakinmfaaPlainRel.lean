/-
  PLAIN FACTS ON THE LOOP OF path/filepath.Rel, over lists of bytes: what is left of both cleaned paths behind the elements that they have in common, and what is made of it. No program in sight. Conditions: none.
-/
import Derived.Test.YtgkbkocakinmfaaPlain
namespace Go.Proofs.Ytgkbkocakinmfaa
namespace Pl
open Go.Lib

def hd (x : Bs) : Bs := x.takeWhile (· != 47)
def nx (x : Bs) : Bs := (x.dropWhile (· != 47)).drop 1

theorem hd_app (e r : Bs) (h : 47 ∉ e) : hd (e ++ 47 :: r) = e ∧ nx (e ++ 47 :: r) = r := by
  induction e with
  | nil => exact ⟨rfl, rfl⟩
  | cons c e ih =>
    have hc : (c != 47) = true := by
      have : c ≠ 47 := fun e0 => h (by rw [e0]; simp)
      simpa using this
    obtain ⟨i1, i2⟩ := ih (fun hm => h (by simp [hm]))
    unfold hd nx at *
    rw [List.cons_append, List.takeWhile_cons_of_pos (p := (· != 47)) hc, List.dropWhile_cons_of_pos (p := (· != 47)) hc, i1, i2]
    exact ⟨rfl, rfl⟩
theorem hd_one (e : Bs) (h : 47 ∉ e) : hd e = e ∧ nx e = [] := by
  induction e with
  | nil => exact ⟨rfl, rfl⟩
  | cons c e ih =>
    have hc : (c != 47) = true := by
      have : c ≠ 47 := fun e0 => h (by rw [e0]; simp)
      simpa using this
    obtain ⟨i1, i2⟩ := ih (fun hm => h (by simp [hm]))
    unfold hd nx at *
    rw [List.takeWhile_cons_of_pos (p := (· != 47)) hc, List.dropWhile_cons_of_pos (p := (· != 47)) hc, i1, i2]
    exact ⟨rfl, rfl⟩
theorem hd_inter (e : Bs) (X : List Bs) (h : 47 ∉ e) : hd (inter (e :: X)) = e ∧ nx (inter (e :: X)) = inter X := by
  cases X with
  | nil => rw [inter_one]; exact hd_one e h
  | cons x X => rw [inter_cons]; exact hd_app e _ h

theorem nx_len (x : Bs) : (nx x).length ≤ x.length - 1 ∧ (x ≠ [] → (nx x).length < x.length) := by
  have h : (x.dropWhile (· != 47)).length ≤ x.length := (List.dropWhile_sublist _).length_le
  unfold nx
  rw [List.length_drop]
  refine ⟨by omega, fun hx => ?_⟩
  have := List.length_pos_iff.2 hx
  omega

/-- the elements as they stand in the target's text -/
def lits (p : Place) : List Bs := if p.rooted = false ∧ parts p = [] then [[46]] else parts p

theorem lits_el {p : Place} (h : Good p) : ∀ e, e ∈ lits p → El e := by
  intro e he
  unfold lits at he
  split at he
  · obtain rfl : e = [46] := by simpa using he
    exact ⟨by simp, by decide⟩
  · exact parts_el h e he

def Run (S T : Place) (x y : Bs) : Prop :=
  (S.rooted = true ∧ x = 47 :: inter (parts S) ∧ y = 47 :: inter (parts T)) ∨
  ∃ pre X Y, parts S = pre ++ X ∧ lits T = pre ++ Y ∧ x = inter X ∧ y = inter Y

theorem parts_ne_dot {p : Place} (h : Good p) : ∀ e, e ∈ parts p → e ≠ [46] := by
  intro e he
  rcases List.mem_append.1 he with he | he
  · rw [(List.mem_replicate.1 he).2]; decide
  · exact (h.nm e he).2.1

theorem eq_of_parts {S T : Place} (hS : Good S) (hT : Good T) (hr : S.rooted = T.rooted) (h : parts S = parts T) : S = T :=
  text_inj hS hT (by unfold text; rw [hr, h])

theorem lits_ne {S T : Place} (hS : Good S) (hT : Good T) (hr : S.rooted = T.rooted) (hne : S ≠ T) : parts S ≠ lits T := by
  intro h
  unfold lits at h
  split at h
  · exact parts_ne_dot hS [46] (by rw [h]; simp) rfl
  · exact hne (eq_of_parts hS hT hr h)

theorem run_step {S T : Place} (hS : Good S) (hT : Good T) (hr : S.rooted = T.rooted) (hne : S ≠ T) {x y : Bs} (h : Run S T x y) (he : hd x = hd y) :
    Run S T (nx x) (nx y) ∧ (nx x).length + (nx y).length < x.length + y.length := by
  rcases h with ⟨h1, rfl, rfl⟩ | ⟨pre, X, Y, h1, h2, rfl, rfl⟩
  · refine ⟨.inr ⟨[], parts S, lits T, rfl, rfl, rfl, ?_⟩, ?_⟩
    · unfold lits
      rw [if_neg (by rw [← hr, h1]; simp)]
      rfl
    · have a := (nx_len (47 :: inter (parts S))).2 (by simp)
      have b := (nx_len (47 :: inter (parts T))).1
      omega
  · have eX : ∀ e, e ∈ X → El e := fun e hm => parts_el hS e (by rw [h1]; simp [hm])
    have eY : ∀ e, e ∈ Y → El e := fun e hm => lits_el hT e (by rw [h2]; simp [hm])
    cases X with
    | nil =>
      cases Y with
      | nil => exact absurd (h1.trans h2.symm) (lits_ne hS hT hr hne)
      | cons f Y =>
        have hf := eY f (by simp)
        rw [(hd_inter f Y hf.2).1] at he
        exact absurd he.symm hf.1
    | cons e X =>
      have hE := eX e (by simp)
      cases Y with
      | nil =>
        rw [(hd_inter e X hE.2).1] at he
        exact absurd he hE.1
      | cons f Y =>
        have hF := eY f (by simp)
        obtain ⟨a1, a2⟩ := hd_inter e X hE.2
        obtain ⟨b1, b2⟩ := hd_inter f Y hF.2
        rw [a1, b1] at he
        subst he
        refine ⟨.inr ⟨pre ++ [e], X, Y, by rw [h1]; simp, by rw [h2]; simp, a2, b2⟩, ?_⟩
        have hx : inter (e :: X) ≠ [] := (Pa.J_head e X hE.1).2
        have a := (nx_len (inter (e :: X))).2 hx
        have b := (nx_len (inter (e :: Y))).1
        omega

theorem parts_cons {p : Place} (h : Good p) {e : Bs} {A : List Bs} (hp : parts p = e :: A) :
    (∃ k, e = [46, 46] ∧ p.rooted = false ∧ p.up = k + 1 ∧ A = parts ⟨p.rooted, k, p.names⟩) ∨ (p.up = 0 ∧ p.names = e :: A ∧ Nm e) := by
  unfold parts at hp
  cases hu : p.up with
  | zero =>
    rw [hu] at hp
    have hp' : p.names = e :: A := by simpa using hp
    exact .inr ⟨rfl, hp', h.nm e (by rw [hp']; simp)⟩
  | succ k =>
    rw [hu, List.replicate_succ] at hp
    obtain ⟨h1, h2⟩ := List.cons.inj hp
    refine .inl ⟨k, h1.symm, ?_, rfl, h2.symm⟩
    cases hr : p.rooted with
    | false => rfl
    | true => have := h.up0 hr; omega

/-- what both have in common at the beginning does not matter -/
theorem way_pre (X Y : List Bs) : ∀ (pre : List Bs) {S T : Place}, Good S → Good T → S.rooted = T.rooted → parts S = pre ++ X → parts T = pre ++ Y →
    ∃ S' T' : Place, Good S' ∧ Good T' ∧ S'.rooted = T'.rooted ∧ parts S' = X ∧ parts T' = Y ∧ way S T = way S' T'
  | [], S, T, hS, hT, hr, h1, h2 => ⟨S, T, hS, hT, hr, h1, h2, rfl⟩
  | e :: pre, S, T, hS, hT, hr, h1, h2 => by
    rcases parts_cons hS h1 with ⟨k, he, hrs, hu, hA⟩ | ⟨hu, hn, hE⟩
    · rcases parts_cons hT h2 with ⟨m, _, hrt, hv, hB⟩ | ⟨_, _, hE⟩
      · obtain ⟨S', T', g1, g2, g3, g4, g5, g6⟩ := way_pre X Y pre (S := ⟨S.rooted, k, S.names⟩) (T := ⟨T.rooted, m, T.names⟩) ⟨fun e => (by rw [show S.rooted = false from hrs] at e; cases e), hS.nm⟩ ⟨fun e => (by rw [show T.rooted = false from hrt] at e; cases e), hT.nm⟩ hr hA.symm hB.symm
        refine ⟨S', T', g1, g2, g3, g4, g5, g6 ▸ ?_⟩
        by_cases h3 : m < k
        · rw [way_none.2 (.inr (by omega)), way_none.2 (.inr h3)]
        · by_cases h4 : k < m
          · rw [way_lt hr (by omega), way_lt (a := ⟨S.rooted, k, S.names⟩) (b := ⟨T.rooted, m, T.names⟩) hr h4]
            simp only [Option.some.injEq, Place.mk.injEq, true_and, and_true]
            omega
          · rw [way_eq hr (by omega), way_eq (a := ⟨S.rooted, k, S.names⟩) (b := ⟨T.rooted, m, T.names⟩) hr (show k = m by omega)]
      · exact absurd he hE.2.2.1
    · rcases parts_cons hT h2 with ⟨m, he, _⟩ | ⟨hv, hm, _⟩
      · exact absurd he hE.2.2.1
      · have eS : parts ⟨S.rooted, 0, pre ++ X⟩ = pre ++ X := by simp [parts]
        have eT : parts ⟨T.rooted, 0, pre ++ Y⟩ = pre ++ Y := by simp [parts]
        obtain ⟨S', T', g1, g2, g3, g4, g5, g6⟩ := way_pre X Y pre (S := ⟨S.rooted, 0, pre ++ X⟩) (T := ⟨T.rooted, 0, pre ++ Y⟩)
          ⟨fun _ => rfl, fun x hx => hS.nm x (by rw [hn]; exact List.mem_cons_of_mem _ hx)⟩ ⟨fun _ => rfl, fun x hx => hT.nm x (by rw [hm]; exact List.mem_cons_of_mem _ hx)⟩ hr eS eT
        refine ⟨S', T', g1, g2, g3, g4, g5, g6 ▸ ?_⟩
        rw [way_eq hr (by omega), way_eq (a := ⟨S.rooted, 0, pre ++ X⟩) (b := ⟨T.rooted, 0, pre ++ Y⟩) hr rfl, hn, hm, cp_cons_same]
        simp

/-- the way behind what is in common -/
theorem way_tail {S T : Place} (hS : Good S) (hT : Good T) (hr : S.rooted = T.rooted) {X Y : List Bs} (h1 : parts S = X) (h2 : parts T = Y) (hh : X.head? ≠ Y.head?) :
    (X.head? = some [46, 46] → way S T = none) ∧ (X.head? ≠ some [46, 46] → ∃ r, way S T = some r ∧ r.rooted = false ∧ parts r = List.replicate X.length [46, 46] ++ Y ∧ X.length ≤ r.up) := by
  have hup : ∀ {p : Place} {A : List Bs}, Good p → parts p = A → A.head? ≠ some [46, 46] → p.up = 0 ∧ p.names = A := by
    intro p A hp ha hn
    cases A with
    | nil =>
      unfold parts at ha
      cases hu : p.up with
      | zero => rw [hu] at ha; exact ⟨rfl, by simpa using ha⟩
      | succ k => rw [hu, List.replicate_succ] at ha; cases ha
    | cons e A =>
      rcases parts_cons hp ha with ⟨k, he, _⟩ | ⟨hu, hn', _⟩
      · rw [he] at hn; exact absurd rfl hn
      · exact ⟨hu, hn'⟩
  constructor
  · intro hX
    have hT0 := (hup hT h2 (fun e => hh (hX.trans e.symm))).1
    cases X with
    | nil => cases hX
    | cons e A =>
      rcases parts_cons hS h1 with ⟨k, he, _, hu, _⟩ | ⟨_, _, hE⟩
      · exact way_none.2 (.inr (by omega))
      · exact absurd (Option.some.inj hX) hE.2.2.1
  · intro hX
    obtain ⟨hu, hn⟩ := hup hS h1 hX
    by_cases hv : T.up = 0
    · have hY : T.names = Y := by rw [← h2]; unfold parts; rw [hv]; rfl
      refine ⟨_, way_eq hr (by omega), rfl, ?_⟩
      have hc : cp X Y = 0 := by
        cases X with
        | nil => exact cp_nil_left Y
        | cons a X =>
          cases Y with
          | nil => exact cp_nil_right _
          | cons b Y => exact cp_cons_ne X Y (fun e => hh (by rw [e]; rfl))
      rw [hn, hY, hc]
      exact ⟨by simp [parts], by simp⟩
    · refine ⟨_, way_lt hr (by omega), rfl, ?_⟩
      rw [hn, hu, ← h2]
      simp only [parts, Nat.sub_zero]
      refine ⟨?_, by omega⟩
      rw [← List.replicate_append_replicate, List.append_assoc]

def cnt (x : Bs) : Nat := x.count 47
theorem cnt_no {e : Bs} (h : 47 ∉ e) : cnt e = 0 := List.count_eq_zero_of_not_mem h
theorem cnt_inter : ∀ (e : Bs) (X : List Bs), (∀ x, x ∈ e :: X → 47 ∉ x) → cnt (inter (e :: X)) = X.length
  | e, [], h => by rw [inter_one]; exact cnt_no (h e (by simp))
  | e, x :: X, h => by
    have ih := cnt_inter x X (fun y hy => h y (by simp [List.mem_cons.1 hy]))
    have h0 := cnt_no (h e (by simp))
    unfold cnt at *
    rw [inter_cons, List.count_append, List.count_cons_self, ih, h0]
    simp

/-- so many times up, as the buffer is filled -/
def dots : Nat → Bs
  | 0 => [46, 46]
  | n + 1 => dots n ++ [47, 46, 46]
theorem dots_len (n : Nat) : (dots n).length = 2 + 3 * n := by
  induction n with
  | zero => rfl
  | succ n ih => rw [dots, List.length_append, ih]; simp; omega
theorem inter_snoc (A : List Bs) (x : Bs) (h : A ≠ []) : inter (A ++ [x]) = inter A ++ 47 :: x := Pa.inter_snoc x A h
theorem inter_append : ∀ (A B : List Bs), A ≠ [] → B ≠ [] → inter (A ++ B) = inter A ++ 47 :: inter B
  | [], _, h, _ => absurd rfl h
  | [a], b :: B, _, _ => by rw [List.singleton_append, inter_cons, inter_one]
  | _ :: _, [], _, h => absurd rfl h
  | a :: a' :: A, b :: B, _, h => by
    have ih := inter_append (a' :: A) (b :: B) (by simp) h
    rw [List.cons_append, List.cons_append, inter_cons, ← List.cons_append, ih, inter_cons]
    simp
theorem dots_eq (n : Nat) : dots n = inter (List.replicate (n + 1) [46, 46]) := by
  induction n with
  | zero => rfl
  | succ n ih => rw [dots, ih, List.replicate_succ' (n := n + 1), inter_snoc _ _ (by simp [List.replicate_succ])]

def whole (x y : Bs) : Bs := dots (cnt x) ++ (if y = [] then [] else 47 :: y)

theorem head_inter {X : List Bs} (h : ∀ e, e ∈ X → El e) : hd (inter X) = X.head?.getD [] := by
  cases X with
  | nil => rfl
  | cons e X => exact (hd_inter e X (h e (by simp)).2).1
theorem inter_eq_nil {X : List Bs} (h : ∀ e, e ∈ X → El e) : inter X = [] ↔ X = [] := by
  cases X with
  | nil => exact ⟨fun _ => rfl, fun _ => rfl⟩
  | cons e X => exact ⟨fun e0 => absurd e0 (Pa.J_head e X (h e (by simp)).1).2, fun e0 => by cases e0⟩
theorem clean_text {p : Place} (h : Good p) : Pa.clean (text p) = text p := by rw [clean_eq, to_text h]

theorem way_of_root_dot {S T : Place} (hr : S.rooted = T.rooted) (hpt : parts T = []) (hup : S.up = 0) :
    way S T = some ⟨false, S.names.length, []⟩ := by
  unfold parts at hpt
  have hu : T.up = 0 := by
    cases hu : T.up with
    | zero => rfl
    | succ k => rw [hu, List.replicate_succ] at hpt; cases hpt
  have hn : T.names = [] := by rw [hu] at hpt; simpa using hpt
  rw [way_eq hr (by omega), hn, cp_nil_right]
  simp

/-- where both part -/
theorem run_end {S T : Place} (hS : Good S) (hT : Good T) (hr : S.rooted = T.rooted) (hne : S ≠ T) {x y : Bs} (h : Run S T x y) (he : hd x ≠ hd y) :
    (hd x = [46, 46] → way S T = none) ∧
    (hd x ≠ [46, 46] → x ≠ [] → ∃ r, way S T = some r ∧ Pa.clean (whole x y) = text r ∧ cnt x + 1 ≤ r.up) ∧
    (hd x ≠ [46, 46] → x = [] → ∃ r, way S T = some r ∧ y = text r) := by
  rcases h with ⟨h1, rfl, rfl⟩ | ⟨pre, X, Y, h1, h2, rfl, rfl⟩
  · exact absurd rfl he
  · have eX : ∀ e, e ∈ X → El e := fun e hm => parts_el hS e (by rw [h1]; simp [hm])
    have eY : ∀ e, e ∈ Y → El e := fun e hm => lits_el hT e (by rw [h2]; simp [hm])
    have hh : X.head? ≠ Y.head? := fun e => he (by rw [head_inter eX, head_inter eY, e])
    have hdd : hd (inter X) = [46, 46] ↔ X.head? = some [46, 46] := by
      rw [head_inter eX]
      cases X with
      | nil => simp
      | cons a X => simp
    have hcount : ∀ Z : List Bs, X ≠ [] → dots (cnt (inter X)) ++ (if inter Z = [] then [] else 47 :: inter Z) = (if inter Z = [] then inter (List.replicate X.length [46, 46]) else inter (List.replicate X.length [46, 46]) ++ 47 :: inter Z) := by
      intro Z hX
      cases X with
      | nil => exact absurd rfl hX
      | cons a X =>
        rw [cnt_inter a X (fun e hm => (eX e hm).2), dots_eq, List.length_cons]
        split <;> simp
    have hlen : X ≠ [] → cnt (inter X) + 1 = X.length := by
      intro hX
      cases X with
      | nil => exact absurd rfl hX
      | cons a X => rw [cnt_inter a X (fun e hm => (eX e hm).2)]; rfl
    by_cases hl : T.rooted = false ∧ parts T = []
    · have hlit : lits T = [[46]] := by unfold lits; rw [if_pos hl]
      rw [hlit] at h2
      have hpre : pre = [] := by
        cases pre with
        | nil => rfl
        | cons a pre =>
          have ha : a = [46] := by
            have := (List.cons.inj h2).1
            exact this.symm
          exact absurd ha (parts_ne_dot hS a (by rw [h1]; simp))
      subst hpre
      rw [List.nil_append] at h1 h2
      subst h2
      have hup : X.head? ≠ some [46, 46] → S.up = 0 ∧ S.names = X := by
        intro hn
        cases hX : X with
        | nil =>
          rw [hX] at h1
          unfold parts at h1
          cases hu : S.up with
          | zero => rw [hu] at h1; exact ⟨rfl, by simpa using h1⟩
          | succ k => rw [hu, List.replicate_succ] at h1; cases h1
        | cons a A =>
          rw [hX] at h1 hn
          rcases parts_cons hS h1 with ⟨k, he, _⟩ | ⟨hu, hn', _⟩
          · rw [he] at hn; exact absurd rfl hn
          · exact ⟨hu, hn'⟩
      refine ⟨fun hx => ?_, fun hx hx0 => ?_, fun hx hx0 => ?_⟩
      · rw [hdd] at hx
        cases X with
        | nil => cases hx
        | cons a A =>
          have hT0 : T.up = 0 := by
            have := hl.2
            unfold parts at this
            cases hu : T.up with
            | zero => rfl
            | succ k => rw [hu, List.replicate_succ] at this; cases this
          rcases parts_cons hS h1 with ⟨k, _, _, hu, _⟩ | ⟨_, _, hE⟩
          · exact way_none.2 (.inr (by omega))
          · exact absurd (Option.some.inj hx) hE.2.2.1
      · have hX : X ≠ [] := fun e => hx0 ((inter_eq_nil eX).2 e)
        obtain ⟨hu, hn⟩ := hup (fun e => hx (hdd.2 e))
        refine ⟨_, way_of_root_dot hr hl.2 hu, ?_, by rw [hlen hX, hn]; exact Nat.le_refl _⟩
        unfold whole
        have hc := hcount [[46]] hX
        rw [hc, if_neg (by decide), clean_eq]
        have hrep : List.replicate X.length ([46, 46] : Bs) ≠ [] := by
          cases X with
          | nil => exact absurd rfl hX
          | cons a A => simp [List.replicate_succ]
        rw [← inter_append _ _ hrep (by simp)]
        congr 1
        have hel : ∀ e, e ∈ List.replicate X.length ([46, 46] : Bs) ++ [[46]] → El e := by
          intro e hm
          rcases List.mem_append.1 hm with hm | hm
          · rw [(List.mem_replicate.1 hm).2]; exact el_dd
          · obtain rfl : e = [46] := by simpa using hm
            exact ⟨by simp, by decide⟩
        unfold to follow start
        rw [isR_inter hel, els_inter _ (by simp) (fun e hm => (hel e hm).2), along_append, along_dd, along_cons, into_dot, along_nil, hn]
        exact Place.eq_of rfl (by simp [ups]) (by simp [ups])
      · have hX : X = [] := (inter_eq_nil eX).1 hx0
        subst hX
        exact absurd (eq_of_parts hS hT hr (h1.trans hl.2.symm)) hne
    · have hlit : lits T = parts T := by unfold lits; rw [if_neg hl]
      rw [hlit] at h2
      obtain ⟨S', T', g1, g2, g3, g4, g5, g6⟩ := way_pre X Y pre hS hT hr h1 h2
      rw [g6]
      obtain ⟨w1, w2⟩ := way_tail g1 g2 g3 g4 g5 hh
      refine ⟨fun hx => w1 (hdd.1 hx), fun hx hx0 => ?_, fun hx hx0 => ?_⟩
      · have hX : X ≠ [] := fun e => hx0 ((inter_eq_nil eX).2 e)
        obtain ⟨r, hw, hrr, hp, hup⟩ := w2 (fun e => hx (hdd.2 e))
        refine ⟨r, hw, ?_, by rw [hlen hX]; exact hup⟩
        have hg : Good r := good_way g2 hw
        have hne' : parts r ≠ [] := by
          rw [hp]
          cases X with
          | nil => exact absurd rfl hX
          | cons a A => simp [List.replicate_succ]
        have ht : text r = inter (parts r) := by unfold text; rw [hrr, if_neg (by decide), if_neg hne']
        have hwh : whole (inter X) (inter Y) = inter (parts r) := by
          unfold whole
          rw [hcount Y hX, hp]
          by_cases hY : Y = []
          · subst hY
            rw [if_pos inter_nil, List.append_nil]
          · rw [if_neg (fun e => hY ((inter_eq_nil eY).1 e)), inter_append _ _ ?_ hY]
            cases X with
            | nil => exact absurd rfl hX
            | cons a A => simp [List.replicate_succ]
        rw [hwh, ← ht, clean_text hg]
      · have hX : X = [] := (inter_eq_nil eX).1 hx0
        subst hX
        obtain ⟨r, hw, hrr, hp, _⟩ := w2 (fun e => hx (hdd.2 e))
        refine ⟨r, hw, ?_⟩
        have hY : Y ≠ [] := fun e => hh (by rw [e])
        have hpY : parts r = Y := by rw [hp]; rfl
        unfold text
        rw [hrr, if_neg (by decide), hpY, if_neg hY]

/-! ### a scan to the next slash -/
def Sc (l : Bs) (i k : Nat) : Prop := i ≤ k ∧ k ≤ l.length ∧ ∀ m, i ≤ m → m < k → l[m]? ≠ some 47

theorem sc_start {l : Bs} {i : Nat} (h : i ≤ l.length) : Sc l i i := ⟨Nat.le_refl _, h, fun m h1 h2 => by omega⟩
theorem sc_next {l : Bs} {i k : Nat} (h : Sc l i k) (hk : k < l.length) (h47 : l[k]? ≠ some 47) : Sc l i (k + 1) :=
  ⟨by have := h.1; omega, hk, fun m h1 h2 => by
    by_cases e : m = k
    · subst e; exact h47
    · exact h.2.2 m h1 (by omega)⟩
theorem tw_take : ∀ (n : Nat) (x : Bs), n ≤ x.length → (∀ m, m < n → x[m]? ≠ some 47) → (n = x.length ∨ x[n]? = some 47) → hd x = x.take n ∧ x.dropWhile (· != 47) = x.drop n
  | 0, x, _, _, he => by
    cases x with
    | nil => exact ⟨rfl, rfl⟩
    | cons c x =>
      have hc : c = 47 := by
        rcases he with h | h
        · simp at h
        · simpa using h
      subst hc
      exact ⟨rfl, rfl⟩
  | n + 1, x, hn, hm, he => by
    cases x with
    | nil => simp at hn
    | cons c x =>
      have hc : (c != 47) = true := by
        have := hm 0 (by omega)
        simpa using this
      obtain ⟨i1, i2⟩ := tw_take n x (by simpa using hn) (fun m h => by have := hm (m + 1) (by omega); simpa using this) (by
        rcases he with h | h
        · exact .inl (by simpa using h)
        · exact .inr (by simpa using h))
      unfold hd at i1 ⊢
      rw [List.takeWhile_cons_of_pos (p := (· != 47)) hc, List.dropWhile_cons_of_pos (p := (· != 47)) hc, i1, i2]
      exact ⟨rfl, rfl⟩
theorem sc_end {l : Bs} {i k : Nat} (h : Sc l i k) (he : k = l.length ∨ l[k]? = some 47) : hd (l.drop i) = (l.drop i).take (k - i) ∧ nx (l.drop i) = l.drop (k + 1) := by
  obtain ⟨h1, h2, h3⟩ := h
  obtain ⟨a, b⟩ := tw_take (k - i) (l.drop i) (by rw [List.length_drop]; omega) (fun m hm => by rw [List.getElem?_drop]; exact h3 (i + m) (by omega) (by omega)) (by
    rcases he with e | e
    · exact .inl (by rw [List.length_drop]; omega)
    · refine .inr ?_
      rw [List.getElem?_drop, show i + (k - i) = k by omega]; exact e)
  refine ⟨a, ?_⟩
  unfold nx
  rw [b, List.drop_drop, List.drop_drop]
  congr 1
  omega

/-! ### at the beginning -/
def base0 (b : Bs) : Bs := if b = [46] then [] else b

theorem text_dot {p : Place} (h : Good p) : text p = [46] ↔ p = ⟨false, 0, []⟩ := by
  have hg : Good ⟨false, 0, []⟩ := ⟨fun _ => rfl, fun e he => by cases he⟩
  exact ⟨fun e => text_inj h hg e, fun e => by rw [e]; rfl⟩

theorem isR_base0 {p : Place} (h : Good p) : isR (base0 (text p)) = p.rooted := by
  unfold base0
  by_cases e : text p = [46]
  · rw [if_pos e, (text_dot h).1 e]; rfl
  · rw [if_neg e]; exact isR_text h

theorem run_start {S T : Place} (hS : Good S) (hr : S.rooted = T.rooted) : Run S T (base0 (text S)) (text T) := by
  cases hR : S.rooted with
  | true =>
    refine .inl ⟨hR, ?_, ?_⟩
    · unfold base0
      rw [if_neg (fun e => by rw [(text_dot hS).1 e] at hR; cases hR)]
      unfold text
      rw [if_pos hR]
    · unfold text
      rw [if_pos (hr ▸ hR)]
  | false =>
    refine .inr ⟨[], parts S, lits T, rfl, rfl, ?_, ?_⟩
    · unfold base0
      by_cases e : text S = [46]
      · rw [if_pos e, (text_dot hS).1 e]; rfl
      · rw [if_neg e]
        unfold text
        rw [hR, if_neg (by decide), if_neg ?_]
        intro hp
        apply e
        unfold text
        rw [hR, if_neg (by decide), if_pos hp]
    · unfold lits text
      rw [← hr, hR, if_neg (by decide)]
      by_cases hp : parts T = []
      · rw [if_pos hp, if_pos ⟨rfl, hp⟩]; rfl
      · rw [if_neg hp, if_neg (fun e => hp e.2)]

end Pl
end Go.Proofs.Ytgkbkocakinmfaa
