/-
  PLAIN FACTS ON THE ELEMENTS OF A PATH, as the laws count them. No program in sight. Conditions: none.
-/
import Derived.Test.YtgkbkocakinmfaaPlainJoin
import Derived.Lib.SplitLaws
namespace Go.Proofs.Ytgkbkocakinmfaa
namespace Pl
open Go.Lib

theorem index_cons_ne (c : UInt8) (l : Bs) (h : c ≠ 47) : Lib.index (c :: l) [47] = if Lib.index l [47] == -1 then -1 else Lib.index l [47] + 1 := by
  have hp : ([47] : List UInt8).isPrefixOf (c :: l) = false := by simp [List.isPrefixOf, Ne.symm h]
  rw [Lib.index, hp]
  simp
theorem index_cons_eq (l : Bs) : Lib.index (47 :: l) [47] = 0 := by rw [Lib.index]; simp [List.isPrefixOf]

/-- strings.Split at a slash gives the elements -/
theorem splitK_els (l : Bs) : Lib.splitK [47] 0 (Lib.count l [47]) l = Pa.els l := by
  induction l with
  | nil =>
    have : Lib.count [] [47] = 0 := by rw [Lib.count_one]; rfl
    rw [this]
    rfl
  | cons c t ih =>
    by_cases hc : c = 47
    · subst hc
      rw [Lib.count_cons_eq, Nat.add_comm, Pa.els_slash, ← ih, Lib.splitK, index_cons_eq]
      rfl
    · obtain ⟨e, r, hels⟩ := Pa.els_ne t
      rw [Pa.els, if_neg hc, hels, Lib.count_cons_ne c 47 t hc]
      rw [hels] at ih
      have hge := Lib.index_ge t [47]
      by_cases hm : Lib.index t [47] = -1
      · have h0 : Lib.count t [47] = 0 := Lib.count_miss hm
        rw [h0] at ih ⊢
        have : t = e ∧ [] = r := List.cons.inj ih
        show [c :: t] = _
        rw [this.1, ← this.2]
      · obtain ⟨j, hj⟩ : ∃ j : Nat, Lib.index t [47] = j := ⟨(Lib.index t [47]).toNat, by omega⟩
        have hk := Lib.count_hit (s := t) (sub := [47]) (by simp) hj
        obtain ⟨k', hk'⟩ : ∃ k', Lib.count t [47] = k' + 1 := ⟨Lib.count t [47] - 1, by omega⟩
        rw [hk'] at ih ⊢
        have hne : ¬ (Lib.index t [47] == -1) = true := fun e => hm (beq_iff_eq.1 e)
        have hix : Lib.index (c :: t) [47] = ((j + 1 : Nat) : Int) := by rw [index_cons_ne c t hc, if_neg hne, hj]; omega
        have hne2 : ¬ (Lib.index (c :: t) [47] == -1) = true := fun e => by have := beq_iff_eq.1 e; omega
        rw [Lib.splitK, if_neg hne, hj] at ih
        rw [Lib.splitK, if_neg hne2, hix]
        have e1 := List.cons.inj ih
        rw [Int.toNat_natCast] at e1 ⊢
        simp only [Nat.add_zero, List.take_succ_cons, List.length_cons, List.length_nil] at e1 ⊢
        rw [← e1.1, ← e1.2]
        rw [show j + 1 + (0 + 1) = (j + (0 + 1)) + 1 by omega, List.drop_succ_cons]

def stepsL (l : Bs) : List Bs := if l = [46] then [] else Pa.els l
def upsN (l : Bs) : Nat := (stepsL l).count [46, 46]

theorem stepsL_text {A : Place} (h : Good A) (hr : A.rooted = false) : stepsL (text A) = parts A := by
  unfold stepsL
  by_cases hp : parts A = []
  · have : text A = [46] := by unfold text; rw [hr, if_neg (by decide), if_pos hp]
    rw [if_pos this, hp]
  · have ht : text A = inter (parts A) := by unfold text; rw [hr, if_neg (by decide), if_neg hp]
    have hne : text A ≠ [46] := by
      intro e
      have := (text_dot h).1 e
      rw [this] at hp
      exact hp rfl
    rw [if_neg hne, ht, els_inter _ hp (fun e he => (parts_el h e he).2)]
theorem count_parts {A : Place} (h : Good A) : (parts A).count [46, 46] = A.up := by
  unfold parts
  rw [List.count_append, List.count_replicate_self, List.count_eq_zero_of_not_mem (fun hm => (h.nm _ hm).2.2.1 rfl)]
  rfl
theorem upsN_text {A : Place} (h : Good A) : upsN (text A) = A.up := by
  unfold upsN
  cases hr : A.rooted with
  | false => rw [stepsL_text h hr, count_parts h]
  | true =>
    have ht : text A = 47 :: inter (parts A) := by unfold text; rw [if_pos hr]
    have h0 := h.up0 hr
    unfold stepsL
    rw [ht, if_neg (by simp), Pa.els_slash]
    by_cases hp : parts A = []
    · rw [hp, h0]; rfl
    · rw [els_inter _ hp (fun e he => (parts_el h e he).2)]
      have := count_parts h
      rw [List.count_cons, this, h0]
      rfl
theorem upsN_clean (l : Bs) : upsN (Pa.clean l) = (to l).up := by rw [clean_eq, upsN_text (good_to l)]
theorem stepsL_way {a b r : Place} (hb : Good b) (h : way a b = some r) : stepsL (text r) = parts r := stepsL_text (good_way hb h) (way_cases h).2.1
theorem parts_len (A : Place) : (parts A).length = A.up + A.names.length := by unfold parts; simp
end Pl
end Go.Proofs.Ytgkbkocakinmfaa
