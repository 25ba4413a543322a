/-
  PLAIN FACTS ON GOING UP BY Dir: what Dir has of a clean absolute path, and how often one must go up to what lies above a target. No program in sight. Conditions: none.
-/
import Derived.Test.YtgkbkocakinmfaaDoorPlainBelow
import Derived.Test.YtgkbkocakinmfaaDoorPlainSplit
namespace Go.Proofs.YtgkbkocakinmfaaDoor
namespace Pl
open Go.Lib

theorem tw_rev (d n : Bs) (h : 47 ∉ n) : (d ++ 47 :: n).reverse.takeWhile (· != 47) = n.reverse := by
  rw [List.reverse_append, List.reverse_cons, List.append_assoc]
  exact Eq.trans (List.takeWhile_append_of_pos (fun a ha => by
    have : a ≠ 47 := fun e => h (by rw [← e]; exact List.mem_reverse.1 ha)
    simpa using this)) (by simp)
theorem split_last (d n : Bs) (h : 47 ∉ n) : (Pa.split (d ++ 47 :: n)).2 = n := by
  have e := split_app (d ++ 47 :: n)
  have h0 := split_no47 (d ++ 47 :: n)
  have k := tw_rev d n h
  rcases split_head (d ++ 47 :: n) with hd | ⟨d', hd⟩
  · rw [hd, List.nil_append] at e
    exact absurd (by rw [e]; simp) h0
  · rw [hd] at e
    generalize (Pa.split (d ++ 47 :: n)).2 = f at *
    rw [← e, List.append_assoc] at k
    have k2 := tw_rev d' f h0
    exact List.reverse_inj.1 (k2.symm.trans k)

theorem dir_text {A : Place} (hA : Good A) (hr : A.rooted = true) {ns : List Bs} {n : Bs} (hn : A.names = ns ++ [n]) : Pa.clean (Pa.split (text A)).1 = text ⟨A.rooted, A.up, ns⟩ := by
  have hnm : Nm n := hA.nm n (by rw [hn]; simp)
  have hp : parts A = (List.replicate A.up [46, 46] ++ ns) ++ [n] := by unfold parts; rw [hn]; simp
  have ht : ∃ d, text A = d ++ 47 :: n := by
    have t1 : text A = 47 :: inter (parts A) := by unfold text; rw [if_pos hr]
    rw [t1, hp]
    by_cases h0 : List.replicate A.up [46, 46] ++ ns = []
    · rw [h0]; exact ⟨[], by rw [List.nil_append, List.nil_append, inter_one]⟩
    · rw [inter_snoc _ _ h0]; exact ⟨47 :: inter (List.replicate A.up [46, 46] ++ ns), rfl⟩
  obtain ⟨d, hd⟩ := ht
  have h2 : (Pa.split (text A)).2 = n := by rw [hd]; exact split_last d n hnm.2.2.2
  have k := to_split (text A) (by rw [h2]; exact hnm)
  rw [to_text hA, h2] at k
  rw [clean_eq]
  congr 1
  have e1 := congrArg Place.rooted k
  have e2 := congrArg Place.up k
  have e3 := congrArg Place.names k
  rw [hn] at e3
  exact Place.eq_of e1.symm e2.symm (List.append_inj_left' e3 rfl).symm

theorem cp_take : ∀ (m : Nat) (A B : List Bs), m ≤ A.length → cp (A.take m) B = min m (cp A B)
  | 0, A, B, _ => by rw [List.take_zero, cp_nil_left, Nat.zero_min]
  | m + 1, [], B, h => by simp at h
  | m + 1, a :: A, [], _ => by rw [cp_nil_right, cp_nil_right]; simp
  | m + 1, a :: A, b :: B, h => by
    rw [List.take_succ_cons]
    by_cases e : a = b
    · subst e
      rw [cp_cons_same, cp_cons_same, cp_take m A B (by simpa using h)]
      omega
    · rw [cp_cons_ne _ _ e, cp_cons_ne _ _ e]; simp

/-- the place so many steps above -/
def upK (A : Place) (k : Nat) : Place := ⟨A.rooted, A.up, A.names.take (A.names.length - k)⟩
theorem good_upK {A : Place} (h : Good A) (k : Nat) : Good (upK A k) := ⟨h.up0, fun e he => h.nm e (List.mem_of_mem_take he)⟩
theorem way_upK {A B r : Place} (hu : A.up = B.up) (h : way A B = some r) (k : Nat) : ∃ q, way (upK A k) B = some q ∧ q.up = r.up - k := by
  have hr := (way_cases h).1
  rw [way_eq hr hu] at h
  refine ⟨_, way_eq (a := upK A k) (b := B) hr hu, ?_⟩
  rw [← Option.some.inj h]
  show (A.names.take (A.names.length - k)).length - cp (A.names.take (A.names.length - k)) B.names = A.names.length - cp A.names B.names - k
  rw [List.length_take, cp_take _ _ _ (by omega)]
  omega
theorem way_up_len {A B r : Place} (hu : A.up = B.up) (h : way A B = some r) : r.up ≤ A.names.length := by
  have hr := (way_cases h).1
  rw [way_eq hr hu] at h
  rw [← Option.some.inj h]
  exact Nat.sub_le _ _

/-- before the last step up: the test goes on, and Dir is the place above; at the last one it stops -/
theorem dirs_go {A B r : Place} (hA : Good A) (hB : Good B) (hr : A.rooted = true) (h : way A B = some r) (k : Nat) (hk : k < r.up) :
    text (upK A k) ≠ [47] ∧ text (upK A k) ≠ text B ∧ ¬ (text (upK A k) ++ [47] <+: text B) ∧ Pa.clean (Pa.split (text (upK A k))).1 = text (upK A (k + 1)) := by
  have hu : A.up = B.up := by rw [hA.up0 hr, hB.up0 ((way_cases h).1 ▸ hr)]
  obtain ⟨q, hq, hqu⟩ := way_upK hu h k
  have hg := good_upK hA k
  have hl := way_up_len hu h
  have bp := below_plain hg hB hq (fun e => e.2 (hA.up0 hr))
  have hne : ¬ q.up = 0 := by omega
  refine ⟨fun e => hne (bp.2 (.inr (.inr (.inl e)))), fun e => hne (bp.2 (.inl e.symm)), fun e => hne (bp.2 (.inr (.inl e))), ?_⟩
  have hlt : A.names.length - (k + 1) < A.names.length := by omega
  have e1 : (upK A k).names = A.names.take (A.names.length - (k + 1)) ++ [A.names[A.names.length - (k + 1)]] := by
    show A.names.take (A.names.length - k) = _
    rw [← List.take_succ_eq_append_getElem hlt]
    congr 1
    omega
  exact dir_text hg hr e1
theorem dirs_stop {A B r : Place} (hA : Good A) (hB : Good B) (hr : A.rooted = true) (h : way A B = some r) :
    text (upK A r.up) = [47] ∨ text (upK A r.up) = text B ∨ text (upK A r.up) ++ [47] <+: text B := by
  have hu : A.up = B.up := by rw [hA.up0 hr, hB.up0 ((way_cases h).1 ▸ hr)]
  obtain ⟨q, hq, hqu⟩ := way_upK hu h r.up
  have hg := good_upK hA r.up
  have bp := below_plain hg hB hq (fun e => e.2 (hA.up0 hr))
  rcases bp.1 (by omega) with e | e | e | e
  · exact .inr (.inl e.symm)
  · exact .inr (.inr e)
  · exact .inl e
  · have := e.1
    have k := (text_dot hg).1 this
    have h1 : (upK A r.up).rooted = true := hr
    rw [k] at h1
    cases h1
theorem upK_zero (A : Place) : upK A 0 = A := Place.eq_of rfl rfl (by show A.names.take (A.names.length - 0) = _; rw [Nat.sub_zero, List.take_length])
end Pl
end Go.Proofs.YtgkbkocakinmfaaDoor
