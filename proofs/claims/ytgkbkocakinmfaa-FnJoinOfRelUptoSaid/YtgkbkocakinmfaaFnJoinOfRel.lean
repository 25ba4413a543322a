/-
  laws.FnJoinOfRel returns true at every two paths and every slice of further elements. Conditions: all together, with one byte for each further element, are no longer than 2^20 bytes.
-/
import Derived.Test.YtgkbkocakinmfaaSpecJoin
namespace Go.Proofs.Ytgkbkocakinmfaa
open Go.RowKit Go.Lib

theorem joinOf_walk (a b r q : ByteArray) (ok : Bool) (j : ByteArray) (ao : Option Addr) (len cap : Nat) (l : List ByteArray) (w : World) (hl : l.length ≤ 1048576) (hR : Rd (fun _ => True) w (.slice ao len cap) l)
    (hq : q = if ok = true then r else a) (K : RelC a b r ok) (JL : JoinL ([a, q] ++ l) j) (SJ : ∀ (W : World) (v : Value), Rd (w.heap.size ≤ ·) W v ([a, q] ++ l) → Calls Try.prog 21 #[v] W fun e w' => e = .returned (.string j) ∧ Below W.heap.size W w') :
    Calls Try.prog 5 #[.string a, .string b, .slice ao len cap] w fun e w' => e = .returned (.bool true) ∧ Below w.heap.size w w' := by
  have C9 := wakes_c
  have HR := Lib.hid hR
  have HSJ := Lib.hid SJ
  have hjj := beq_true j
  clear hR SJ
  cases ok with
  | false =>
    simp only [Bool.false_eq_true, if_false] at hq
    subst hq
    have HB0 := Lib.hid (Below.refl w.heap.size w)
    go_enter Try.func5, Try.ntmps5
    go_wp2_with fail
    refine (K _).mono ?_
    rintro x w1 ⟨rfl, hb1⟩
    have HB1 := Lib.hid hb1
    have HO1 : Hid (Owns (w1.alloc (.cells #[.string q, .string q] 9)) w.heap.size (.slice (some ⟨w1.heap.size, 0, none⟩) 2 2) [q, q]) := Owns.new w1 w.heap.size hb1.size [q, q] (by simp [maxLen])
    have HR1 : Hid (Rd (fun _ => True) (w1.alloc (.cells #[.string q, .string q] 9)) (.slice ao len cap) l) := (HR.out.below hb1).below ((Below.refl _ _).alloc (Nat.le_refl _) _)
    clear hb1
    go_wp2_with (at_builtin; refine append_rd (S := fun _ => True) _ rfl _ _ rfl w.heap.size _ [q, q] rfl HO1.out (.slice ao len cap) l rfl HR1.out ?c1 ?c2 ?_)
    case c1 => simp; omega
    case c2 => have := HB1.out.size; simp; omega
    intro v2 w2 hown hb2
    have HB2 := Lib.hid ((HB1.out.alloc HB1.out.size (.cells #[.string q, .string q] 9)).trans hb2)
    have HO2 := Lib.hid hown
    clear hown hb2 HO1 HR1 HB1
    go_wp2_with fail
    refine (JL _ _ _ HO2.out).mono ?_
    rintro x w3 ⟨rfl, hb3⟩
    have HB3 := Lib.hid (HB2.out.trans (hb3.mono HB2.out.size))
    have HO3 := Lib.hid (HO2.out.below hb3).rd
    clear hb3 HB2 HO2
    go_wp2_with fail
    refine (HSJ.out _ _ HO3.out).mono ?_
    rintro e w4 ⟨rfl, hb4⟩
    have HB4 := Lib.hid (HB3.out.trans (hb4.mono HB3.out.size))
    clear hb4 HB3
    go_wp2_with fail
    refine (C9 _).mono ?_
    rintro e w5 ⟨rfl, hb5⟩
    have HB5 := Lib.hid (HB4.out.trans (hb5.mono HB4.out.size))
    clear hb5 HB4
    go_wp2_with fail
    go_ret
    exact ⟨rfl, HB5.out⟩
  | true =>
    simp only [if_true] at hq
    subst hq
    have HB0 := Lib.hid (Below.refl w.heap.size w)
    go_enter Try.func5, Try.ntmps5
    go_wp2_with fail
    refine (K _).mono ?_
    rintro x w1 ⟨rfl, hb1⟩
    have HB1 := Lib.hid hb1
    have HO1 : Hid (Owns (w1.alloc (.cells #[.string a, .string q] 9)) w.heap.size (.slice (some ⟨w1.heap.size, 0, none⟩) 2 2) [a, q]) := Owns.new w1 w.heap.size hb1.size [a, q] (by simp [maxLen])
    have HR1 : Hid (Rd (fun _ => True) (w1.alloc (.cells #[.string a, .string q] 9)) (.slice ao len cap) l) := (HR.out.below hb1).below ((Below.refl _ _).alloc (Nat.le_refl _) _)
    clear hb1
    go_wp2_with (at_builtin; refine append_rd (S := fun _ => True) _ rfl _ _ rfl w.heap.size _ [a, q] rfl HO1.out (.slice ao len cap) l rfl HR1.out ?d1 ?d2 ?_)
    case d1 => simp; omega
    case d2 => have := HB1.out.size; simp; omega
    intro v2 w2 hown hb2
    have HB2 := Lib.hid ((HB1.out.alloc HB1.out.size (.cells #[.string a, .string q] 9)).trans hb2)
    have HO2 := Lib.hid hown
    clear hown hb2 HO1 HR1 HB1
    go_wp2_with fail
    refine (JL _ _ _ HO2.out).mono ?_
    rintro x w3 ⟨rfl, hb3⟩
    have HB3 := Lib.hid (HB2.out.trans (hb3.mono HB2.out.size))
    have HO3 := Lib.hid (HO2.out.below hb3).rd
    clear hb3 HB2 HO2
    go_wp2_with fail
    refine (HSJ.out _ _ HO3.out).mono ?_
    rintro e w4 ⟨rfl, hb4⟩
    have HB4 := Lib.hid (HB3.out.trans (hb4.mono HB3.out.size))
    clear hb4 HB3
    go_wp2_with fail
    refine (C9 _).mono ?_
    rintro e w5 ⟨rfl, hb5⟩
    have HB5 := Lib.hid (HB4.out.trans (hb5.mono HB4.out.size))
    clear hb5 HB4
    go_wp2_with fail
    go_ret
    exact ⟨rfl, HB5.out⟩

theorem sum_sizes (l : List ByteArray) : (l.map (fun s => s.size + 1)).sum = Pl.sumL (l.map (·.data.toList)) := by
  induction l with
  | nil => rfl
  | cons x l ih =>
    simp only [List.map_cons, List.sum_cons, Pl.sumL, ih]
    rw [Lib.size_eq]
theorem lens_sumL (L : List Pl.Bs) : Lib.lens L + L.length = Pl.sumL L := by
  induction L with
  | nil => rfl
  | cons x L ih =>
    unfold Lib.lens at *
    simp only [List.map_cons, List.sum_cons, Pl.sumL, List.length_cons] at *
    omega

theorem fnJoinOfRel_walk (a b : ByteArray) (ao : Option Addr) (len cap : Nat) (l : List ByteArray) (w : World) (hR : Rd (fun _ => True) w (.slice ao len cap) l) (h : a.size + b.size + (l.map (fun s => s.size + 1)).sum ≤ 1048576) :
    Calls Try.prog 5 #[.string a, .string b, .slice ao len cap] w fun e w' => e = .returned (.bool true) ∧ Below w.heap.size w w' := by
  have hs := sum_sizes l
  have hl := Pl.sumL_len (l.map (·.data.toList))
  rw [List.length_map] at hl
  have K := rel_c a b (by omega) (by omega)
  have z := Pl.rel_len a.data.toList b.data.toList
  rw [← Lib.size_eq, ← Lib.size_eq, ← bs_size] at z
  generalize bs (Pl.relS a.data.toList b.data.toList) = r at K z
  generalize Pl.relOk a.data.toList b.data.toList = ok at K
  generalize hq : (if ok = true then r else a) = q
  have hqz : q.size ≤ 7340044 := by
    rw [← hq]
    split <;> omega
  have ht : Pl.sumL (([a, q] ++ l).map (·.data.toList)) ≤ 16777216 := by
    rw [List.map_append, Pl.sumL_append]
    simp only [List.map_cons, List.map_nil, Pl.sumL]
    rw [← Lib.size_eq, ← Lib.size_eq]
    omega
  have hll := lens_sumL (([a, q] ++ l).map (·.data.toList))
  rw [List.length_map] at hll
  exact joinOf_walk a b r q ok _ ao len cap l w (by omega) hR hq.symm K (joinL_c _ (by simp) (by omega)) (fun W v hv => specJoin_c _ v W (by omega) hv)
end Go.Proofs.Ytgkbkocakinmfaa
