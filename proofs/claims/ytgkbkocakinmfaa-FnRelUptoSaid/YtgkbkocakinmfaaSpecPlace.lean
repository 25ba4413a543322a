/-
  The reference's places: what parent and child return, for every place. Conditions: as each theorem states them.
-/
import Derived.Test.YtgkbkocakinmfaaOwn
import Derived.Laws.AppendOwnNone
namespace Go.Proofs.Ytgkbkocakinmfaa
open Go.RowKit Go.Lib

/-- a slice of strings that can be read; it lies in a block of which S holds -/
def Rd (S : Nat → Prop) (w : World) (v : Value) (l : List ByteArray) : Prop := (l = [] ∧ ∃ ao cap, v = .slice ao 0 cap ∧ (ao = none → cap = 0)) ∨
  (l ≠ [] ∧ ∃ b off cap, v = .slice (some ⟨b, off, none⟩) l.length cap ∧ l.length ≤ cap ∧ S b ∧ b < w.heap.size ∧ ∀ k (hk : k < l.length), w.cell? ⟨b, off + k, none⟩ = some (.string l[k]))
theorem Rd.below {S : Nat → Prop} {w w' : World} {v : Value} {l : List ByteArray} (h : Rd S w v l) (hb : Below w.heap.size w w') : Rd S w' v l := by
  rcases h with h | ⟨h0, b, off, cap, e, hc, hS, hlt, hk⟩
  · exact .inl h
  · exact .inr ⟨h0, b, off, cap, e, hc, hS, Nat.lt_of_lt_of_le hlt hb.size, fun k hk' => (hb.cell (by exact hlt)).trans (hk k hk')⟩
theorem Rd.mono {S S' : Nat → Prop} {w : World} {v : Value} {l : List ByteArray} (h : Rd S w v l) (hS' : ∀ b, b < w.heap.size → S b → S' b) : Rd S' w v l := by
  rcases h with h | ⟨h0, b, off, cap, e, hc, hS, hlt, hk⟩
  · exact .inl h
  · exact .inr ⟨h0, b, off, cap, e, hc, hS' b hlt hS, hlt, hk⟩
theorem Rd.set {S : Nat → Prop} {w : World} {v : Value} {l : List ByteArray} (h : Rd S w v l) (a : Addr) (u : Value) (ha : ¬ S a.block) : Rd S (w.setCell a u) v l := by
  rcases h with h | ⟨h0, b, off, cap, e, hc, hS, hlt, hk⟩
  · exact .inl h
  · refine .inr ⟨h0, b, off, cap, e, hc, hS, by simpa [World.setCell] using hlt, fun k hk' => ?_⟩
    exact (World.cell?_of_block (w := w) (Below.heap_setCell _ _ _ _ (fun e => ha (e ▸ hS)))).trans (hk k hk')
theorem Rd.nil (S : Nat → Prop) (w : World) : Rd S w (.slice none 0 0) [] := .inl ⟨rfl, none, 0, rfl, fun _ => rfl⟩
theorem Owns.rd {w : World} {B : Nat} {v : Value} {l : List ByteArray} (h : Owns w B v l) : Rd (B ≤ ·) w v l := by
  by_cases hl : l = []
  · subst hl
    rcases h.2 with ⟨hv, _⟩ | ⟨g, cap, cur, hv, _⟩
    · exact .inl ⟨rfl, none, 0, hv, fun _ => rfl⟩
    · exact .inl ⟨rfl, some ⟨g, 0, none⟩, cap, hv, fun e => by cases e⟩
  · rcases h.2 with ⟨_, hn⟩ | ⟨g, cap, cur, hv, hb, hg, hle, rest⟩
    · exact absurd (List.length_eq_zero_iff.1 hn) hl
    · have hlt := World.ownsRow.lt h g (by rw [hv]; rfl)
      have hc := World.ownsRow.cells h (by rw [hv]; rfl)
      refine .inr ⟨hl, g, 0, cap, hv, hle, hb, hlt.2, fun k hk => ?_⟩
      have := hc k _ (strs_at l k hk)
      rw [add_at] at this
      rw [Nat.zero_add]
      exact this

/-- a place as the reference holds it -/
def PV (S : Nat → Prop) (w : World) (v : Value) (P : Pl.Place) : Prop := ∃ nv, v = .agg #[.bool P.rooted, .int .i64 P.up, nv] ∧ Rd S w nv (P.names.map bs)
theorem PV.below {S : Nat → Prop} {w w' : World} {v : Value} {P : Pl.Place} (h : PV S w v P) (hb : Below w.heap.size w w') : PV S w' v P := by
  obtain ⟨nv, e, hr⟩ := h
  exact ⟨nv, e, hr.below hb⟩
theorem PV.mono {S S' : Nat → Prop} {w : World} {v : Value} {P : Pl.Place} (h : PV S w v P) (hS' : ∀ b, b < w.heap.size → S b → S' b) : PV S' w v P := by
  obtain ⟨nv, e, hr⟩ := h
  exact ⟨nv, e, hr.mono hS'⟩

theorem two_allocs (w : World) (a b : Obj) : Below w.heap.size w ((w.alloc a).alloc b) := ((Below.refl _ _).alloc (Nat.le_refl _) _).alloc (by simp) _

theorem size_place : (Try.prog.info? 34).map (·.size) = some 3 := by kernel_rfl
/-- a place is returned out of the block that holds it -/
theorem ret_place {fn : Func} {p : Tmp} (h : fn.results = #[.cell p 34]) (tmps : Array Value) (w : World) (g : Nat) (cs : Array Value)
    (hp : tmps.getD p undef = .pointer (some ⟨g, 0, none⟩)) (hg : w.heap[g]? = some (.cells cs 34 (0, 0))) (hsz : cs.size = 3) : (results fn tmps).run Try.prog w = .ok (.agg cs) w :=
  results_cell_row h tmps w g _ cs (0, 0) _ hp hg Try.underlying34 rfl (by rw [hsz]; exact size_place)

theorem parent_names (b off n cap : Nat) (r : Bool) (u : Int) (w : World) (hn : n + 1 ≤ 1099511627776) (hc : n + 1 ≤ cap) :
    Calls Try.prog 40 #[.agg #[.bool r, .int .i64 u, .slice (some ⟨b, off, none⟩) (n + 1) cap]] w fun e w' => e = .returned (.agg #[.bool r, .int .i64 u, .slice (some ⟨b, off, none⟩) n cap]) ∧ Below w.heap.size w w' := by
  go_enter Try.func40, Try.ntmps40
  go_wp2_with fail
  refine bodyPost_ret (ret_place rfl _ _ (w.heap.size + 1) _ rfl (heap_alloc2_new _ _ _) rfl) rfl ?_
  exact ⟨rfl, two_allocs _ _ _⟩
theorem parent_root (ao : Option Addr) (cap : Nat) (u : Int) (w : World) :
    Calls Try.prog 40 #[.agg #[.bool true, .int .i64 u, .slice ao 0 cap]] w fun e w' => e = .returned (.agg #[.bool true, .int .i64 u, .slice ao 0 cap]) ∧ Below w.heap.size w w' := by
  go_enter Try.func40, Try.ntmps40
  go_wp2_with fail
  refine bodyPost_ret (ret_place rfl _ _ (w.heap.size + 1) _ rfl (heap_alloc2_new _ _ _) rfl) rfl ?_
  exact ⟨rfl, two_allocs _ _ _⟩
theorem parent_up (ao : Option Addr) (cap u : Nat) (w : World) (hu : u ≤ 1099511627776) :
    Calls Try.prog 40 #[.agg #[.bool false, .int .i64 u, .slice ao 0 cap]] w fun e w' => e = .returned (.agg #[.bool false, .int .i64 ((u : Int) + 1), .slice ao 0 cap]) ∧ Below w.heap.size w w' := by
  go_enter Try.func40, Try.ntmps40
  go_wp2_with fail
  refine bodyPost_ret (ret_place rfl _ _ (w.heap.size + 1) _ rfl (heap_alloc2_new _ _ _) rfl) rfl ?_
  exact ⟨rfl, two_allocs _ _ _⟩

theorem parent_c {S : Nat → Prop} (P : Pl.Place) (v : Value) (w : World) (hn : P.names.length + P.up ≤ 1099511627776) (h : PV S w v P) :
    Calls Try.prog 40 #[v] w fun e w' => (∃ v', e = .returned v' ∧ PV S w' v' (Pl.above P)) ∧ Below w.heap.size w w' := by
  obtain ⟨nv, rfl, hr⟩ := h
  rcases hr with ⟨h0, ao, cap, rfl, hao⟩ | ⟨h0, b, off, cap, rfl, hc, hS, hlt, hk⟩
  · have h1 : P.names = [] := List.map_eq_nil_iff.1 h0
    cases hr : P.rooted with
    | true =>
      refine (parent_root ao cap P.up w).mono ?_
      rintro e w' ⟨rfl, hb⟩
      refine ⟨⟨_, rfl, .slice ao 0 cap, ?_, ?_⟩, hb⟩
      · unfold Pl.above; rw [if_pos h1, if_pos hr, hr]
      · unfold Pl.above; rw [if_pos h1, if_pos hr, h0]; exact .inl ⟨rfl, ao, cap, rfl, hao⟩
    | false =>
      refine (parent_up ao cap P.up w (by omega)).mono ?_
      rintro e w' ⟨rfl, hb⟩
      refine ⟨⟨_, rfl, .slice ao 0 cap, ?_, ?_⟩, hb⟩
      · unfold Pl.above; rw [if_pos h1, hr, if_neg (by decide)]; rfl
      · unfold Pl.above; rw [if_pos h1, hr, if_neg (by decide)]; exact .inl ⟨rfl, ao, cap, rfl, hao⟩
  · have h1 : P.names ≠ [] := fun e => h0 (by rw [e]; rfl)
    obtain ⟨ns, x, hx⟩ : ∃ ns x, P.names = ns ++ [x] := ⟨_, _, (List.dropLast_concat_getLast h1).symm⟩
    have hl : (P.names.map bs).length = ns.length + 1 := by rw [hx]; simp
    have hl2 : P.names.length = ns.length + 1 := by rw [hx]; simp
    have ea : Pl.above P = ⟨P.rooted, P.up, ns⟩ := by unfold Pl.above; rw [if_neg h1, hx]; simp
    rw [hl] at hc ⊢
    refine (parent_names b off ns.length cap P.rooted P.up w (by omega) hc).mono ?_
    rintro e w' ⟨rfl, hb⟩
    refine ⟨⟨_, rfl, .slice (some ⟨b, off, none⟩) ns.length cap, by rw [ea], ?_⟩, hb⟩
    rw [ea]
    show Rd S w' _ (ns.map bs)
    by_cases h2 : ns = []
    · subst h2; exact .inl ⟨rfl, _, cap, rfl, fun e => by cases e⟩
    · refine .inr ⟨by simpa using h2, b, off, cap, by rw [List.length_map], by rw [List.length_map]; omega, hS, Nat.lt_of_lt_of_le hlt hb.size, fun k hk' => ?_⟩
      rw [List.length_map] at hk'
      refine (hb.cell (by exact hlt)).trans ?_
      rw [hk k (by rw [hl]; omega)]
      congr 2
      simp only [List.getElem_map, hx]
      rw [List.getElem_append_left hk']

/-- 'append' of all strings of a slice that can be read -/
theorem append_rd {S : Nat → Prop} {ops : Array Oper} {rest : List Oper} {o : Oper} {a : Act} {Q : Exit → Act → World → Prop} (w : World) (hgd : o.guard = none) (s x : Operand)
    (ho : o.op = .call { callee := .builtin .append, args := #[s, x], argTypes := #[27, 27] })
    (B : Nat) (v : Value) (l : List ByteArray) (hs : a.eval s = v) (hown : Owns w B v l) (y : Value) (ys : List ByteArray) (hx : a.eval x = y) (hy : Rd S w y ys)
    (hlen : l.length + ys.length ≤ 8796093022208) (hB : B ≤ w.heap.size)
    (h : ∀ v' w', Owns w' B v' (l ++ ys) → Below B w w' → wpList Try.prog ops Q rest (a.put o.dst v') w') : wpList Try.prog ops Q (o :: rest) a w := by
  obtain ⟨i0, hi, hz0, hz1, hz2⟩ := info_parts info_str
  have e1 : (l ++ ys).length = l.length + ys.length := List.length_append
  have own : ∀ (ad : Addr) (c : Nat), y = .slice (some ad) ys.length c → (∀ j u, (strs ys)[j]? = some u → w.cell? (ad.add j) = some u) → wpList Try.prog ops Q (o :: rest) a w := by
    intro ad c hyv hc
    refine wpList_append_own w hgd s x 27 ho B 9 i0 (.string ⟨#[]⟩) 1 16 und_strs hi hz0 hz1 hz2 rfl (by decide) v l.length (strs l) hs hown ad ys.length c (strs ys) (hx.trans hyv) (by rw [strs_len, Nat.mul_one]) hc (strs_one ys)
      (by unfold maxLen; omega) (by omega) hB ?_
    intro v' w' hown' hgr _
    refine h v' w' ?_ (Below.grown (Below.refl B w) hgr hB (fun k e => (World.ownsRow.lt hown k e).1))
    unfold Owns
    rw [e1, strs_app]
    exact hown'
  rcases hy with ⟨rfl, ao, cap, hv, hao⟩ | ⟨h0, b, off, cap, hv, hc, hS, hlt, hk⟩
  · cases ao with
    | none =>
      rw [hao rfl] at hv
      refine wpList_append_own_none hgd s x 27 ho B 9 i0 1 und_strs hi v l.length (strs l) hs hown (hx.trans hv) ?_
      exact h v w (by rw [List.append_nil]; exact hown) (Below.refl _ _)
    | some ad => exact own ad cap hv (fun j u hj => by cases hj)
  · refine own ⟨b, off, none⟩ cap hv (fun j u hj => ?_)
    have hj' : j < ys.length := by
      have := (List.getElem?_eq_some_iff.1 hj).1
      rw [strs_len] at this
      exact this
    rw [strs_at ys j hj'] at hj
    rw [← Option.some.inj hj, ← hk j hj']
    congr 1
    exact WideShapes.add_plain b off j

/-- a block of three cells -/
theorem row3 {w : World} {g : Nat} {a b c : Value} {t : TypeId} (h : w.heap[g]? = some (.cells #[a, b, c] t (0, 0))) :
    (w.cell? ⟨g, 0, none⟩ = some a ∧ w.cell? ⟨g, 1, none⟩ = some b ∧ w.cell? ⟨g, 2, none⟩ = some c) ∧ (w.frozen? ⟨g, 0, none⟩ = false ∧ w.frozen? ⟨g, 1, none⟩ = false ∧ w.frozen? ⟨g, 2, none⟩ = false) := by
  simp [World.cell?, World.frozen?, h]

theorem set3 {w : World} {g : Nat} {a b c a' b' c' : Value} {t : TypeId} (h : w.heap[g]? = some (.cells #[a, b, c] t (0, 0))) :
    (((w.setCell ⟨g, 0, none⟩ a').setCell ⟨g, 1, none⟩ b').setCell ⟨g, 2, none⟩ c').heap[g]? = some (.cells #[a', b', c'] t (0, 0)) := by
  simp [World.setCell, Array.getElem?_modify, h]

theorem child_walk {S : Nat → Prop} (r : Bool) (u : Int) (nv : Value) (l : List ByteArray) (name : ByteArray) (w : World) (hl : l.length ≤ 1099511627776) (hr : Rd S w nv l) :
    Calls Try.prog 42 #[.agg #[.bool r, .int .i64 u, nv], .string name] w fun e w' => ∃ v, e = .returned (.agg #[.bool r, .int .i64 u, v]) ∧ Rd (w.heap.size + 2 ≤ ·) w' v (l ++ [name]) ∧ Below w.heap.size w w' := by
  have HR := Lib.hid hr
  clear hr
  go_enter Try.func42, Try.ntmps42
  go_wp2_with (at_builtin; refine append_rd (S := S) _ rfl _ _ rfl (w.heap.size + 2) _ [] rfl (Owns.nil _ _) nv l rfl ?c1 ?c2 ?c3 ?_)
  case c1 => exact HR.out.below (two_allocs _ _ _)
  case c2 => simp; omega
  case c3 => simp
  intro v1 w1 hown1 hb1
  have hA1 : w1.heap[w.heap.size]? = some (.cells #[.bool r, .int .i64 u, nv] 34 (0, 0)) := (hb1.block _ (by omega)).trans (heap_alloc2_old _ _ _)
  have hZ1 : w1.heap[w.heap.size + 1]? = some (.cells #[.bool false, .int .i64 0, .slice none 0 0] 34 (0, 0)) := (hb1.block _ (by omega)).trans (heap_alloc2_new _ _ _)
  have hB1 : w.heap.size + 2 ≤ w1.heap.size := by have := hb1.size; simp at this; omega
  have HA1 := Lib.hid hA1
  have HZ1 := Lib.hid hZ1
  have HB1 := Lib.hid hB1
  have HL1 := Lib.hid (show Below w.heap.size w w1 from (two_allocs _ _ _).trans (hb1.mono (by omega)))
  have HO1 : Hid (Seen (w1.alloc (.cells #[.string name] 9)) (w.heap.size + 2) v1 l) := .inr (hown1.below ((Below.refl _ _).alloc (Nat.le_refl _) _))
  clear hA1 hZ1 hB1 hown1 hb1 HR
  go_wp2_with (at_builtin; refine append_seen _ rfl _ _ rfl (w.heap.size + 2) _ l rfl HO1.out ⟨w1.heap.size, 0, none⟩ 1 [name] (by simp) rfl ?c1 ?c2 ?c3 ?_)
  case c1 =>
    intro i z hi
    match i, hi with
    | 0, hi =>
      have : z = .string name := by simpa [strs] using hi.symm
      rw [this]
      first | rfl | (rw [add_at, World.cell?_alloc_new]; rfl)
  case c2 => simp; omega
  case c3 => have := HB1.out; simp; omega
  intro v2 w2 hown2 hb2
  have hA2 : w2.heap[w.heap.size]? = some (.cells #[.bool r, .int .i64 u, nv] 34 (0, 0)) := (hb2.block _ (by omega)).trans ((heap_alloc_old _ _ (by have := HB1.out; omega)).trans HA1.out)
  have hZ2 : w2.heap[w.heap.size + 1]? = some (.cells #[.bool false, .int .i64 0, .slice none 0 0] 34 (0, 0)) := (hb2.block _ (by omega)).trans ((heap_alloc_old _ _ (by have := HB1.out; omega)).trans HZ1.out)
  obtain ⟨⟨a0, a1, a2⟩, f0, f1, f2⟩ := row3 hA2
  obtain ⟨⟨z0, z1, z2⟩, g0, g1, g2⟩ := row3 hZ2
  have HA2 := Lib.hid hA2
  have HZ2 := Lib.hid hZ2
  obtain ⟨g3, c3, hv2, _, _, _⟩ := hown2.cells (by simp)
  subst hv2
  have HO2 := Lib.hid hown2
  generalize (l ++ [name]).length = n3 at HO2 ⊢
  have HL2 := Lib.hid (show Below w.heap.size w w2 from (HL1.out.alloc HL1.out.size _).trans (hb2.mono (by omega)))
  clear hA2 hZ2 hown2 hb2
  go_wp2_with fail
  refine bodyPost_ret (ret_place rfl _ _ (w.heap.size + 1) _ rfl (set3 ((Below.heap_setCell _ _ _ _ (by simp)).trans HZ2.out)) rfl) rfl ?_
  refine ⟨_, rfl, ?_, (((HL2.out.setCell (by simp) _).setCell (by simp) _).setCell (by simp) _).setCell (by simp) _⟩
  refine Owns.rd (B := w.heap.size + 2) ?_
  refine ownsRow_setCell_below ?_ (by simp) _
  refine ownsRow_setCell_below ?_ (by simp) _
  refine ownsRow_setCell_below ?_ (by simp) _
  exact ownsRow_setCell_below HO2.out (by simp) _

theorem child_c {S : Nat → Prop} (P : Pl.Place) (v : Value) (x : Pl.Bs) (w : World) (hx : Pl.Nm x) (hn : P.names.length ≤ 1099511627776) (hS : ∀ b, w.heap.size ≤ b → S b) (h : PV S w v P) :
    Calls Try.prog 42 #[v, .string (bs x)] w fun e w' => (∃ v', e = .returned v' ∧ PV S w' v' (Pl.into P x)) ∧ Below w.heap.size w w' := by
  obtain ⟨nv, rfl, hr⟩ := h
  refine (child_walk P.rooted P.up nv (P.names.map bs) (bs x) w (by rw [List.length_map]; exact hn) hr).mono ?_
  rintro e w' ⟨v, rfl, hv, hb⟩
  refine ⟨⟨_, rfl, v, ?_, ?_⟩, hb⟩
  · rw [Pl.into_nm P hx]
  · rw [Pl.into_nm P hx]
    show Rd S w' v ((P.names ++ [x]).map bs)
    rw [List.map_append]
    exact hv.mono fun b _ hb' => hS b (by omega)
end Go.Proofs.Ytgkbkocakinmfaa
