/-
  A slice of strings that a call has made, and 'append' to it: what the laws' walks use. Conditions: as each theorem states them.
-/
import Derived.Test.YtgkbkocakinmfaaC
import Derived.ArgAppend
import Derived.OwnWalk
namespace Go.Proofs.Ytgkbkocakinmfaa
open Go.RowKit Go.Lib

theorem und_strs : Try.prog.underlying 27 = some (.slice 9) := by kernel_rfl
theorem info_str : (Try.prog.info? 9).map (fun i => (i.zero, i.size, i.bytes)) = some (some (.string ⟨#[]⟩), 1, 16) := by kernel_rfl

def strs (l : List ByteArray) : List Value := l.map Value.string
theorem strs_app (l k : List ByteArray) : strs (l ++ k) = strs l ++ strs k := List.map_append
theorem strs_len (l : List ByteArray) : (strs l).length = l.length := List.length_map ..
theorem strs_one (l : List ByteArray) : ∀ u ∈ strs l, u.oneCell' = true := by
  intro u hu
  obtain ⟨x, _, rfl⟩ := List.mem_map.1 hu
  rfl
theorem strs_at (l : List ByteArray) (j : Nat) (hj : j < l.length) : (strs l)[j]? = some (.string l[j]) := by
  unfold strs
  rw [List.getElem?_map, List.getElem?_eq_getElem hj]
  rfl

theorem add_at (g j : Nat) : (⟨g, 0, none⟩ : Addr).add j = ⟨g, j, none⟩ := by
  by_cases h : j = 0
  · subst h; simp [Addr.add]
  · simp [Addr.add, h]

/-- the slice v of strings l is the call's own, from block B on -/
def Owns (w : World) (B : Nat) (v : Value) (l : List ByteArray) : Prop := w.ownsRow B 9 1 v l.length (strs l)
/-- the slice v of strings l lies below block B, and has no room -/
def Full (w : World) (B : Nat) (v : Value) (l : List ByteArray) : Prop :=
  ∃ g, g < B ∧ v = .slice (some ⟨g, 0, none⟩) l.length l.length ∧ ∀ j u, (strs l)[j]? = some u → w.cell? ((⟨g, 0, none⟩ : Addr).add j) = some u
def Seen (w : World) (B : Nat) (v : Value) (l : List ByteArray) : Prop := Full w B v l ∨ Owns w B v l

theorem grown_of_below {w w' : World} (h : Below w.heap.size w w') : w.grownBy w' none := ⟨h.os, h.tape, h.output, h.size, fun k hk _ => h.block k hk⟩
theorem Owns.below {w w' : World} {B : Nat} {v : Value} {l : List ByteArray} (h : Owns w B v l) (hb : Below w.heap.size w w') : Owns w' B v l :=
  World.ownsRow.kept h (grown_of_below hb) (by cases hv : v.ownBlock <;> simp)
theorem Full.below {w w' : World} {B : Nat} {v : Value} {l : List ByteArray} (h : Full w B v l) (hb : Below B w w') : Full w' B v l := by
  obtain ⟨g, hg, hv, hc⟩ := h
  exact ⟨g, hg, hv, fun j u hj => (hb.cell (by rw [add_at]; exact hg)).trans (hc j u hj)⟩
theorem Seen.below {w w' : World} {B : Nat} {v : Value} {l : List ByteArray} (h : Seen w B v l) (hB : B ≤ w.heap.size) (hb : Below w.heap.size w w') : Seen w' B v l := by
  rcases h with h | h
  · exact .inl (h.below (hb.mono hB))
  · exact .inr (h.below hb)
theorem Owns.mono {w : World} {B B' : Nat} {v : Value} {l : List ByteArray} (h : Owns w B v l) (hB : B' ≤ B) : Owns w B' v l := by
  refine ⟨h.1, ?_⟩
  rcases h.2 with hn | ⟨g, cap, cur, hv, hb, rest⟩
  · exact .inl hn
  · exact .inr ⟨g, cap, cur, hv, Nat.le_trans hB hb, rest⟩
theorem Owns.new (w : World) (B : Nat) (hB : B ≤ w.heap.size) (l : List ByteArray) (hl : l.length ≤ maxLen) :
    Owns (w.alloc (.cells (strs l).toArray 9)) B (.slice (some ⟨w.heap.size, 0, none⟩) l.length l.length) l :=
  ⟨by rw [strs_len]; simp, .inr ⟨w.heap.size, l.length, (strs l).toArray, rfl, hB, heap_alloc_new w _, Nat.le_refl _, hl, by simp [strs_len], by
    rw [Nat.mul_one, ← strs_len, List.take_length]⟩⟩
theorem Owns.nil (w : World) (B : Nat) : Owns w B (.slice none 0 0) [] := World.ownsRow_nil w B 9 1
theorem Owns.cells {w : World} {B : Nat} {v : Value} {l : List ByteArray} (h : Owns w B v l) (hl : l ≠ []) : ∃ g cap, v = .slice (some ⟨g, 0, none⟩) l.length cap ∧ B ≤ g ∧ g < w.heap.size ∧ ∀ j u, (strs l)[j]? = some u → w.cell? ((⟨g, 0, none⟩ : Addr).add j) = some u := by
  rcases h.2 with ⟨_, hn⟩ | ⟨g, cap, cur, hv, hb, rest⟩
  · exact absurd (List.length_eq_zero_iff.1 hn) hl
  · have hlt := World.ownsRow.lt h g (by rw [hv]; rfl)
    exact ⟨g, cap, hv, hb, hlt.2, World.ownsRow.cells h (by rw [hv]; rfl)⟩
theorem Seen.cells {w : World} {B : Nat} {v : Value} {l : List ByteArray} (h : Seen w B v l) (hl : l ≠ []) : ∃ g cap, v = .slice (some ⟨g, 0, none⟩) l.length cap ∧ ∀ j (hj : j < l.length), w.cell? ⟨g, j, none⟩ = some (.string l[j]) := by
  rcases h with ⟨g, _, hv, hc⟩ | h
  · refine ⟨g, _, hv, fun j hj => ?_⟩
    have := hc j _ (strs_at l j hj)
    rw [add_at] at this
    exact this
  · obtain ⟨g, cap, hv, _, _, hc⟩ := h.cells hl
    refine ⟨g, cap, hv, fun j hj => ?_⟩
    have := hc j _ (strs_at l j hj)
    rw [add_at] at this
    exact this

/-- 'append' of one string or more to such a slice -/
theorem append_seen {ops : Array Oper} {rest : List Oper} {o : Oper} {a : Act} {Q : Exit → Act → World → Prop} (w : World) (hgd : o.guard = none) (s x : Operand)
    (ho : o.op = .call { callee := .builtin .append, args := #[s, x], argTypes := #[27, 27] })
    (B : Nat) (v : Value) (l : List ByteArray) (hs : a.eval s = v) (hown : Seen w B v l) (ad : Addr) (c : Nat) (ys : List ByteArray) (hys : ys ≠ []) (hx : a.eval x = .slice (some ad) ys.length c)
    (hc : ∀ j u, (strs ys)[j]? = some u → w.cell? (ad.add j) = some u) (hlen : l.length + ys.length ≤ 8796093022208) (hB : B ≤ w.heap.size)
    (h : ∀ v' w', Owns w' B v' (l ++ ys) → Below B w w' → wpList Try.prog ops Q rest (a.put o.dst v') w') : wpList Try.prog ops Q (o :: rest) a w := by
  obtain ⟨i0, hi, hz0, hz1, hz2⟩ := info_parts info_str
  have hpos : 0 < ys.length := List.length_pos_iff.2 hys
  have e1 : (l ++ ys).length = l.length + ys.length := List.length_append
  rcases hown with ⟨g, hg, hv, hcs⟩ | hown
  · refine wpList_append_grows w hgd s x 27 ho 9 i0 (.string ⟨#[]⟩) 1 16 und_strs hi hz0 hz1 hz2 rfl (by decide) (some ⟨g, 0, none⟩) l.length l.length (strs l) (hs.trans hv) (fun e => by cases e) (by rw [strs_len, Nat.mul_one])
      (fun b hb j u hu => by cases hb; exact hcs j u hu) ad ys.length c (strs ys) hx (by rw [strs_len, Nat.mul_one]) hc (strs_one ys) (by omega) (by unfold maxLen; omega) (by omega) ?_
    intro v' w' hown' hgr
    refine h v' w' ?_ (Below.grown (Below.refl B w) hgr hB (fun k e => by cases e))
    have : Owns w' w.heap.size v' (l ++ ys) := by unfold Owns; rw [e1, strs_app]; exact hown'
    exact this.mono hB
  · refine wpList_append_own w hgd s x 27 ho B 9 i0 (.string ⟨#[]⟩) 1 16 und_strs hi hz0 hz1 hz2 rfl (by decide) v l.length (strs l) hs hown ad ys.length c (strs ys) hx (by rw [strs_len, Nat.mul_one]) hc (strs_one ys)
      (by unfold maxLen; omega) (by omega) hB ?_
    intro v' w' hown' hgr _
    refine h v' w' ?_ (Below.grown (Below.refl B w) hgr hB (fun k e => (World.ownsRow.lt hown k e).1))
    unfold Owns
    rw [e1, strs_app]
    exact hown'

/-- Join of a slice that the call has made -/
def JoinL (l : List ByteArray) (j : ByteArray) : Prop := ∀ (W : World) (B : Nat) (v : Value), Owns W B v l → Calls Try.prog 20 #[v] W fun e w' => e = .returned (.string j) ∧ Below W.heap.size W w'
theorem joinL_c (l : List ByteArray) (hl : l ≠ []) (hlen : Lib.lens (l.map (·.data.toList)) + l.length ≤ 140737488355328) : JoinL l (bs (Pa.join (l.map (·.data.toList)))) := by
  intro W B v h
  rcases h.2 with ⟨_, hn⟩ | ⟨g, cap, cur, hv, hb, hg, hle, rest⟩
  · exact absurd (List.length_eq_zero_iff.1 hn) hl
  · have hlt := World.ownsRow.lt h g (by rw [hv]; rfl)
    have hc := World.ownsRow.cells h (by rw [hv]; rfl)
    subst hv
    refine implJoin_any g 0 cap l W ?_ hlt.2 hle hlen
    intro j x hx
    have := hc j (.string x) (by unfold strs; rw [List.getElem?_map, hx]; rfl)
    rw [add_at] at this
    rw [Nat.zero_add]
    exact this

/-- a slice of strings among the arguments: cell k holds p k -/
def Lies (w : World) (ao : Option Addr) (len : Nat) (p : Nat → ByteArray) : Prop := ∀ k, k < len → ∃ b off, ao = some ⟨b, off, none⟩ ∧ b < w.heap.size ∧ w.cell? ⟨b, off + k, none⟩ = some (.string (p k))
theorem Lies.below {w w' : World} {ao : Option Addr} {len : Nat} {p : Nat → ByteArray} (h : Lies w ao len p) (hb : Below w.heap.size w w') : Lies w' ao len p := fun k hk => by
  obtain ⟨b, off, e1, e2, e3⟩ := h k hk
  exact ⟨b, off, e1, Nat.lt_of_lt_of_le e2 hb.size, (hb.cell (by exact e2)).trans e3⟩
end Go.Proofs.Ytgkbkocakinmfaa
