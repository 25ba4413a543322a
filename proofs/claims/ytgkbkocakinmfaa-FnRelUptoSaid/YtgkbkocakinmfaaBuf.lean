/-
  A buffer of bytes that a call makes and fills from the front: bytes of a string copied into it, a byte stored into it, the whole turned into a string. Conditions: what is written fits.
-/
import Derived.Test.YtgkbkocakinmfaaSmall
import Derived.Lib.SlBuf
import Derived.Lib.LazyBuf
namespace Go.Proofs.Ytgkbkocakinmfaa
open Go.RowKit

theorem buf_made (w : World) (e : TypeId) (N : Nat) : Lib.Buf w (w.alloc (.cells (madeCells #[.int .u8 0] N) e)) w.heap.size N [] := by
  have h := Lib.Buf.start w (madeCells #[.int .u8 0] N) e N 0 (by simp [madeCells])
  exact ⟨h.below, h.there, h.free, h.holds, h.fits⟩

theorem buf_copy {P : Program} (w0 wr : World) (h N : Nat) (acc : List UInt8) (q : ByteArray) (t t' ty e : TypeId) (hu : P.underlying t = some (.slice e)) (hz : ∀ w, (Go.sizeOf e).run P w = .ok 1 w)
    (hb : Lib.Buf w0 wr h N acc) (hfit : acc.length + q.size ≤ N) :
    ∃ wr', (Builtin.copy_ #[t, t'] ty #[Lib.tailV h N acc.length, .string q]).run P wr = .ok (.int .i64 (q.size : Int)) wr' ∧ Lib.Buf w0 wr' h N (acc ++ q.data.toList) := by
  have hql : q.data.toList.length = q.size := (Lib.size_eq q).symm
  by_cases hq : q.size = 0
  · have hnil : q.data.toList = [] := List.eq_nil_of_length_eq_zero (by omega)
    refine ⟨wr, ?_, by rw [hnil, List.append_nil]; exact hb⟩
    unfold Lib.tailV
    by_cases hN : N = acc.length
    · rw [if_pos hN]
      have hr := run_copy_string (P := P) wr t t' ty e h 0 (N - acc.length) (N - acc.length) q hu hz (by omega) (fun j hj => by omega) (fun j hj => by omega)
      rw [hnil] at hr
      exact hr
    · rw [if_neg hN]
      have hr := run_copy_string (P := P) wr t t' ty e h acc.length (N - acc.length) (N - acc.length) q hu hz (by omega) (fun j hj => by omega) (fun j hj => by omega)
      rw [hnil] at hr
      exact hr
  · have hne : ¬ N = acc.length := by omega
    have hr := run_copy_string (P := P) wr t t' ty e h acc.length (N - acc.length) (N - acc.length) q hu hz (by omega) (fun j hj => hb.there _ (by omega)) (fun j hj => hb.free _ (by omega))
    refine ⟨_, by unfold Lib.tailV; rw [if_neg hne]; exact hr, ?_⟩
    have hin := World.cell?_setCells_in h (q.data.toList.map fun x => Value.int .u8 (x.toNat : Int)) acc.length wr (fun j hj => by rw [List.length_map] at hj; exact hb.there _ (by omega))
    have hout := World.cell?_setCells_out h (q.data.toList.map fun x => Value.int .u8 (x.toNat : Int)) acc.length wr
    refine ⟨Lib.below_setCells h (Nat.le_refl _) _ _ hb.below, ?_, ?_, ?_, by rw [List.length_append]; omega⟩
    · intro j hj
      by_cases h1 : acc.length ≤ j ∧ j < acc.length + q.data.toList.length
      · obtain ⟨d, rfl⟩ : ∃ d, j = acc.length + d := ⟨j - acc.length, by omega⟩
        rw [hin d (by rw [List.length_map]; omega)]
        rfl
      · rw [hout ⟨h, j, none⟩ (fun _ _ => by rw [List.length_map]; show j < _ ∨ _ ≤ j; omega)]
        exact hb.there j hj
    · intro j hj
      rw [World.frozen?_setCells]
      exact hb.free j hj
    · intro j x hx
      by_cases h1 : j < acc.length
      · rw [List.getElem?_append_left h1] at hx
        rw [hout ⟨h, j, none⟩ (fun _ _ => Or.inl h1)]
        exact hb.holds j x hx
      · rw [List.getElem?_append_right (by omega)] at hx
        obtain ⟨d, rfl⟩ : ∃ d, j = acc.length + d := ⟨j - acc.length, by omega⟩
        rw [Nat.add_sub_cancel_left] at hx
        have hd : d < q.data.toList.length := (List.getElem?_eq_some_iff.1 hx).1
        rw [hin d (by rw [List.length_map]; exact hd)]
        rw [List.getElem_map, (List.getElem?_eq_some_iff.1 hx).2]

theorem buf_store {w0 wr : World} {h N : Nat} {acc : List UInt8} (hb : Lib.Buf w0 wr h N acc) (c : UInt8) (hfit : acc.length < N) :
    Lib.Buf w0 (wr.setCell ⟨h, acc.length, none⟩ (.int .u8 (c.toNat : Int))) h N (acc ++ [c]) := by
  obtain ⟨v, hv⟩ := Option.isSome_iff_exists.1 (hb.there acc.length hfit)
  have hsame := World.cell?_setCell_same wr ⟨h, acc.length, none⟩ (.int .u8 (c.toNat : Int)) hv
  have hoth : ∀ j, j ≠ acc.length → (wr.setCell ⟨h, acc.length, none⟩ (.int .u8 (c.toNat : Int))).cell? ⟨h, j, none⟩ = wr.cell? ⟨h, j, none⟩ := fun j hj =>
    World.cell?_setCell_other wr ⟨h, acc.length, none⟩ ⟨h, j, none⟩ _ (fun e => hj (by injection e with _ e2; exact e2.symm))
  refine ⟨hb.below.setCell (p := ⟨h, acc.length, none⟩) (Nat.le_refl _) _, ?_, ?_, ?_, by simp; omega⟩
  · intro j hj
    by_cases e : j = acc.length
    · subst e; rw [hsame]; rfl
    · rw [hoth j e]; exact hb.there j hj
  · intro j hj
    rw [World.frozen?_setCell]
    exact hb.free j hj
  · intro j x hx
    by_cases e : j = acc.length
    · subst e
      rw [hsame]
      have : c = x := by simpa using hx
      rw [this]
    · rw [hoth j e]
      refine hb.holds j x ?_
      by_cases h1 : j < acc.length
      · rw [List.getElem?_append_left h1] at hx; exact hx
      · rw [List.getElem?_append_right (by omega), List.getElem?_eq_none (by simp; omega)] at hx
        cases hx

theorem buf_string {P : Program} {w0 wr : World} {h N : Nat} {acc : List UInt8} (hb : Lib.Buf w0 wr h N acc) (hN : acc.length = N) (src dst e : TypeId)
    (hs : P.underlying src = some (.slice e)) (he : P.underlying e = some (.int .u8)) (hd : P.underlying dst = some .string) :
    (convert src dst (.slice (some ⟨h, 0, none⟩) N N)).run P wr = .ok (.string ⟨acc.toArray⟩) wr := by
  have hr := run_convert_bytes_back (P := P) wr src dst e ⟨h, 0, none⟩ N acc hs he hd (fun j hj => by
    have := hb.holds j acc[j] (List.getElem?_eq_getElem hj)
    unfold Addr.add
    by_cases e0 : j = 0
    · subst e0; simpa using this
    · simpa [e0] using this)
  rw [hN] at hr
  exact hr

theorem buf_cell {w0 wr : World} {h N : Nat} {acc : List UInt8} (hb : Lib.Buf w0 wr h N acc) {j : Nat} (hj : j < N) : ∃ v, wr.cell? ⟨h, j, none⟩ = some v :=
  Option.isSome_iff_exists.1 (hb.there j hj)

theorem buf_drew {w0 wr : World} {h N : Nat} {acc : List UInt8} (hb : Lib.Buf w0 wr h N acc) : Lib.Buf w0 wr.drew h N acc :=
  ⟨hb.below.drew, hb.there, hb.free, hb.holds, hb.fits⟩

theorem step_copy_buf {P : Program} {ops : Array Oper} {o : Oper} {a : Act} {w : World} {K : Act → World → Prop} {Q : Exit → Act → World → Prop} {E : Prop}
    (hg : o.guard = none) (d x : Operand) (dT sT : TypeId) (hop : o.op = Op.call { callee := Callee.builtin Builtin.copy, args := #[d, x], argTypes := #[dT, sT] })
    (elem : TypeId) (hu : P.underlying dT = some (.slice elem)) (hz : ∀ w, (Go.sizeOf elem).run P w = .ok 1 w)
    (w0 : World) (h N : Nat) (acc : List UInt8) (q : ByteArray) (hd : a.eval d = Lib.tailV h N acc.length) (hx : a.eval x = .string q)
    (hb : Lib.Buf w0 w h N acc) (hfit : acc.length + q.size ≤ N)
    (hK : ∀ w', Lib.Buf w0 w' h N (acc ++ q.data.toList) → K (a.put o.dst (.int .i64 (q.size : Int))) w') :
    if Region.wanted o (yielded ops a.tmps) = true then Oper.wp P o a w K Q else E := by
  have hw : Region.wanted o (yielded ops a.tmps) = true := by simp [Region.wanted, hg]
  rw [if_pos hw]
  obtain ⟨w', hrun, hb'⟩ := buf_copy (P := P) w0 w h N acc q dT sT o.type elem hu hz hb hfit
  unfold Oper.wp
  simp [execOp, hop, resolve, invoke, builtin, hd, hx, hrun, Result.andThen]
  exact hK w' hb'

theorem run_tail (h N bp : Nat) (hb : bp ≤ N) (v : Int) (hv : v = (bp : Int)) (W : World) :
    (Instr.slice 51 (.slice (some ⟨h, 0, none⟩) N N) (some (.int .i64 v)) none none).run Try.prog W = .ok (Lib.tailV h N bp) W := by
  rw [hv]
  exact Lib.run_slice_tailV W 51 5 Try.underlying51 Try.sizeOf5 h N bp hb

theorem run_count (s : ByteArray) (w : World) :
    (callFunc 51 #[.string s, .int .u8 47]).run Try.prog w = .ok (.value (.int .i64 (Pl.cnt s.data.toList : Nat))) w := by
  rw [run_callFunc_extern Try.func51 (by kernel_rfl) (by kernel_rfl) (by kernel_rfl) (e := Extern.BytealgCount.count) (by kernel_rfl), Lib.run_countString]
  rfl

theorem info5 : (Try.prog.info? 5).map (fun i => (i.zero, i.size, i.bytes)) = some (some (.int .u8 0), 1, 1) := by kernel_rfl

theorem run_make_bytes (N : Nat) (hN : N ≤ 281474976710656) (w : World) :
    (Instr.makeSlice 51 (.int .i64 (N : Int)) (.int .i64 (N : Int))).run Try.prog w = .ok (.slice (some ⟨w.heap.size, 0, none⟩) N N) (w.alloc (.cells (madeCells #[.int .u8 0] N) 5)) := by
  obtain ⟨i0, hi, hz0, hz1, hz2⟩ := info_parts info5
  have h := run_make (P := Try.prog) w 51 5 i0 (.int .u8 0) Try.underlying51 hi hz0 .i64 .i64 (N : Int) (N : Int) (by omega) (Int.le_refl _) (by rw [hz2]; omega) (by omega)
  rw [Int.toNat_natCast] at h
  simpa [hz1, Value.cells] using h

end Go.Proofs.Ytgkbkocakinmfaa
