/-
  The reference's Same: what it returns, for every two places. Conditions: as each theorem states them.
-/
import Derived.Test.YtgkbkocakinmfaaSpecFollow
import Derived.BigQuiet
import Derived.Deep.QuietTactic
namespace Go.Proofs.Ytgkbkocakinmfaa
open Go.RowKit Go.Lib

theorem Rd.lies {S : Nat → Prop} {w : World} {v : Value} {l : List ByteArray} (h : Rd S w v l) : ∃ ao c, v = .slice ao l.length c ∧ Lies w ao l.length (fun k => l.getD k ByteArray.empty) := by
  rcases h with ⟨rfl, ao, cap, e, _⟩ | ⟨h0, b, off, cap, e, hc, hS, hlt, hk⟩
  · exact ⟨ao, cap, e, fun k hk => by cases hk⟩
  · refine ⟨_, cap, e, fun k hk' => ⟨b, off, rfl, hlt, ?_⟩⟩
    show _ = some (Value.string (l.getD k ByteArray.empty))
    rw [hk k hk', List.getD_eq_getElem?_getD, List.getElem?_eq_getElem hk']
    rfl

theorem same_r (r : Bool) (u1 u2 : Int) (n1 n2 : Value) (w : World) :
    Calls Try.prog 24 #[.agg #[.bool r, .int .i64 u1, n1], .agg #[.bool (!r), .int .i64 u2, n2]] w fun e w' => e = .returned (.bool false) ∧ Below w.heap.size w w' := by
  cases r <;>
  · simp only [Bool.not_true, Bool.not_false]
    go_enter Try.func24, Try.ntmps24
    go_wp2_with fail
    go_ret
    exact ⟨rfl, two_allocs _ _ _⟩
theorem same_u (r : Bool) (u1 u2 : Int) (n1 n2 : Value) (w : World) (h : ¬ u1 = u2) :
    Calls Try.prog 24 #[.agg #[.bool r, .int .i64 u1, n1], .agg #[.bool r, .int .i64 u2, n2]] w fun e w' => e = .returned (.bool false) ∧ Below w.heap.size w w' := by
  go_enter Try.func24, Try.ntmps24
  go_wp2_with fail
  go_ret
  exact ⟨rfl, two_allocs _ _ _⟩
theorem same_l (r : Bool) (u : Int) (ao1 ao2 : Option Addr) (c1 c2 n1 n2 : Nat) (w : World) (h : ((n1 : Int) == (n2 : Int)) = false) :
    Calls Try.prog 24 #[.agg #[.bool r, .int .i64 u, .slice ao1 n1 c1], .agg #[.bool r, .int .i64 u, .slice ao2 n2 c2]] w fun e w' => e = .returned (.bool false) ∧ Below w.heap.size w w' := by
  have huu : (u == u) = true := by simp
  go_enter Try.func24, Try.ntmps24
  go_wp2_with fail
  go_ret
  exact ⟨rfl, two_allocs _ _ _⟩

set_option maxHeartbeats 1000000 in
theorem same_n (r : Bool) (u : Int) (ao1 ao2 : Option Addr) (c1 c2 n : Nat) (p1 p2 : Nat → ByteArray) (res : Bool) (w : World) (hn : n ≤ 1099511627776) (L1 : Lies w ao1 n p1) (L2 : Lies w ao2 n p2)
    (hT : (∀ k, k < n → ((p1 k).toList == (p2 k).toList) = true) → res = true) (hF : ∀ k, k < n → ((p1 k).toList == (p2 k).toList) = false → res = false) :
    Calls Try.prog 24 #[.agg #[.bool r, .int .i64 u, .slice ao1 n c1], .agg #[.bool r, .int .i64 u, .slice ao2 n c2]] w fun e w' => e = .returned (.bool res) ∧ Below w.heap.size w w' := by
  have huu : (u == u) = true := by simp
  have hnn : ((n : Int) == (n : Int)) = true := by simp
  have HL1 := Lib.hid L1
  have HL2 := Lib.hid L2
  have HT := Lib.hid hT
  have HF := Lib.hid hF
  have HA := Lib.hid (heap_alloc2_old w (.cells #[.bool r, .int .i64 u, .slice ao1 n c1] 34) (.cells #[.bool r, .int .i64 u, .slice ao2 n c2] 34))
  have HZ := Lib.hid (heap_alloc2_new w (.cells #[.bool r, .int .i64 u, .slice ao1 n c1] 34) (.cells #[.bool r, .int .i64 u, .slice ao2 n c2] 34))
  have HB0 := Lib.hid (two_allocs w (.cells #[.bool r, .int .i64 u, .slice ao1 n c1] 34) (.cells #[.bool r, .int .i64 u, .slice ao2 n c2] 34))
  have HSZ : Hid (((w.alloc (.cells #[.bool r, .int .i64 u, .slice ao1 n c1] 34)).alloc (.cells #[.bool r, .int .i64 u, .slice ao2 n c2] 34)).heap.size = w.heap.size + 2) := by
    show _ = _
    simp
  clear L1 L2 hT hF
  go_enter Try.func24, Try.ntmps24
  go_wp2_with fail
  go_loopw [30] (fun v wr => ∃ k : Nat, k ≤ n ∧ v = .int .i64 k ∧ Hid (∀ i, i < k → ((p1 i).toList == (p2 i).toList) = true) ∧
      Hid (Below (w.heap.size + 2) ((w.alloc (.cells #[.bool r, .int .i64 u, .slice ao1 n c1] 34)).alloc (.cells #[.bool r, .int .i64 u, .slice ao2 n c2] 34)) wr)) (fun v _ => n - (RowKit.intOf v).toNat)
  case atStart => exact ⟨0, Nat.zero_le _, rfl, fun i hi => by omega, Below.refl _ _⟩
  case round =>
    obtain ⟨k, hk, rfl, HE, HB⟩ := hrel
    have HBw := Lib.hid (HB0.out.trans (HB.out.mono (by omega)))
    by_cases hlt : k < n
    · obtain ⟨b1, off1, rfl, hb1, hx1⟩ := (HL1.out.below HBw.out) k hlt
      obtain ⟨b2, off2, rfl, hb2, hx2⟩ := (HL2.out.below HBw.out) k hlt
      obtain ⟨⟨a0, a1, a2⟩, _⟩ := row3 ((HB.out.block _ (by omega)).trans HA.out)
      obtain ⟨⟨z0, z1, z2⟩, _⟩ := row3 ((HB.out.block _ (by omega)).trans HZ.out)
      have g0 : (0 : Int) ≤ (k : Int) := by omega
      have g1 : (k : Int) < (n : Int) := by omega
      clear hb1 hb2
      have HTk := Lib.hid (HF.out k hlt)
      by_cases he : ((p1 k).toList == (p2 k).toList) = true
      · have HE' : Hid (∀ i, i < k + 1 → ((p1 i).toList == (p2 i).toList) = true) := fun i hi => by
          by_cases e : i = k
          · rw [e]; exact he
          · exact HE.out i (by omega)
        generalize p1 k = q1 at hx1 he
        generalize p2 k = q2 at hx2 he
        go_wp2_with fail
        go_quiet (fail)
        go_wp2_with fail
        go_roundw
        case rel => exact ⟨k + 1, by omega, by go_num, HE', below_drewN HB.out _⟩
        case measure => simp [RowKit.intOf]; omega
      · have he' : ((p1 k).toList == (p2 k).toList) = false := by simpa using he
        have HR := Lib.hid (HTk.out he')
        clear he HTk
        generalize p1 k = q1 at hx1 he'
        generalize p2 k = q2 at hx2 he'
        go_wp2_with fail
        go_quiet (fail)
        go_wp2_with fail
        go_ret
        rw [HR.out]
        exact ⟨rfl, below_drewN HBw.out _⟩
    · have HR := Lib.hid (HT.out (fun i hi => HE.out i (by omega)))
      go_wp2_with fail
      go_ret
      rw [HR.out]
      exact ⟨rfl, HBw.out⟩

theorem same_c {S S' : Nat → Prop} (P Q : Pl.Place) (v v' : Value) (w : World) (hn : P.names.length ≤ 1099511627776) (h1 : PV S w v P) (h2 : PV S' w v' Q) :
    Calls Try.prog 24 #[v, v'] w fun e w' => e = .returned (.bool (decide (P.rooted = Q.rooted ∧ P.up = Q.up ∧ P.names = Q.names))) ∧ Below w.heap.size w w' := by
  obtain ⟨n1, rfl, r1⟩ := h1
  obtain ⟨n2, rfl, r2⟩ := h2
  by_cases hr : P.rooted = Q.rooted
  · by_cases hu : P.up = Q.up
    · obtain ⟨ao1, c1, rfl, L1⟩ := r1.lies
      obtain ⟨ao2, c2, rfl, L2⟩ := r2.lies
      rw [List.length_map] at L1 L2 ⊢
      by_cases hl : P.names.length = Q.names.length
      · rw [List.length_map, ← hr, ← hu, ← hl]
        rw [← hl] at L2
        have hg : ∀ (l : List Pl.Bs) k, k < l.length → (l.map bs).getD k ByteArray.empty = bs (l.getD k []) := fun l k hk => by
          rw [List.getD_eq_getElem?_getD, List.getD_eq_getElem?_getD, List.getElem?_map, List.getElem?_eq_getElem hk]
          rfl
        refine same_n P.rooted P.up ao1 ao2 c1 c2 P.names.length _ _ _ w hn L1 L2 ?_ ?_
        · intro h
          refine decide_eq_true ⟨rfl, rfl, List.ext_getElem hl fun k h1 h2 => ?_⟩
          have := h k h1
          rw [hg _ _ h1, hg _ _ h2, bs_beq, beq_iff_eq, List.getD_eq_getElem?_getD, List.getD_eq_getElem?_getD, List.getElem?_eq_getElem h1, List.getElem?_eq_getElem h2] at this
          exact this
        · intro k hk h
          refine decide_eq_false fun e => ?_
          rw [hg _ _ hk, hg _ _ (hl ▸ hk), bs_beq, e.2.2] at h
          simp at h
      · rw [List.length_map, ← hr, ← hu]
        have : decide (P.rooted = P.rooted ∧ P.up = P.up ∧ P.names = Q.names) = false := decide_eq_false fun e => hl (congrArg List.length e.2.2)
        rw [this]
        exact same_l _ _ _ _ _ _ _ _ w (by simpa using fun e => hl (Int.ofNat_inj.1 e))
    · rw [← hr, decide_eq_false (fun e => hu e.2.1)]
      exact same_u _ _ _ _ _ w (fun e => hu (Int.ofNat_inj.1 e))
  · have e : Q.rooted = !P.rooted := by
      revert hr
      cases P.rooted <;> cases Q.rooted <;> simp
    rw [decide_eq_false (fun e => hr e.1), e]
    exact same_r _ _ _ _ _ w
end Go.Proofs.Ytgkbkocakinmfaa
