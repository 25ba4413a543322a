/-
  laws.FnSplitOfRel returns true at every two paths. Conditions: both together are no longer than 2^20 bytes.
-/
import Derived.Test.YtgkbkocakinmfaaFnRelOfSplit
import Derived.Test.YtgkbkocakinmfaaC
import Derived.BigQuiet
import Derived.Deep.QuietTactic
namespace Go.Proofs.Ytgkbkocakinmfaa
open Go.RowKit Go.Lib

/-- where a path is split -/
theorem Pl.split_at (l : Pl.Bs) (i : Nat) (h1 : ∀ m, i ≤ m → l[m]? ≠ some 47) (h2 : i = 0 ∨ ∃ k, i = k + 1 ∧ l[k]? = some 47) : Pa.split l = (l.take i, l.drop i) := by
  unfold Pa.split
  have e : (Pa.lastIndexByte l 47 + 1).toNat = i := by
    rcases Pa.lastIndexByte_spec l 47 with ⟨e, hn⟩ | ⟨j, e, hj, hn⟩
    · rw [e]
      rcases h2 with h2 | ⟨k, h2, hk⟩
      · omega
      · exact absurd hk (hn k)
    · rw [e]
      have a : j < i := Nat.lt_of_not_le fun h => h1 j h hj
      rcases h2 with h2 | ⟨k, h2, hk⟩
      · omega
      · have b : ¬ j < k := fun h => hn k h hk
        omega
  rw [e]

theorem specSplit_any (s : ByteArray) (w : World) (hs : s.size ≤ 1099511627776) :
    Calls Try.prog 30 #[.string s] w fun e w' => e = .returned (.tuple #[.string (bs (Pa.split s.data.toList).1), .string (bs (Pa.split s.data.toList).2)]) ∧ Below w.heap.size w w' := by
  have HS : Hid (∀ i, i ≤ s.size → (∀ m, i ≤ m → s.data.toList[m]? ≠ some 47) → (i = 0 ∨ ∃ k, i = k + 1 ∧ s.data.toList[k]? = some 47) → bs (Pa.split s.data.toList).1 = s.extract 0 i ∧ bs (Pa.split s.data.toList).2 = s.extract i s.size) := by
    intro i _ h1 h2
    rw [Pl.split_at _ i h1 h2, Pa.extract_upto, Pa.extract_from]
    exact ⟨rfl, rfl⟩
  generalize bs (Pa.split s.data.toList).1 = r1 at HS
  generalize bs (Pa.split s.data.toList).2 = r2 at HS
  go_enter Try.func30, Try.ntmps30
  go_wp2_with fail
  go_loop [4] (fun v => ∃ i : Nat, i ≤ s.size ∧ v = .int .i64 i ∧ Hid (∀ m, i ≤ m → s.data.toList[m]? ≠ some 47)) (fun v => (RowKit.intOf v).toNat)
  case atStart => exact ⟨s.size, Nat.le_refl _, rfl, fun m hm => by rw [List.getElem?_eq_none (by rw [← Lib.size_eq]; exact hm)]; simp⟩
  case round =>
    obtain ⟨i, hi, rfl, H1⟩ := hrel
    cases i with
    | zero =>
      obtain ⟨e1, e2⟩ := HS.out 0 hi H1.out (.inl rfl)
      obtain rfl : r1 = ByteArray.empty := by rw [e1, Pa.extract_upto]; rfl
      obtain rfl : r2 = s := by rw [e2, Pa.extract_from, List.drop_zero]
      clear e1 e2
      go_wp2_with fail
      go_quiet (fail)
      go_wp2_with fail
      go_ret2
      exact ⟨rfl, below_drewN (Below.refl _ _) _⟩
    | succ k =>
      have hk : k < s.size := by omega
      by_cases h47 : (((s[k]'hk).toNat : Int) != 47) = true
      · have H2 : Hid (∀ m, k ≤ m → s.data.toList[m]? ≠ some 47) := fun m hm => by
          by_cases e : m = k
          · rw [e, bytes_at s k hk]
            intro e2
            rw [Option.some.inj e2] at h47
            exact absurd h47 (by decide)
          · exact H1.out m (by omega)
        go_wp2_with fail
        go_round
        case rel => exact ⟨k, by omega, by go_num, H2⟩
        case measure => simp [RowKit.intOf]
      · have h47' : (((s[k]'hk).toNat : Int) != 47) = false := by simpa using h47
        have hx : s.data.toList[k]? = some 47 := by
          rw [bytes_at s k hk]
          rw [Pa.bne47] at h47'
          simpa using h47'
        obtain ⟨rfl, rfl⟩ := HS.out (k + 1) hi H1.out (.inr ⟨k, rfl, hx⟩)
        clear hx h47
        go_wp2_with fail
        go_quiet (fail)
        go_wp2_with fail
        go_ret2
        exact ⟨rfl, below_drewN (Below.refl _ _) _⟩

def SplitC (s a b : ByteArray) : Prop := (∀ W : World, Calls Try.prog 29 #[.string s] W fun e w' => e = .returned (.tuple #[.string a, .string b]) ∧ Below W.heap.size W w') ∧
  (∀ W : World, Calls Try.prog 30 #[.string s] W fun e w' => e = .returned (.tuple #[.string a, .string b]) ∧ Below W.heap.size W w')
theorem split_c (s : ByteArray) (hs : s.size ≤ 1099511627776) : SplitC s (bs (Pa.split s.data.toList).1) (bs (Pa.split s.data.toList).2) :=
  ⟨fun W => implSplit_any s W (by omega), fun W => specSplit_any s W hs⟩

theorem splitOf_walk (a b r : ByteArray) (ok : Bool) (w : World) (K : RelC a b r ok) (p d f : Nat → ByteArray) (hp0 : p 0 = a) (hp1 : p 1 = b) (hp2 : p 2 = r) (S : ∀ k, k < 3 → SplitC (p k) (d k) (f k)) :
    Calls Try.prog 15 #[.string a, .string b] w fun e w' => e = .returned (.bool true) ∧ Below w.heap.size w w' := by
  have C9 := wakes_c
  have HS := Lib.hid S
  have HP : Hid (∀ (W W' : World), Below (W.alloc (.cells #[.string a, .string b, .string r] 9)).heap.size (W.alloc (.cells #[.string a, .string b, .string r] 9)) W' → ∀ k, k < 3 → W'.cell? ⟨W.heap.size, k, none⟩ = some (.string (p k))) := by
    intro W W' hb k hk
    refine (hb.cell (by simp)).trans ?_
    rw [World.cell?_alloc_new]
    match k, hk with
    | 0, _ => rw [hp0]; rfl
    | 1, _ => rw [hp1]; rfl
    | 2, _ => rw [hp2]; rfl
  clear S hp0 hp1 hp2
  have HB0 := Lib.hid (Below.refl w.heap.size w)
  go_enter Try.func15, Try.ntmps15
  go_wp2_with fail
  refine (K _).mono ?_
  rintro e w1 ⟨rfl, hb1⟩
  have HB1 := Lib.hid (HB0.out.trans (hb1.mono HB0.out.size))
  clear hb1 HB0
  go_wp2_with fail
  go_loopw [24] (fun v wr => ∃ k : Nat, k ≤ 3 ∧ v = .int .i64 k ∧ Hid (Below (w1.alloc (.cells #[.string a, .string b, .string r] 9)).heap.size (w1.alloc (.cells #[.string a, .string b, .string r] 9)) wr)) (fun v _ => 3 - (RowKit.intOf v).toNat)
  case atStart => exact ⟨0, by omega, rfl, Below.refl _ _⟩
  case round =>
    obtain ⟨k, hk, rfl, HB⟩ := hrel
    by_cases hlt : k < 3
    · have hx := HP.out w1 wr HB.out k hlt
      obtain ⟨S1, S2⟩ := HS.out k hlt
      generalize p k = pk at hx S1 S2
      have h1 := beq_true (d k)
      have h2 := beq_true (f k)
      generalize d k = dk at S1 S2 h1
      generalize f k = fk at S1 S2 h2
      go_wp2_with fail
      refine (S1 _).mono ?_
      rintro x w2 ⟨rfl, hb2⟩
      have HB2 := Lib.hid (HB.out.trans (hb2.mono HB.out.size))
      clear hb2 HB hx
      go_wp2_with fail
      refine (S2 _).mono ?_
      rintro x w3 ⟨rfl, hb3⟩
      have HB3 := Lib.hid (HB2.out.trans (hb3.mono HB2.out.size))
      clear hb3 HB2
      go_wp2_with fail
      go_roundw
      case rel => exact ⟨k + 1, by omega, by go_num, HB3⟩
      case measure => simp [RowKit.intOf]; omega
    · have HB2 := Lib.hid ((HB1.out.alloc HB1.out.size (.cells #[.string a, .string b, .string r] 9)).trans (HB.out.mono (by have := HB1.out.size; simp; omega)))
      clear HB HB1
      go_wp2_with fail
      refine (C9 _).mono ?_
      rintro e w3 ⟨rfl, hb3⟩
      have HB3 := Lib.hid (HB2.out.trans (hb3.mono HB2.out.size))
      clear hb3 HB2
      go_wp2_with fail
      go_ret
      exact ⟨rfl, HB3.out⟩

theorem fnSplitOfRel_walk (a b : ByteArray) (w : World) (h : a.size + b.size ≤ 1048576) :
    Calls Try.prog 15 #[.string a, .string b] w fun e w' => e = .returned (.bool true) ∧ Below w.heap.size w w' := by
  have K := rel_c a b (by omega) (by omega)
  have hl := Pl.rel_len a.data.toList b.data.toList
  rw [← Lib.size_eq, ← Lib.size_eq] at hl
  generalize hr : bs (Pl.relS a.data.toList b.data.toList) = r at K
  have hz : r.size ≤ 7340044 := by rw [← hr, bs_size]; omega
  let p : Nat → ByteArray := fun k => if k = 0 then a else if k = 1 then b else r
  refine splitOf_walk a b r _ w K p _ _ rfl rfl rfl (fun k hk => split_c (p k) ?_)
  match k, hk with
  | 0, _ => show a.size ≤ _; omega
  | 1, _ => show b.size ≤ _; omega
  | 2, _ => show r.size ≤ _; omega
end Go.Proofs.Ytgkbkocakinmfaa
