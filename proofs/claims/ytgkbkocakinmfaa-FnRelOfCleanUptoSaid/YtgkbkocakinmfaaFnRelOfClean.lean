/-
  laws.FnRelOfClean returns true at every two paths. Conditions: both together are no longer than 2^20 bytes.
-/
import Derived.Test.YtgkbkocakinmfaaImpl
namespace Go.Proofs.Ytgkbkocakinmfaa
open Go.RowKit Go.Lib

def Two (g : Nat) (x y : ByteArray) (w : World) : Prop := g < w.heap.size ∧ w.cell? ⟨g, 0, none⟩ = some (.string x) ∧ w.cell? ⟨g, 1, none⟩ = some (.string y)
theorem Two.below {g : Nat} {x y : ByteArray} {w w' : World} (h : Two g x y w) (hb : Below w.heap.size w w') : Two g x y w' :=
  ⟨Nat.lt_of_lt_of_le h.1 hb.size, (hb.cell (p := ⟨g, 0, none⟩) h.1).trans h.2.1, (hb.cell (p := ⟨g, 1, none⟩) h.1).trans h.2.2⟩
theorem Two.new (x y : ByteArray) (w : World) (t : TypeId) : Two w.heap.size x y (w.alloc (.cells #[.string x, .string y] t)) :=
  ⟨by simp, by simp [World.cell?_alloc_new], by simp [World.cell?_alloc_new]⟩
theorem Two.alloc {g : Nat} {x y : ByteArray} {w : World} (h : Two g x y w) (o : Obj) : Two g x y (w.alloc o) :=
  h.below ((Below.refl _ _).alloc (Nat.le_refl _) o)
theorem Two.cellAt {g : Nat} {x y : ByteArray} {w : World} (h : Two g x y w) {k : Nat} (hk : k < 2) : ∃ s, (s = x ∨ s = y) ∧ w.cell? ⟨g, k, none⟩ = some (.string s) := by
  match k, hk with
  | 0, _ => exact ⟨x, .inl rfl, h.2.1⟩
  | 1, _ => exact ⟨y, .inr rfl, h.2.2⟩

theorem fnRelOfClean_walk (b t : ByteArray) (w : World) (h : b.size + t.size ≤ 1048576) :
    Calls Try.prog 12 #[.string b, .string t] w fun e w' => e = .returned (.bool true) ∧ Below w.heap.size w w' := by
  have C9 := Lib.hid (fun W => wakes_any W)
  have hall : ∃ (rr cb ct : ByteArray) (ok : Bool), (∀ W : World, Calls Try.prog 18 #[.string b] W fun e w' => e = .returned (.string cb) ∧ Below W.heap.size W w') ∧
      (∀ W : World, Calls Try.prog 18 #[.string t] W fun e w' => e = .returned (.string ct) ∧ Below W.heap.size W w') ∧
      (∀ (W : World) (x y : ByteArray), (x = b ∨ x = cb) → (y = t ∨ y = ct) → Calls Try.prog 17 #[.string x, .string y] W fun e w' => e = .returned (.tuple #[.string rr, .bool ok]) ∧ Below W.heap.size W w') := by
    have c1 := fun W => implClean_any b W (by omega)
    have c2 := fun W => implClean_any t W (by omega)
    refine ⟨⟨(Pl.relS b.data.toList t.data.toList).toArray⟩, _, _, Pl.relOk b.data.toList t.data.toList, c1, c2, ?_⟩
    intro W x y hx hy
    have lb := Pl.clean_len b.data.toList
    have lt := Pl.clean_len t.data.toList
    rw [← Lib.size_eq] at lb lt
    have fx : Pl.to x.data.toList = Pl.to b.data.toList ∧ x.size ≤ b.size + 1 := by
      rcases hx with rfl | rfl
      · exact ⟨rfl, by omega⟩
      · exact ⟨Pl.to_clean _, by rw [show (⟨(Pa.clean b.data.toList).toArray⟩ : ByteArray).size = (Pa.clean b.data.toList).length from Pa.size_mk _]; exact lb⟩
    have fy : Pl.to y.data.toList = Pl.to t.data.toList ∧ y.size ≤ t.size + 1 := by
      rcases hy with rfl | rfl
      · exact ⟨rfl, by omega⟩
      · exact ⟨Pl.to_clean _, by rw [show (⟨(Pa.clean t.data.toList).toArray⟩ : ByteArray).size = (Pa.clean t.data.toList).length from Pa.size_mk _]; exact lt⟩
    have k := implRel_small x y W (by omega) (by omega)
    unfold Pl.relS Pl.relOk at k ⊢
    rw [fx.1, fy.1] at k
    exact k
  obtain ⟨rr, cb, ct, ok, k1, k2, k3⟩ := hall
  have K1 := Lib.hid k1
  have K2 := Lib.hid k2
  have K3 := Lib.hid k3
  have hrr : (rr.toList == rr.toList) = true := by simp
  clear k1 k2 k3
  have HB0 := Lib.hid (Below.refl w.heap.size w)
  go_enter Try.func12, Try.ntmps12
  go_wp2_with fail
  refine (K3.out _ _ _ (.inl rfl) (.inl rfl)).mono ?_
  rintro e w1 ⟨rfl, hb1⟩
  have HB1 := Lib.hid (HB0.out.trans (hb1.mono HB0.out.size))
  clear hb1 HB0
  go_wp2_with fail
  refine (K1.out _).mono ?_
  rintro e w2 ⟨rfl, hb2⟩
  have HB2 := Lib.hid (HB1.out.trans (hb2.mono HB1.out.size))
  clear hb2 HB1
  go_wp2_with fail
  have HBa := Lib.hid (HB2.out.alloc HB2.out.size (.cells #[.string b, .string cb] 9))
  have HT := Lib.hid (Two.new b cb w2 9)
  generalize w2.alloc (.cells #[.string b, .string cb] 9) = wa at HBa HT ⊢
  generalize w2.heap.size = g at HT ⊢
  clear HB2
  go_loopw [24] (fun v wr => ∃ k : Nat, k ≤ 2 ∧ v = .int .i64 k ∧ Hid (Below w.heap.size w wr ∧ Two g b cb wr)) (fun v _ => 2 - (RowKit.intOf v).toNat)
  case atStart => exact ⟨0, by omega, rfl, ⟨HBa.out, HT.out⟩⟩
  case round =>
    clear HBa HT
    obtain ⟨k, hk, rfl, HK⟩ := hrel
    by_cases hk2 : k < 2
    · obtain ⟨x, hx, hcx⟩ := HK.out.2.cellAt hk2
      go_wp2_with fail
      refine (K2.out _).mono ?_
      rintro e w3 ⟨rfl, hb3⟩
      have HK3 := Lib.hid (show Below w.heap.size w w3 ∧ Two g b cb w3 from ⟨HK.out.1.trans (hb3.mono HK.out.1.size), HK.out.2.below hb3⟩)
      clear hb3 hcx HK
      go_wp2_with fail
      have HK4 := Lib.hid (show Below w.heap.size w (w3.alloc (.cells #[.string t, .string ct] 9)) ∧ Two g b cb (w3.alloc (.cells #[.string t, .string ct] 9)) ∧ Two w3.heap.size t ct (w3.alloc (.cells #[.string t, .string ct] 9)) from
        ⟨HK3.out.1.alloc HK3.out.1.size _, HK3.out.2.alloc _, Two.new t ct w3 9⟩)
      generalize w3.alloc (.cells #[.string t, .string ct] 9) = wb at HK4 ⊢
      generalize w3.heap.size = g2 at HK4 ⊢
      clear HK3
      go_loopw [33] (fun v wq => ∃ m : Nat, m ≤ 2 ∧ v = .int .i64 m ∧ Hid (Below w.heap.size w wq ∧ Two g b cb wq ∧ Two g2 t ct wq)) (fun v _ => 2 - (RowKit.intOf v).toNat)
      case atStart => exact ⟨0, by omega, rfl, HK4⟩
      case round =>
        clear HK4
        obtain ⟨m, hm, rfl, HM⟩ := hrel
        by_cases hm2 : m < 2
        · obtain ⟨y, hy, hcy⟩ := HM.out.2.2.cellAt hm2
          have K := Lib.hid (fun W => K3.out W x y hx hy)
          go_wp2_with fail
          refine (K.out _).mono ?_
          rintro e w5 ⟨rfl, hb5⟩
          have HM5 := Lib.hid (show Below w.heap.size w w5 ∧ Two g b cb w5 ∧ Two g2 t ct w5 from ⟨HM.out.1.trans (hb5.mono HM.out.1.size), HM.out.2.1.below hb5, HM.out.2.2.below hb5⟩)
          clear hb5 hcy HM K
          go_wp2_with fail
          go_roundw
          case rel => exact ⟨m + 1, by omega, by go_num, HM5⟩
          case measure => simp [RowKit.intOf]; omega
        · go_wp2_with fail
          go_roundw
          case rel => exact ⟨k + 1, by omega, by go_num, ⟨HM.out.1, HM.out.2.1⟩⟩
          case measure => simp [RowKit.intOf]; omega
    · go_wp2_with fail
      refine (C9.out _).mono ?_
      rintro e w6 ⟨rfl, hb6⟩
      have HB6 := Lib.hid (HK.out.1.trans (hb6.mono HK.out.1.size))
      clear hb6 HK
      go_wp2_with fail
      go_ret
      exact ⟨rfl, HB6.out⟩

end Go.Proofs.Ytgkbkocakinmfaa
