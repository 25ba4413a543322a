/-
  laws.FnRelNamesDoNotMatter returns true at every two paths and every two bytes. Conditions: both paths together are no longer than 2^20 bytes.
-/
import Derived.Test.YtgkbkocakinmfaaExchanged
import Derived.Test.YtgkbkocakinmfaaPlainNames
namespace Go.Proofs.Ytgkbkocakinmfaa
open Go.RowKit Go.Lib

theorem sw_keeps (x y : UInt8) (h1 : x ≠ 47) (h2 : x ≠ 46) (h3 : y ≠ 47) (h4 : y ≠ 46) : Pl.Keeps (sw x y) := by
  refine ⟨fun a b h => ?_, ?_, ?_⟩
  · unfold sw at h
    by_cases ax : a = x <;> by_cases bx : b = x <;> by_cases ay : a = y <;> by_cases bY : b = y <;> simp_all
  · unfold sw
    rw [if_neg (Ne.symm h1), if_neg (Ne.symm h3)]
  · unfold sw
    rw [if_neg (Ne.symm h2), if_neg (Ne.symm h4)]

theorem byte_of (a : Int) (h : 0 ≤ a ∧ a ≤ 255) : ∃ u : UInt8, a = (u.toNat : Int) := by
  refine ⟨UInt8.ofNat a.toNat, ?_⟩
  rw [UInt8.toNat_ofNat']
  omega

theorem fnRelNamesDoNotMatter_walk (b t : ByteArray) (xi yi : Int) (w : World) (h : b.size + t.size ≤ 1048576) (hx : 0 ≤ xi ∧ xi ≤ 255) (hy : 0 ≤ yi ∧ yi ≤ 255) :
    Calls Try.prog 11 #[.string b, .string t, .int .u8 xi, .int .u8 yi] w fun e w' => e = .returned (.bool true) ∧ Below w.heap.size w w' := by
  obtain ⟨x, rfl⟩ := byte_of xi hx
  obtain ⟨y, rfl⟩ := byte_of yi hy
  clear hx hy
  have C9 := Lib.hid (fun W => wakes_any W)
  by_cases h1 : x = 47
  · have t1 : ((x.toNat : Int) == 47) = true := by rw [Pa.beq47, h1]; rfl
    clear h1
    have HB0 := Lib.hid (Below.refl w.heap.size w)
    go_enter Try.func11, Try.ntmps11
    go_wp2_with fail
    refine (C9.out _).mono ?_
    rintro e w1 ⟨rfl, hb1⟩
    have HB1 := Lib.hid (HB0.out.trans (hb1.mono HB0.out.size))
    clear hb1 HB0
    go_wp2_with fail
    go_ret
    exact ⟨rfl, HB1.out⟩
  · have t1 : ((x.toNat : Int) == 47) = false := by rw [Pa.beq47]; simpa using h1
    by_cases h2 : x = 46
    · have t2 : ((x.toNat : Int) == 46) = true := by rw [Pa.beq46, h2]; rfl
      clear h1 h2
      have HB0 := Lib.hid (Below.refl w.heap.size w)
      go_enter Try.func11, Try.ntmps11
      go_wp2_with fail
      refine (C9.out _).mono ?_
      rintro e w1 ⟨rfl, hb1⟩
      have HB1 := Lib.hid (HB0.out.trans (hb1.mono HB0.out.size))
      clear hb1 HB0
      go_wp2_with fail
      go_ret
      exact ⟨rfl, HB1.out⟩
    · have t2 : ((x.toNat : Int) == 46) = false := by rw [Pa.beq46]; simpa using h2
      by_cases h3 : y = 47
      · have t3 : ((y.toNat : Int) == 47) = true := by rw [Pa.beq47, h3]; rfl
        clear h1 h2 h3
        have HB0 := Lib.hid (Below.refl w.heap.size w)
        go_enter Try.func11, Try.ntmps11
        go_wp2_with fail
        refine (C9.out _).mono ?_
        rintro e w1 ⟨rfl, hb1⟩
        have HB1 := Lib.hid (HB0.out.trans (hb1.mono HB0.out.size))
        clear hb1 HB0
        go_wp2_with fail
        go_ret
        exact ⟨rfl, HB1.out⟩
      · have t3 : ((y.toNat : Int) == 47) = false := by rw [Pa.beq47]; simpa using h3
        by_cases h4 : y = 46
        · have t4 : ((y.toNat : Int) == 46) = true := by rw [Pa.beq46, h4]; rfl
          clear h1 h2 h3 h4
          have HB0 := Lib.hid (Below.refl w.heap.size w)
          go_enter Try.func11, Try.ntmps11
          go_wp2_with fail
          refine (C9.out _).mono ?_
          rintro e w1 ⟨rfl, hb1⟩
          have HB1 := Lib.hid (HB0.out.trans (hb1.mono HB0.out.size))
          clear hb1 HB0
          go_wp2_with fail
          go_ret
          exact ⟨rfl, HB1.out⟩
        · have t4 : ((y.toNat : Int) == 46) = false := by rw [Pa.beq46]; simpa using h4
          have hk := sw_keeps x y h1 h2 h3 h4
          have hall : ∃ (b' t' rr rr' : ByteArray) (ok : Bool), (∀ W : World, Calls Try.prog 17 #[.string b, .string t] W fun e w' => e = .returned (.tuple #[.string rr, .bool ok]) ∧ Below W.heap.size W w') ∧
              (∀ W : World, Calls Try.prog 27 #[.string b, .int .u8 (x.toNat : Int), .int .u8 (y.toNat : Int)] W fun e w' => e = .returned (.string b') ∧ Below W.heap.size W w') ∧
              (∀ W : World, Calls Try.prog 27 #[.string t, .int .u8 (x.toNat : Int), .int .u8 (y.toNat : Int)] W fun e w' => e = .returned (.string t') ∧ Below W.heap.size W w') ∧
              (∀ W : World, Calls Try.prog 17 #[.string b', .string t'] W fun e w' => e = .returned (.tuple #[.string rr', .bool ok]) ∧ Below W.heap.size W w') ∧
              (∀ W : World, Calls Try.prog 27 #[.string rr, .int .u8 (x.toNat : Int), .int .u8 (y.toNat : Int)] W fun e w' => e = .returned (.string rr') ∧ Below W.heap.size W w') := by
            have hl := Pl.rel_len b.data.toList t.data.toList
            rw [← Lib.size_eq, ← Lib.size_eq] at hl
            have zr : (⟨(Pl.relS b.data.toList t.data.toList).toArray⟩ : ByteArray).size = (Pl.relS b.data.toList t.data.toList).length := Pa.size_mk _
            have zb : (⟨(b.data.toList.map (sw x y)).toArray⟩ : ByteArray).size = b.size := by rw [Lib.size_eq b, ← List.length_map (sw x y)]; exact Pa.size_mk _
            have zt : (⟨(t.data.toList.map (sw x y)).toArray⟩ : ByteArray).size = t.size := by rw [Lib.size_eq t, ← List.length_map (sw x y)]; exact Pa.size_mk _
            refine ⟨_, _, _, _, _, fun W => implRel_small b t W (by omega) (by omega), fun W => exchanged_any b x y W (by omega), fun W => exchanged_any t x y W (by omega), fun W => ?_, fun W => exchanged_any _ x y W (by omega)⟩
            have k := implRel_small ⟨(b.data.toList.map (sw x y)).toArray⟩ ⟨(t.data.toList.map (sw x y)).toArray⟩ W (by omega) (by omega)
            rw [show (⟨(b.data.toList.map (sw x y)).toArray⟩ : ByteArray).data.toList = b.data.toList.map (sw x y) from rfl, show (⟨(t.data.toList.map (sw x y)).toArray⟩ : ByteArray).data.toList = t.data.toList.map (sw x y) from rfl,
              (Pl.relS_map hk _ _).1, (Pl.relS_map hk _ _).2] at k
            exact k
          obtain ⟨b', t', rr, rr', ok, k1, k2, k3, k4, k5⟩ := hall
          have K1 := Lib.hid k1
          have K2 := Lib.hid k2
          have K3 := Lib.hid k3
          have K4 := Lib.hid k4
          have K5 := Lib.hid k5
          have hrr : (rr'.toList == rr'.toList) = true := by simp
          have hok : (ok == ok) = true := by simp
          clear h1 h2 h3 h4 k1 k2 k3 k4 k5 hk
          have HB0 := Lib.hid (Below.refl w.heap.size w)
          go_enter Try.func11, Try.ntmps11
          go_wp2_with fail
          refine (K1.out _).mono ?_
          rintro e w1 ⟨rfl, hb1⟩
          have HB1 := Lib.hid (HB0.out.trans (hb1.mono HB0.out.size))
          clear hb1 HB0
          go_wp2_with fail
          refine (K2.out _).mono ?_
          rintro e w2 ⟨rfl, hb2⟩
          have HB2 := Lib.hid (HB1.out.trans (hb2.mono HB1.out.size))
          clear hb2 HB1
          go_wp2_with fail
          refine (K3.out _).mono ?_
          rintro e w3 ⟨rfl, hb3⟩
          have HB3 := Lib.hid (HB2.out.trans (hb3.mono HB2.out.size))
          clear hb3 HB2
          go_wp2_with fail
          refine (K4.out _).mono ?_
          rintro e w4 ⟨rfl, hb4⟩
          have HB4 := Lib.hid (HB3.out.trans (hb4.mono HB3.out.size))
          clear hb4 HB3
          go_wp2_with fail
          refine (K5.out _).mono ?_
          rintro e w5 ⟨rfl, hb5⟩
          have HB5 := Lib.hid (HB4.out.trans (hb5.mono HB4.out.size))
          clear hb5 HB4
          go_wp2_with fail
          refine (C9.out _).mono ?_
          rintro e w6 ⟨rfl, hb6⟩
          have HB6 := Lib.hid (HB5.out.trans (hb6.mono HB5.out.size))
          clear hb6 HB5
          go_wp2_with fail
          go_ret
          exact ⟨rfl, HB6.out⟩

end Go.Proofs.Ytgkbkocakinmfaa
