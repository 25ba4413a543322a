/-
  laws.FnRelBelow returns true at every two paths. Conditions: both together are no longer than 2^20 bytes; the library's variable MaxLen holds an int.
-/
import Derived.Test.YtgkbkocakinmfaaDoorCd
import Derived.Test.YtgkbkocakinmfaaDoorPlainBelow
namespace Go.Proofs.YtgkbkocakinmfaaDoor
open Go.RowKit Go.Lib

def PreC (s p : ByteArray) (b : Bool) : Prop := ∀ W : World, Calls Tryd.prog 20 #[.string s, .string p] W fun e w' => e = .returned (.bool b) ∧ Below W.heap.size W w'
def SufC (s p : ByteArray) (b : Bool) : Prop := ∀ W : World, Calls Tryd.prog 21 #[.string s, .string p] W fun e w' => e = .returned (.bool b) ∧ Below W.heap.size W w'
theorem pre_c (s p : ByteArray) : PreC s p (Lib.hasPrefix s.data.toList p.data.toList) := fun W =>
  (Tryd.strings_HasPrefix s p W).mono fun _ _ ⟨h1, h2⟩ => ⟨h1, h2 ▸ Below.refl _ _⟩
theorem suf_c (s p : ByteArray) (h : s.size ≤ 9223372036854775807) : SufC s p (Lib.hasSuffix s.data.toList p.data.toList) := fun W =>
  (Tryd.strings_HasSuffix s p W h).mono fun _ _ ⟨h1, h2⟩ => ⟨h1, h2 ▸ Below.refl _ _⟩

theorem below_none (a b q : ByteArray) (w : World) (K : RelC a b q false) :
    Calls Tryd.prog 5 #[.string a, .string b] w fun e w' => e = .returned (.bool true) ∧ Below w.heap.size w w' := by
  have C9 := wakes_c
  have HB0 := Lib.hid (Below.refl w.heap.size w)
  go_enter Tryd.func5, Tryd.ntmps5
  go_wp2_with fail
  refine (K _).mono ?_
  rintro e w1 ⟨rfl, hb1⟩
  have HB1 := Lib.hid (HB0.out.trans (hb1.mono HB0.out.size))
  clear hb1 HB0
  go_wp2_with fail
  refine (C9 _).mono ?_
  rintro e w2 ⟨rfl, hb2⟩
  have HB2 := Lib.hid (HB1.out.trans (hb2.mono HB1.out.size))
  clear hb2 HB1
  go_wp2_with fail
  go_ret
  exact ⟨rfl, HB2.out⟩

theorem below_a1 (a b r c t : ByteArray) (w : World) (hm : Ml w) (hc : c.size ≤ 8796093022208) (K : RelC a b r true) (C1 : CleanC a c) (C2 : CleanC b t) (he : (t.toList == c.toList) = true) (S : SufC (⟨#[47]⟩ ++ c) ⟨#[47, 46, 46]⟩ false) (UR : Ups r 0) :
    Calls Tryd.prog 5 #[.string a, .string b] w fun e w' => e = .returned (.bool true) ∧ Below w.heap.size w w' := by
  have C9 := wakes_c
  have HM := Lib.hid hm
  clear hm
  have HB0 := Lib.hid (Below.refl w.heap.size w)
  go_enter Tryd.func5, Tryd.ntmps5
  go_wp2_with fail
  refine (K _).mono ?_
  rintro e w1 ⟨rfl, hb1⟩
  have HB1 := Lib.hid (HB0.out.trans (hb1.mono HB0.out.size))
  clear hb1 HB0
  go_wp2_with fail
  refine (C1 _).mono ?_
  rintro e w2 ⟨rfl, hb2⟩
  have HB2 := Lib.hid (HB1.out.trans (hb2.mono HB1.out.size))
  clear hb2 HB1
  go_wp2_with fail
  refine (C2 _).mono ?_
  rintro e w3 ⟨rfl, hb3⟩
  have HB3 := Lib.hid (HB2.out.trans (hb3.mono HB2.out.size))
  clear hb3 HB2
  go_wp2_with fail
  refine (S _).mono ?_
  rintro e w4 ⟨rfl, hb4⟩
  have HB4 := Lib.hid (HB3.out.trans (hb4.mono HB3.out.size))
  clear hb4 HB3
  go_wp2_with fail
  refine (UR _ (HM.out.below HB4.out)).mono ?_
  rintro e w5 ⟨rfl, hb5⟩
  have HB5 := Lib.hid (HB4.out.trans (hb5.mono HB4.out.size))
  clear hb5 HB4
  go_wp2_with fail
  refine (C9 _).mono ?_
  rintro e w6 ⟨rfl, hb6⟩
  have HB6 := Lib.hid (HB5.out.trans (hb6.mono HB5.out.size))
  clear hb6 HB5
  go_wp2_with fail
  go_ret
  exact ⟨rfl, HB6.out⟩

theorem below_a2 (a b r c t : ByteArray) (w : World) (hm : Ml w) (hc : c.size ≤ 8796093022208) (K : RelC a b r true) (C1 : CleanC a c) (C2 : CleanC b t) (he : (t.toList == c.toList) = false) (P : PreC t (c ++ ⟨#[47]⟩) true) (S : SufC (⟨#[47]⟩ ++ c) ⟨#[47, 46, 46]⟩ false) (UR : Ups r 0) :
    Calls Tryd.prog 5 #[.string a, .string b] w fun e w' => e = .returned (.bool true) ∧ Below w.heap.size w w' := by
  have C9 := wakes_c
  have HM := Lib.hid hm
  clear hm
  have HB0 := Lib.hid (Below.refl w.heap.size w)
  go_enter Tryd.func5, Tryd.ntmps5
  go_wp2_with fail
  refine (K _).mono ?_
  rintro e w1 ⟨rfl, hb1⟩
  have HB1 := Lib.hid (HB0.out.trans (hb1.mono HB0.out.size))
  clear hb1 HB0
  go_wp2_with fail
  refine (C1 _).mono ?_
  rintro e w2 ⟨rfl, hb2⟩
  have HB2 := Lib.hid (HB1.out.trans (hb2.mono HB1.out.size))
  clear hb2 HB1
  go_wp2_with fail
  refine (C2 _).mono ?_
  rintro e w3 ⟨rfl, hb3⟩
  have HB3 := Lib.hid (HB2.out.trans (hb3.mono HB2.out.size))
  clear hb3 HB2
  go_wp2_with fail
  refine (P _).mono ?_
  rintro e w4 ⟨rfl, hb4⟩
  have HB4 := Lib.hid (HB3.out.trans (hb4.mono HB3.out.size))
  clear hb4 HB3
  go_wp2_with fail
  refine (S _).mono ?_
  rintro e w5 ⟨rfl, hb5⟩
  have HB5 := Lib.hid (HB4.out.trans (hb5.mono HB4.out.size))
  clear hb5 HB4
  go_wp2_with fail
  refine (UR _ (HM.out.below HB5.out)).mono ?_
  rintro e w6 ⟨rfl, hb6⟩
  have HB6 := Lib.hid (HB5.out.trans (hb6.mono HB5.out.size))
  clear hb6 HB5
  go_wp2_with fail
  refine (C9 _).mono ?_
  rintro e w7 ⟨rfl, hb7⟩
  have HB7 := Lib.hid (HB6.out.trans (hb7.mono HB6.out.size))
  clear hb7 HB6
  go_wp2_with fail
  go_ret
  exact ⟨rfl, HB7.out⟩

theorem below_a3 (a b r c t : ByteArray) (w : World) (hm : Ml w) (hc : c.size ≤ 8796093022208) (K : RelC a b r true) (C1 : CleanC a c) (C2 : CleanC b t) (he : (t.toList == c.toList) = false) (P : PreC t (c ++ ⟨#[47]⟩) false) (h47 : (c.toList == [47]) = true) (S : SufC (⟨#[47]⟩ ++ c) ⟨#[47, 46, 46]⟩ false) (UR : Ups r 0) :
    Calls Tryd.prog 5 #[.string a, .string b] w fun e w' => e = .returned (.bool true) ∧ Below w.heap.size w w' := by
  have C9 := wakes_c
  have HM := Lib.hid hm
  clear hm
  have HB0 := Lib.hid (Below.refl w.heap.size w)
  go_enter Tryd.func5, Tryd.ntmps5
  go_wp2_with fail
  refine (K _).mono ?_
  rintro e w1 ⟨rfl, hb1⟩
  have HB1 := Lib.hid (HB0.out.trans (hb1.mono HB0.out.size))
  clear hb1 HB0
  go_wp2_with fail
  refine (C1 _).mono ?_
  rintro e w2 ⟨rfl, hb2⟩
  have HB2 := Lib.hid (HB1.out.trans (hb2.mono HB1.out.size))
  clear hb2 HB1
  go_wp2_with fail
  refine (C2 _).mono ?_
  rintro e w3 ⟨rfl, hb3⟩
  have HB3 := Lib.hid (HB2.out.trans (hb3.mono HB2.out.size))
  clear hb3 HB2
  go_wp2_with fail
  refine (P _).mono ?_
  rintro e w4 ⟨rfl, hb4⟩
  have HB4 := Lib.hid (HB3.out.trans (hb4.mono HB3.out.size))
  clear hb4 HB3
  go_wp2_with fail
  refine (S _).mono ?_
  rintro e w5 ⟨rfl, hb5⟩
  have HB5 := Lib.hid (HB4.out.trans (hb5.mono HB4.out.size))
  clear hb5 HB4
  go_wp2_with fail
  refine (UR _ (HM.out.below HB5.out)).mono ?_
  rintro e w6 ⟨rfl, hb6⟩
  have HB6 := Lib.hid (HB5.out.trans (hb6.mono HB5.out.size))
  clear hb6 HB5
  go_wp2_with fail
  refine (C9 _).mono ?_
  rintro e w7 ⟨rfl, hb7⟩
  have HB7 := Lib.hid (HB6.out.trans (hb7.mono HB6.out.size))
  clear hb7 HB6
  go_wp2_with fail
  go_ret
  exact ⟨rfl, HB7.out⟩

theorem below_a4 (a b r c t : ByteArray) (w : World) (hm : Ml w) (hc : c.size ≤ 8796093022208) (K : RelC a b r true) (C1 : CleanC a c) (C2 : CleanC b t) (he : (t.toList == c.toList) = false) (P : PreC t (c ++ ⟨#[47]⟩) false) (h47 : (c.toList == [47]) = false) (h46 : (c.toList == [46]) = true) (UT : Ups t 0) (S : SufC (⟨#[47]⟩ ++ c) ⟨#[47, 46, 46]⟩ false) (UR : Ups r 0) :
    Calls Tryd.prog 5 #[.string a, .string b] w fun e w' => e = .returned (.bool true) ∧ Below w.heap.size w w' := by
  have C9 := wakes_c
  have HM := Lib.hid hm
  clear hm
  have HB0 := Lib.hid (Below.refl w.heap.size w)
  go_enter Tryd.func5, Tryd.ntmps5
  go_wp2_with fail
  refine (K _).mono ?_
  rintro e w1 ⟨rfl, hb1⟩
  have HB1 := Lib.hid (HB0.out.trans (hb1.mono HB0.out.size))
  clear hb1 HB0
  go_wp2_with fail
  refine (C1 _).mono ?_
  rintro e w2 ⟨rfl, hb2⟩
  have HB2 := Lib.hid (HB1.out.trans (hb2.mono HB1.out.size))
  clear hb2 HB1
  go_wp2_with fail
  refine (C2 _).mono ?_
  rintro e w3 ⟨rfl, hb3⟩
  have HB3 := Lib.hid (HB2.out.trans (hb3.mono HB2.out.size))
  clear hb3 HB2
  go_wp2_with fail
  refine (P _).mono ?_
  rintro e w4 ⟨rfl, hb4⟩
  have HB4 := Lib.hid (HB3.out.trans (hb4.mono HB3.out.size))
  clear hb4 HB3
  go_wp2_with fail
  refine (UT _ (HM.out.below HB4.out)).mono ?_
  rintro e w5 ⟨rfl, hb5⟩
  have HB5 := Lib.hid (HB4.out.trans (hb5.mono HB4.out.size))
  clear hb5 HB4
  go_wp2_with fail
  refine (S _).mono ?_
  rintro e w6 ⟨rfl, hb6⟩
  have HB6 := Lib.hid (HB5.out.trans (hb6.mono HB5.out.size))
  clear hb6 HB5
  go_wp2_with fail
  refine (UR _ (HM.out.below HB6.out)).mono ?_
  rintro e w7 ⟨rfl, hb7⟩
  have HB7 := Lib.hid (HB6.out.trans (hb7.mono HB6.out.size))
  clear hb7 HB6
  go_wp2_with fail
  refine (C9 _).mono ?_
  rintro e w8 ⟨rfl, hb8⟩
  have HB8 := Lib.hid (HB7.out.trans (hb8.mono HB7.out.size))
  clear hb8 HB7
  go_wp2_with fail
  go_ret
  exact ⟨rfl, HB8.out⟩

theorem below_a5 (a b r c t : ByteArray) (w : World) (hm : Ml w) (hc : c.size ≤ 8796093022208) (K : RelC a b r true) (C1 : CleanC a c) (C2 : CleanC b t) (he : (t.toList == c.toList) = false) (P : PreC t (c ++ ⟨#[47]⟩) false) (h47 : (c.toList == [47]) = false) (h46 : (c.toList == [46]) = true) (m : Nat) (UT : Ups t m) (hm0 : ((m : Int) == 0) = false) (S : SufC (⟨#[47]⟩ ++ c) ⟨#[47, 46, 46]⟩ false) (n : Nat) (UR : Ups r n) (hn : ((n : Int) == 0) = false) :
    Calls Tryd.prog 5 #[.string a, .string b] w fun e w' => e = .returned (.bool true) ∧ Below w.heap.size w w' := by
  have C9 := wakes_c
  have HM := Lib.hid hm
  clear hm
  have HB0 := Lib.hid (Below.refl w.heap.size w)
  go_enter Tryd.func5, Tryd.ntmps5
  go_wp2_with fail
  refine (K _).mono ?_
  rintro e w1 ⟨rfl, hb1⟩
  have HB1 := Lib.hid (HB0.out.trans (hb1.mono HB0.out.size))
  clear hb1 HB0
  go_wp2_with fail
  refine (C1 _).mono ?_
  rintro e w2 ⟨rfl, hb2⟩
  have HB2 := Lib.hid (HB1.out.trans (hb2.mono HB1.out.size))
  clear hb2 HB1
  go_wp2_with fail
  refine (C2 _).mono ?_
  rintro e w3 ⟨rfl, hb3⟩
  have HB3 := Lib.hid (HB2.out.trans (hb3.mono HB2.out.size))
  clear hb3 HB2
  go_wp2_with fail
  refine (P _).mono ?_
  rintro e w4 ⟨rfl, hb4⟩
  have HB4 := Lib.hid (HB3.out.trans (hb4.mono HB3.out.size))
  clear hb4 HB3
  go_wp2_with fail
  refine (UT _ (HM.out.below HB4.out)).mono ?_
  rintro e w5 ⟨rfl, hb5⟩
  have HB5 := Lib.hid (HB4.out.trans (hb5.mono HB4.out.size))
  clear hb5 HB4
  go_wp2_with fail
  refine (S _).mono ?_
  rintro e w6 ⟨rfl, hb6⟩
  have HB6 := Lib.hid (HB5.out.trans (hb6.mono HB5.out.size))
  clear hb6 HB5
  go_wp2_with fail
  refine (UR _ (HM.out.below HB6.out)).mono ?_
  rintro e w7 ⟨rfl, hb7⟩
  have HB7 := Lib.hid (HB6.out.trans (hb7.mono HB6.out.size))
  clear hb7 HB6
  go_wp2_with fail
  refine (C9 _).mono ?_
  rintro e w8 ⟨rfl, hb8⟩
  have HB8 := Lib.hid (HB7.out.trans (hb8.mono HB7.out.size))
  clear hb8 HB7
  go_wp2_with fail
  go_ret
  exact ⟨rfl, HB8.out⟩

theorem below_a6 (a b r c t : ByteArray) (w : World) (hm : Ml w) (hc : c.size ≤ 8796093022208) (K : RelC a b r true) (C1 : CleanC a c) (C2 : CleanC b t) (he : (t.toList == c.toList) = false) (P : PreC t (c ++ ⟨#[47]⟩) false) (h47 : (c.toList == [47]) = false) (h46 : (c.toList == [46]) = false) (S : SufC (⟨#[47]⟩ ++ c) ⟨#[47, 46, 46]⟩ false) (n : Nat) (UR : Ups r n) (hn : ((n : Int) == 0) = false) :
    Calls Tryd.prog 5 #[.string a, .string b] w fun e w' => e = .returned (.bool true) ∧ Below w.heap.size w w' := by
  have C9 := wakes_c
  have HM := Lib.hid hm
  clear hm
  have HB0 := Lib.hid (Below.refl w.heap.size w)
  go_enter Tryd.func5, Tryd.ntmps5
  go_wp2_with fail
  refine (K _).mono ?_
  rintro e w1 ⟨rfl, hb1⟩
  have HB1 := Lib.hid (HB0.out.trans (hb1.mono HB0.out.size))
  clear hb1 HB0
  go_wp2_with fail
  refine (C1 _).mono ?_
  rintro e w2 ⟨rfl, hb2⟩
  have HB2 := Lib.hid (HB1.out.trans (hb2.mono HB1.out.size))
  clear hb2 HB1
  go_wp2_with fail
  refine (C2 _).mono ?_
  rintro e w3 ⟨rfl, hb3⟩
  have HB3 := Lib.hid (HB2.out.trans (hb3.mono HB2.out.size))
  clear hb3 HB2
  go_wp2_with fail
  refine (P _).mono ?_
  rintro e w4 ⟨rfl, hb4⟩
  have HB4 := Lib.hid (HB3.out.trans (hb4.mono HB3.out.size))
  clear hb4 HB3
  go_wp2_with fail
  refine (S _).mono ?_
  rintro e w5 ⟨rfl, hb5⟩
  have HB5 := Lib.hid (HB4.out.trans (hb5.mono HB4.out.size))
  clear hb5 HB4
  go_wp2_with fail
  refine (UR _ (HM.out.below HB5.out)).mono ?_
  rintro e w6 ⟨rfl, hb6⟩
  have HB6 := Lib.hid (HB5.out.trans (hb6.mono HB5.out.size))
  clear hb6 HB5
  go_wp2_with fail
  refine (C9 _).mono ?_
  rintro e w7 ⟨rfl, hb7⟩
  have HB7 := Lib.hid (HB6.out.trans (hb7.mono HB6.out.size))
  clear hb7 HB6
  go_wp2_with fail
  go_ret
  exact ⟨rfl, HB7.out⟩

theorem below_b1 (a b r c t : ByteArray) (w : World) (hm : Ml w) (hc : c.size ≤ 8796093022208) (K : RelC a b r true) (C1 : CleanC a c) (C2 : CleanC b t) (he : (t.toList == c.toList) = true) (S : SufC (⟨#[47]⟩ ++ c) ⟨#[47, 46, 46]⟩ true) (UR : Ups r 0) :
    Calls Tryd.prog 5 #[.string a, .string b] w fun e w' => e = .returned (.bool true) ∧ Below w.heap.size w w' := by
  have C9 := wakes_c
  have HM := Lib.hid hm
  clear hm
  have HB0 := Lib.hid (Below.refl w.heap.size w)
  go_enter Tryd.func5, Tryd.ntmps5
  go_wp2_with fail
  refine (K _).mono ?_
  rintro e w1 ⟨rfl, hb1⟩
  have HB1 := Lib.hid (HB0.out.trans (hb1.mono HB0.out.size))
  clear hb1 HB0
  go_wp2_with fail
  refine (C1 _).mono ?_
  rintro e w2 ⟨rfl, hb2⟩
  have HB2 := Lib.hid (HB1.out.trans (hb2.mono HB1.out.size))
  clear hb2 HB1
  go_wp2_with fail
  refine (C2 _).mono ?_
  rintro e w3 ⟨rfl, hb3⟩
  have HB3 := Lib.hid (HB2.out.trans (hb3.mono HB2.out.size))
  clear hb3 HB2
  go_wp2_with fail
  refine (S _).mono ?_
  rintro e w4 ⟨rfl, hb4⟩
  have HB4 := Lib.hid (HB3.out.trans (hb4.mono HB3.out.size))
  clear hb4 HB3
  go_wp2_with fail
  refine (UR _ (HM.out.below HB4.out)).mono ?_
  rintro e w5 ⟨rfl, hb5⟩
  have HB5 := Lib.hid (HB4.out.trans (hb5.mono HB4.out.size))
  clear hb5 HB4
  go_wp2_with fail
  refine (C9 _).mono ?_
  rintro e w6 ⟨rfl, hb6⟩
  have HB6 := Lib.hid (HB5.out.trans (hb6.mono HB5.out.size))
  clear hb6 HB5
  go_wp2_with fail
  go_ret
  exact ⟨rfl, HB6.out⟩

theorem below_b2 (a b r c t : ByteArray) (w : World) (hm : Ml w) (hc : c.size ≤ 8796093022208) (K : RelC a b r true) (C1 : CleanC a c) (C2 : CleanC b t) (he : (t.toList == c.toList) = false) (P : PreC t (c ++ ⟨#[47]⟩) true) (S : SufC (⟨#[47]⟩ ++ c) ⟨#[47, 46, 46]⟩ true) (m : Nat) (UT : Ups t m) (UB : Ups c m) (UR : Ups r 0) :
    Calls Tryd.prog 5 #[.string a, .string b] w fun e w' => e = .returned (.bool true) ∧ Below w.heap.size w w' := by
  have C9 := wakes_c
  have HM := Lib.hid hm
  clear hm
  have hmm : ((m : Int) == (m : Int)) = true := by simp
  have HB0 := Lib.hid (Below.refl w.heap.size w)
  go_enter Tryd.func5, Tryd.ntmps5
  go_wp2_with fail
  refine (K _).mono ?_
  rintro e w1 ⟨rfl, hb1⟩
  have HB1 := Lib.hid (HB0.out.trans (hb1.mono HB0.out.size))
  clear hb1 HB0
  go_wp2_with fail
  refine (C1 _).mono ?_
  rintro e w2 ⟨rfl, hb2⟩
  have HB2 := Lib.hid (HB1.out.trans (hb2.mono HB1.out.size))
  clear hb2 HB1
  go_wp2_with fail
  refine (C2 _).mono ?_
  rintro e w3 ⟨rfl, hb3⟩
  have HB3 := Lib.hid (HB2.out.trans (hb3.mono HB2.out.size))
  clear hb3 HB2
  go_wp2_with fail
  refine (P _).mono ?_
  rintro e w4 ⟨rfl, hb4⟩
  have HB4 := Lib.hid (HB3.out.trans (hb4.mono HB3.out.size))
  clear hb4 HB3
  go_wp2_with fail
  refine (S _).mono ?_
  rintro e w5 ⟨rfl, hb5⟩
  have HB5 := Lib.hid (HB4.out.trans (hb5.mono HB4.out.size))
  clear hb5 HB4
  go_wp2_with fail
  refine (P _).mono ?_
  rintro e w6 ⟨rfl, hb6⟩
  have HB6 := Lib.hid (HB5.out.trans (hb6.mono HB5.out.size))
  clear hb6 HB5
  go_wp2_with fail
  refine (UT _ (HM.out.below HB6.out)).mono ?_
  rintro e w7 ⟨rfl, hb7⟩
  have HB7 := Lib.hid (HB6.out.trans (hb7.mono HB6.out.size))
  clear hb7 HB6
  go_wp2_with fail
  refine (UB _ (HM.out.below HB7.out)).mono ?_
  rintro e w8 ⟨rfl, hb8⟩
  have HB8 := Lib.hid (HB7.out.trans (hb8.mono HB7.out.size))
  clear hb8 HB7
  go_wp2_with fail
  refine (UR _ (HM.out.below HB8.out)).mono ?_
  rintro e w9 ⟨rfl, hb9⟩
  have HB9 := Lib.hid (HB8.out.trans (hb9.mono HB8.out.size))
  clear hb9 HB8
  go_wp2_with fail
  refine (C9 _).mono ?_
  rintro e w10 ⟨rfl, hb10⟩
  have HB10 := Lib.hid (HB9.out.trans (hb10.mono HB9.out.size))
  clear hb10 HB9
  go_wp2_with fail
  go_ret
  exact ⟨rfl, HB10.out⟩

theorem below_b3 (a b r c t : ByteArray) (w : World) (hm : Ml w) (hc : c.size ≤ 8796093022208) (K : RelC a b r true) (C1 : CleanC a c) (C2 : CleanC b t) (he : (t.toList == c.toList) = false) (P : PreC t (c ++ ⟨#[47]⟩) true) (S : SufC (⟨#[47]⟩ ++ c) ⟨#[47, 46, 46]⟩ true) (m k : Nat) (UT : Ups t m) (UB : Ups c k) (hmk : ((m : Int) == (k : Int)) = false) (n : Nat) (UR : Ups r n) (hn : ((n : Int) == 0) = false) :
    Calls Tryd.prog 5 #[.string a, .string b] w fun e w' => e = .returned (.bool true) ∧ Below w.heap.size w w' := by
  have C9 := wakes_c
  have HM := Lib.hid hm
  clear hm
  have HB0 := Lib.hid (Below.refl w.heap.size w)
  go_enter Tryd.func5, Tryd.ntmps5
  go_wp2_with fail
  refine (K _).mono ?_
  rintro e w1 ⟨rfl, hb1⟩
  have HB1 := Lib.hid (HB0.out.trans (hb1.mono HB0.out.size))
  clear hb1 HB0
  go_wp2_with fail
  refine (C1 _).mono ?_
  rintro e w2 ⟨rfl, hb2⟩
  have HB2 := Lib.hid (HB1.out.trans (hb2.mono HB1.out.size))
  clear hb2 HB1
  go_wp2_with fail
  refine (C2 _).mono ?_
  rintro e w3 ⟨rfl, hb3⟩
  have HB3 := Lib.hid (HB2.out.trans (hb3.mono HB2.out.size))
  clear hb3 HB2
  go_wp2_with fail
  refine (P _).mono ?_
  rintro e w4 ⟨rfl, hb4⟩
  have HB4 := Lib.hid (HB3.out.trans (hb4.mono HB3.out.size))
  clear hb4 HB3
  go_wp2_with fail
  refine (S _).mono ?_
  rintro e w5 ⟨rfl, hb5⟩
  have HB5 := Lib.hid (HB4.out.trans (hb5.mono HB4.out.size))
  clear hb5 HB4
  go_wp2_with fail
  refine (P _).mono ?_
  rintro e w6 ⟨rfl, hb6⟩
  have HB6 := Lib.hid (HB5.out.trans (hb6.mono HB5.out.size))
  clear hb6 HB5
  go_wp2_with fail
  refine (UT _ (HM.out.below HB6.out)).mono ?_
  rintro e w7 ⟨rfl, hb7⟩
  have HB7 := Lib.hid (HB6.out.trans (hb7.mono HB6.out.size))
  clear hb7 HB6
  go_wp2_with fail
  refine (UB _ (HM.out.below HB7.out)).mono ?_
  rintro e w8 ⟨rfl, hb8⟩
  have HB8 := Lib.hid (HB7.out.trans (hb8.mono HB7.out.size))
  clear hb8 HB7
  go_wp2_with fail
  refine (UR _ (HM.out.below HB8.out)).mono ?_
  rintro e w9 ⟨rfl, hb9⟩
  have HB9 := Lib.hid (HB8.out.trans (hb9.mono HB8.out.size))
  clear hb9 HB8
  go_wp2_with fail
  refine (C9 _).mono ?_
  rintro e w10 ⟨rfl, hb10⟩
  have HB10 := Lib.hid (HB9.out.trans (hb10.mono HB9.out.size))
  clear hb10 HB9
  go_wp2_with fail
  go_ret
  exact ⟨rfl, HB10.out⟩

theorem below_b4 (a b r c t : ByteArray) (w : World) (hm : Ml w) (hc : c.size ≤ 8796093022208) (K : RelC a b r true) (C1 : CleanC a c) (C2 : CleanC b t) (he : (t.toList == c.toList) = false) (P : PreC t (c ++ ⟨#[47]⟩) false) (h47 : (c.toList == [47]) = false) (h46 : (c.toList == [46]) = false) (S : SufC (⟨#[47]⟩ ++ c) ⟨#[47, 46, 46]⟩ true) (n : Nat) (UR : Ups r n) (hn : ((n : Int) == 0) = false) :
    Calls Tryd.prog 5 #[.string a, .string b] w fun e w' => e = .returned (.bool true) ∧ Below w.heap.size w w' := by
  have C9 := wakes_c
  have HM := Lib.hid hm
  clear hm
  have HB0 := Lib.hid (Below.refl w.heap.size w)
  go_enter Tryd.func5, Tryd.ntmps5
  go_wp2_with fail
  refine (K _).mono ?_
  rintro e w1 ⟨rfl, hb1⟩
  have HB1 := Lib.hid (HB0.out.trans (hb1.mono HB0.out.size))
  clear hb1 HB0
  go_wp2_with fail
  refine (C1 _).mono ?_
  rintro e w2 ⟨rfl, hb2⟩
  have HB2 := Lib.hid (HB1.out.trans (hb2.mono HB1.out.size))
  clear hb2 HB1
  go_wp2_with fail
  refine (C2 _).mono ?_
  rintro e w3 ⟨rfl, hb3⟩
  have HB3 := Lib.hid (HB2.out.trans (hb3.mono HB2.out.size))
  clear hb3 HB2
  go_wp2_with fail
  refine (P _).mono ?_
  rintro e w4 ⟨rfl, hb4⟩
  have HB4 := Lib.hid (HB3.out.trans (hb4.mono HB3.out.size))
  clear hb4 HB3
  go_wp2_with fail
  refine (S _).mono ?_
  rintro e w5 ⟨rfl, hb5⟩
  have HB5 := Lib.hid (HB4.out.trans (hb5.mono HB4.out.size))
  clear hb5 HB4
  go_wp2_with fail
  refine (P _).mono ?_
  rintro e w6 ⟨rfl, hb6⟩
  have HB6 := Lib.hid (HB5.out.trans (hb6.mono HB5.out.size))
  clear hb6 HB5
  go_wp2_with fail
  refine (UR _ (HM.out.below HB6.out)).mono ?_
  rintro e w7 ⟨rfl, hb7⟩
  have HB7 := Lib.hid (HB6.out.trans (hb7.mono HB6.out.size))
  clear hb7 HB6
  go_wp2_with fail
  refine (C9 _).mono ?_
  rintro e w8 ⟨rfl, hb8⟩
  have HB8 := Lib.hid (HB7.out.trans (hb8.mono HB7.out.size))
  clear hb8 HB7
  go_wp2_with fail
  go_ret
  exact ⟨rfl, HB8.out⟩

theorem hasPre_iff (s p : Pl.Bs) : Lib.hasPrefix s p = true ↔ p <+: s := by unfold Lib.hasPrefix; exact List.isPrefixOf_iff_prefix
theorem hasSuf_iff (s p : Pl.Bs) : Lib.hasSuffix s p = true ↔ p <:+ s := by unfold Lib.hasSuffix; exact List.isSuffixOf_iff_suffix
theorem ne0 {n : Nat} (h : n ≠ 0) : ((n : Int) == 0) = false := by simpa using h

theorem fnRelBelow_walk (a b : ByteArray) (w : World) (hm : Ml w) (h : a.size + b.size ≤ 1048576) :
    Calls Tryd.prog 5 #[.string a, .string b] w fun e w' => e = .returned (.bool true) ∧ Below w.heap.size w w' := by
  have hA := Pl.good_to a.data.toList
  have hB := Pl.good_to b.data.toList
  cases hw : Pl.way (Pl.to a.data.toList) (Pl.to b.data.toList) with
  | none => exact below_none a b _ w (rel_none (by omega) (by omega) hw)
  | some r =>
    have K := rel_some (by omega) (by omega) hw
    have C1 := clean_c a (by omega)
    have C2 := clean_c b (by omega)
    have z1 := text_size a
    have z2 := text_size b
    have z3 := way_size hw
    have UB := ups_c hA (by omega)
    have UT := ups_c hB (by omega)
    have UR := ups_c (Pl.good_way hB hw) (by omega)
    have bp := Pl.below_plain hA hB hw
    have bu := Pl.below_up hA hB hw
    have ts := Pl.text_suffix hA
    have hroot : Pl.text (Pl.to a.data.toList) = [47] → ¬ ((Pl.to a.data.toList).names = [] ∧ (Pl.to a.data.toList).up ≠ 0) := fun e hu => by
      rw [← ts, e] at hu
      exact absurd hu (by decide)
    have hdot : Pl.text (Pl.to a.data.toList) = [46] → ¬ ((Pl.to a.data.toList).names = [] ∧ (Pl.to a.data.toList).up ≠ 0) := fun e hu => by
      rw [← ts, e] at hu
      exact absurd hu (by decide)
    generalize Pl.to a.data.toList = A at *
    generalize Pl.to b.data.toList = B at *
    have P := pre_c (bs (Pl.text B)) (bs (Pl.text A) ++ ⟨#[47]⟩)
    have S := suf_c (⟨#[47]⟩ ++ bs (Pl.text A)) ⟨#[47, 46, 46]⟩ (by rw [app_size]; show 1 + _ ≤ _; omega)
    have eP : Lib.hasPrefix (bs (Pl.text B)).data.toList (bs (Pl.text A) ++ ⟨#[47]⟩).data.toList = decide (Pl.text A ++ [47] <+: Pl.text B) := by
      rw [app_list, bs_data, bs_data]
      exact Bool.eq_iff_iff.2 ((hasPre_iff _ _).trans (decide_eq_true_iff).symm)
    have eS : Lib.hasSuffix (⟨#[47]⟩ ++ bs (Pl.text A)).data.toList (⟨#[47, 46, 46]⟩ : ByteArray).data.toList = decide (A.names = [] ∧ A.up ≠ 0) := by
      rw [app_list, bs_data]
      exact Bool.eq_iff_iff.2 (((hasSuf_iff _ _).trans ts).trans (decide_eq_true_iff).symm)
    rw [eP] at P
    rw [eS] at S
    clear eP eS
    have hcs : (bs (Pl.text A)).size ≤ 8796093022208 := by omega
    by_cases hs : A.names = [] ∧ A.up ≠ 0
    · have bu := bu hs
      rw [decide_eq_true hs] at S
      by_cases he : Pl.text B = Pl.text A
      · rw [bu.2 (.inl he)] at UR
        exact below_b1 a b _ _ _ w hm hcs K C1 C2 (by rw [bs_beq]; simpa using he) S UR
      · have he' : ((bs (Pl.text B)).toList == (bs (Pl.text A)).toList) = false := by rw [bs_beq]; simpa using he
        by_cases hp : Pl.text A ++ [47] <+: Pl.text B
        · rw [decide_eq_true hp] at P
          by_cases hu : B.up = A.up
          · rw [bu.2 (.inr ⟨hp, hu⟩)] at UR
            rw [hu] at UT
            exact below_b2 a b _ _ _ w hm hcs K C1 C2 he' P S _ UT UB UR
          · exact below_b3 a b _ _ _ w hm hcs K C1 C2 he' P S _ _ UT UB (by simpa [Int.ofNat_inj] using hu) _ UR (ne0 fun e => by
              rcases bu.1 e with e | e
              · exact he e
              · exact hu e.2)
        · rw [decide_eq_false hp] at P
          exact below_b4 a b _ _ _ w hm hcs K C1 C2 he' P (by rw [bs_list]; simpa using fun e => hroot e hs) (by rw [bs_list]; simpa using fun e => hdot e hs) S _ UR (ne0 fun e => by
              rcases bu.1 e with e | e
              · exact he e
              · exact hp e.1)
    · have bp := bp hs
      rw [decide_eq_false hs] at S
      by_cases he : Pl.text B = Pl.text A
      · rw [bp.2 (.inl he)] at UR
        exact below_a1 a b _ _ _ w hm hcs K C1 C2 (by rw [bs_beq]; simpa using he) S UR
      · have he' : ((bs (Pl.text B)).toList == (bs (Pl.text A)).toList) = false := by rw [bs_beq]; simpa using he
        by_cases hp : Pl.text A ++ [47] <+: Pl.text B
        · rw [decide_eq_true hp] at P
          rw [bp.2 (.inr (.inl hp))] at UR
          exact below_a2 a b _ _ _ w hm hcs K C1 C2 he' P S UR
        · rw [decide_eq_false hp] at P
          by_cases h47 : Pl.text A = [47]
          · rw [bp.2 (.inr (.inr (.inl h47)))] at UR
            exact below_a3 a b _ _ _ w hm hcs K C1 C2 he' P (by rw [bs_list]; simpa using h47) S UR
          · have h47' : ((bs (Pl.text A)).toList == [47]) = false := by rw [bs_list]; simpa using h47
            by_cases h46 : Pl.text A = [46]
            · have h46' : ((bs (Pl.text A)).toList == [46]) = true := by rw [bs_list]; simpa using h46
              by_cases hu : B.up = 0
              · rw [bp.2 (.inr (.inr (.inr ⟨h46, hu⟩)))] at UR
                rw [hu] at UT
                exact below_a4 a b _ _ _ w hm hcs K C1 C2 he' P h47' h46' UT S UR
              · exact below_a5 a b _ _ _ w hm hcs K C1 C2 he' P h47' h46' _ UT (ne0 hu) S _ UR (ne0 fun e => by
                  rcases bp.1 e with e | e | e | e
                  · exact he e
                  · exact hp e
                  · exact h47 e
                  · exact hu e.2)
            · exact below_a6 a b _ _ _ w hm hcs K C1 C2 he' P h47' (by rw [bs_list]; simpa using h46) S _ UR (ne0 fun e => by
                rcases bp.1 e with e | e | e | e
                · exact he e
                · exact hp e
                · exact h47 e
                · exact h46 e.1)

end Go.Proofs.YtgkbkocakinmfaaDoor
