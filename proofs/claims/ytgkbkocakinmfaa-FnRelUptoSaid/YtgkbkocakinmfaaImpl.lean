/-
  The thin package's functions Clean, Join (of one, two or three elements, and of any slice), Split, Dir, Base, IsAbs, and the laws' small function wakes: what they return, for every input. Conditions: the paths together are no longer than 2^47 bytes.
-/
import Derived.Test.YtgkbkocakinmfaaRel
namespace Go.Proofs.Ytgkbkocakinmfaa
open Go.RowKit Go.Lib

theorem app_list (a b : ByteArray) : (a ++ b).data.toList = a.data.toList ++ b.data.toList := by
  rw [ByteArray.data_append, Array.toList_append]
theorem app_size (a b : ByteArray) : (a ++ b).size = a.size + b.size := ByteArray.size_append

theorem implRel_small (s t : ByteArray) (w : World) (hs : s.size ≤ 8796093022208) (ht : t.size ≤ 8796093022208) :
    Calls Try.prog 17 #[.string s, .string t] w fun e w' =>
      e = .returned (.tuple #[.string ⟨(Pl.relS s.data.toList t.data.toList).toArray⟩, .bool (Pl.relOk s.data.toList t.data.toList)]) ∧ Below w.heap.size w w' :=
  implRel_any s t w (by omega) (by omega) (fun _ r hr => by
    have := Pl.way_up_le hr
    rw [← Lib.size_eq, ← Lib.size_eq] at this
    omega)

theorem implClean_any (s : ByteArray) (w : World) (hs : s.size ≤ 281474976710656) :
    Calls Try.prog 18 #[.string s] w fun e w' => e = .returned (.string ⟨(Pa.clean s.data.toList).toArray⟩) ∧ Below w.heap.size w w' := by
  have HC := Lib.hid (Try.filepath_Clean s w hs)
  clear hs
  generalize Pa.clean s.data.toList = c at *
  go_enter Try.func18, Try.ntmps18
  go_wp2_with fail
  refine HC.out.mono ?_
  rintro e w1 ⟨rfl, hb⟩
  have HB := Lib.hid hb
  clear hb
  go_wp2_with fail
  go_ret
  exact ⟨rfl, HB.out⟩

theorem rooted_any (s : ByteArray) (w : World) :
    Calls Try.prog 19 #[.string s] w fun e w' => e = .returned (.bool (Pl.isR s.data.toList)) ∧ w = w' := by
  have hc := Try.strings_HasPrefix s ⟨#[47]⟩ w
  have e : Lib.hasPrefix s.data.toList (⟨#[47]⟩ : ByteArray).data.toList = Pl.isR s.data.toList := Pa.isAbs_eq _
  rw [e] at hc
  have HC := Lib.hid hc
  clear hc e
  generalize Pl.isR s.data.toList = b at *
  go_enter Try.func19, Try.ntmps19
  go_wp2_with fail
  refine HC.out.mono ?_
  rintro e w1 ⟨rfl, rfl⟩
  go_wp2_with fail
  go_ret
  exact ⟨rfl, rfl⟩

theorem implJoin_any (bk o c : Nat) (xs : List ByteArray) (w : World)
    (hcells : ∀ (j : Nat) x, xs[j]? = some x → w.cell? ⟨bk, o + j, none⟩ = some (.string x)) (hbk : bk < w.heap.size) (hcap : xs.length ≤ c)
    (hlen : Lib.lens (xs.map (·.data.toList)) + xs.length ≤ 140737488355328) :
    Calls Try.prog 20 #[.slice (some ⟨bk, o, none⟩) xs.length c] w fun e w' => e = .returned (.string ⟨(Pa.join (xs.map (·.data.toList))).toArray⟩) ∧ Below w.heap.size w w' := by
  have hc := Try.filepath_Join bk o c xs w hcells hbk hcap hlen
  rw [Pa.fjoin_eq_join] at hc
  have HC := Lib.hid hc
  clear hc hcells hbk hcap hlen
  generalize Pa.join (xs.map (·.data.toList)) = q at *
  generalize xs.length = n at *
  go_enter Try.func20, Try.ntmps20
  go_wp2_with fail
  refine HC.out.mono ?_
  rintro e w1 ⟨rfl, hb⟩
  have HB := Lib.hid hb
  clear hb
  go_wp2_with fail
  go_ret
  exact ⟨rfl, HB.out⟩

theorem implJoin_nil (w : World) :
    Calls Try.prog 20 #[.slice none 0 0] w fun e w' => e = .returned (.string ⟨#[]⟩) ∧ Below w.heap.size w w' := by
  go_enter Try.func20, Try.ntmps20
  go_wp2_with fail
  refine (Try.filepath_Join_nil w).mono ?_
  rintro e w1 ⟨rfl, rfl⟩
  go_wp2_with fail
  go_ret
  exact ⟨rfl, Below.refl _ _⟩

/-- Join of two elements that a call has laid into a new slice -/
theorem implJoin_two (a b : ByteArray) (w : World) (t : TypeId) (h : a.size + b.size ≤ 70368744177664) :
    Calls Try.prog 20 #[.slice (some ⟨w.heap.size, 0, none⟩) 2 2] (w.alloc (.cells #[.string a, .string b] t)) fun e w' =>
      e = .returned (.string ⟨(Pa.join [a.data.toList, b.data.toList]).toArray⟩) ∧ Below w.heap.size w w' := by
  refine (implJoin_any w.heap.size 0 2 [a, b] (w.alloc (.cells #[.string a, .string b] t)) ?_ (by simp) (Nat.le_refl _) ?_).mono ?_
  · intro j x hx
    match j, hx with
    | 0, hx => obtain rfl : a = x := by simpa using hx
               simp [World.cell?_alloc_new]
    | 1, hx => obtain rfl : b = x := by simpa using hx
               simp [World.cell?_alloc_new]
    | n + 2, hx => simp at hx
  · simp only [Lib.lens, List.map_cons, List.map_nil, List.sum_cons, List.sum_nil, List.length_cons, List.length_nil, ← Lib.size_eq]
    omega
  · rintro e w' ⟨rfl, hb⟩
    exact ⟨rfl, ((Below.refl _ w).alloc (Nat.le_refl _) _).trans (hb.mono (by simp))⟩

theorem implJoin_three (a b c : ByteArray) (w : World) (t : TypeId) (h : a.size + b.size + c.size ≤ 70368744177664) :
    Calls Try.prog 20 #[.slice (some ⟨w.heap.size, 0, none⟩) 3 3] (w.alloc (.cells #[.string a, .string b, .string c] t)) fun e w' =>
      e = .returned (.string ⟨(Pa.join [a.data.toList, b.data.toList, c.data.toList]).toArray⟩) ∧ Below w.heap.size w w' := by
  refine (implJoin_any w.heap.size 0 3 [a, b, c] (w.alloc (.cells #[.string a, .string b, .string c] t)) ?_ (by simp) (Nat.le_refl _) ?_).mono ?_
  · intro j x hx
    match j, hx with
    | 0, hx => obtain rfl : a = x := by simpa using hx
               simp [World.cell?_alloc_new]
    | 1, hx => obtain rfl : b = x := by simpa using hx
               simp [World.cell?_alloc_new]
    | 2, hx => obtain rfl : c = x := by simpa using hx
               simp [World.cell?_alloc_new]
    | n + 3, hx => simp at hx
  · simp only [Lib.lens, List.map_cons, List.map_nil, List.sum_cons, List.sum_nil, List.length_cons, List.length_nil, ← Lib.size_eq]
    omega
  · rintro e w' ⟨rfl, hb⟩
    exact ⟨rfl, ((Below.refl _ w).alloc (Nat.le_refl _) _).trans (hb.mono (by simp))⟩

set_option maxHeartbeats 1000000 in
theorem wakes_any (w : World) :
    Calls Try.prog 22 #[] w fun e w' => e = .returned (.bool true) ∧ Below w.heap.size w w' := by
  have h1 := implRel_any ⟨#[97]⟩ ⟨#[97, 47, 98]⟩ w (by decide) (by decide) (fun _ r hr => by
    have := Pl.way_up_le hr
    have e1 : (⟨#[97]⟩ : ByteArray).data.toList.length = 1 := rfl
    have e2 : (⟨#[97, 47, 98]⟩ : ByteArray).data.toList.length = 3 := rfl
    omega)
  have e1 : Pl.relS (⟨#[97]⟩ : ByteArray).data.toList (⟨#[97, 47, 98]⟩ : ByteArray).data.toList = [98] := by decide
  have e2 : Pl.relOk (⟨#[97]⟩ : ByteArray).data.toList (⟨#[97, 47, 98]⟩ : ByteArray).data.toList = true := by decide
  rw [e1, e2] at h1
  have h2 := fun W => implClean_any ⟨#[120, 47, 46, 46]⟩ W (by decide)
  rw [show Pa.clean (⟨#[120, 47, 46, 46]⟩ : ByteArray).data.toList = [46] by decide] at h2
  have h3 := fun W => implJoin_two ⟨#[120]⟩ ⟨#[121]⟩ W 9 (by decide)
  rw [show Pa.join [(⟨#[120]⟩ : ByteArray).data.toList, (⟨#[121]⟩ : ByteArray).data.toList] = [120, 47, 121] by decide] at h3
  have H1 := Lib.hid h1
  have H2 := Lib.hid h2
  have H3 := Lib.hid h3
  clear h1 h2 h3 e1 e2
  go_enter Try.func22, Try.ntmps22
  go_wp2_with fail
  refine H1.out.mono ?_
  rintro e w1 ⟨rfl, hb1⟩
  have HB1 := Lib.hid hb1
  clear hb1
  go_wp2_with fail
  refine (H2.out _).mono ?_
  rintro e w2 ⟨rfl, hb2⟩
  have HB2 := Lib.hid hb2
  clear hb2
  go_wp2_with fail
  refine (H3.out _).mono ?_
  rintro e w3 ⟨rfl, hb3⟩
  have HB3 := Lib.hid hb3
  clear hb3
  go_wp2_with fail
  go_ret
  refine ⟨rfl, ?_⟩
  have k1 := HB1.out
  have k2 := HB2.out
  have k3 := HB3.out
  exact k1.trans ((k2.mono k1.size).trans (k3.mono (Nat.le_trans k1.size k2.size)))

end Go.Proofs.Ytgkbkocakinmfaa
