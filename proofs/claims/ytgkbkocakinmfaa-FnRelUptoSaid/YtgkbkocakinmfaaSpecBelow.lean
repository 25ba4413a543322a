/-
  The reference's below: what it returns, for every two places. Conditions: as each theorem states them.
-/
import Derived.Test.YtgkbkocakinmfaaSpecText
import Derived.Deep.RegionHeld3
import Derived.IntWalk
namespace Go.Proofs.Ytgkbkocakinmfaa
open Go.RowKit Go.Lib

theorem below_short (r1 r2 : Bool) (u1 u2 : Int) (ao1 ao2 : Option Addr) (n1 n2 c1 c2 : Nat) (w : World) (h : (n1 : Int) < (n2 : Int)) :
    Calls Try.prog 38 #[.agg #[.bool r1, .int .i64 u1, .slice ao1 n1 c1], .agg #[.bool r2, .int .i64 u2, .slice ao2 n2 c2]] w fun e w' => e = .returned (.tuple #[.slice none 0 0, .bool false]) ∧ Below w.heap.size w w' := by
  have hd : decide ((n1 : Int) < (n2 : Int)) = true := decide_eq_true h
  go_enter Try.func38, Try.ntmps38
  go_wp2_with fail
  go_quiet (fail)
  go_wp2_with fail
  go_ret2
  exact ⟨rfl, below_drewN (two_allocs _ _ _) _⟩

set_option maxHeartbeats 1000000 in
theorem below_some (r1 r2 : Bool) (u1 u2 : Int) (b off : Nat) (ao2 : Option Addr) (n1 n2 c1 c2 : Nat) (res : Bool) (w : World) (h : n2 ≤ n1) (hc : n1 ≤ c1)
    (SM : ∀ W : World, Below w.heap.size w W → Calls Try.prog 24 #[.agg #[.bool r2, .int .i64 u2, .slice ao2 n2 c2], .agg #[.bool r1, .int .i64 u1, .slice (some ⟨b, off, none⟩) n2 c1]] W fun e w' => e = .returned (.bool res) ∧ Below W.heap.size W w') :
    Calls Try.prog 38 #[.agg #[.bool r1, .int .i64 u1, .slice (some ⟨b, off, none⟩) n1 c1], .agg #[.bool r2, .int .i64 u2, .slice ao2 n2 c2]] w fun e w' =>
      (res = false → e = .returned (.tuple #[.slice none 0 0, .bool false])) ∧ (res = true → ∃ ao, e = .returned (.tuple #[.slice (some ao) (n1 - n2) (c1 - n2), .bool true]) ∧ (n2 < n1 → ao = ⟨b, off + n2, none⟩)) ∧ Below w.heap.size w w' := by
  have hd : decide ((n1 : Int) < (n2 : Int)) = false := decide_eq_false (by omega)
  have hd' : decide (n1 < n2) = false := decide_eq_false (by omega)
  have h1 : (0 : Int) ≤ (n2 : Int) := by omega
  have h2 : (n2 : Int) ≤ (c1 : Int) := by omega
  have h3 : (n2 : Int) ≤ (n1 : Int) := by omega
  have HSM := Lib.hid SM
  have HA := Lib.hid (heap_alloc2_old w (.cells #[.bool r1, .int .i64 u1, .slice (some ⟨b, off, none⟩) n1 c1] 34) (.cells #[.bool r2, .int .i64 u2, .slice ao2 n2 c2] 34))
  have HZ := Lib.hid (heap_alloc2_new w (.cells #[.bool r1, .int .i64 u1, .slice (some ⟨b, off, none⟩) n1 c1] 34) (.cells #[.bool r2, .int .i64 u2, .slice ao2 n2 c2] 34))
  have HB0 := Lib.hid (two_allocs w (.cells #[.bool r1, .int .i64 u1, .slice (some ⟨b, off, none⟩) n1 c1] 34) (.cells #[.bool r2, .int .i64 u2, .slice ao2 n2 c2] 34))
  have HS0 : Hid (((w.alloc (.cells #[.bool r1, .int .i64 u1, .slice (some ⟨b, off, none⟩) n1 c1] 34)).alloc (.cells #[.bool r2, .int .i64 u2, .slice ao2 n2 c2] 34)).cell? ⟨w.heap.size, 0, none⟩ = some (.bool r1) ∧
      ((w.alloc (.cells #[.bool r1, .int .i64 u1, .slice (some ⟨b, off, none⟩) n1 c1] 34)).alloc (.cells #[.bool r2, .int .i64 u2, .slice ao2 n2 c2] 34)).cell? ⟨w.heap.size, 1, none⟩ = some (.int .i64 u1) ∧
      ((w.alloc (.cells #[.bool r1, .int .i64 u1, .slice (some ⟨b, off, none⟩) n1 c1] 34)).alloc (.cells #[.bool r2, .int .i64 u2, .slice ao2 n2 c2] 34)).cell? ⟨w.heap.size, 2, none⟩ = some (.slice (some ⟨b, off, none⟩) n1 c1) ∧
      ((w.alloc (.cells #[.bool r1, .int .i64 u1, .slice (some ⟨b, off, none⟩) n1 c1] 34)).alloc (.cells #[.bool r2, .int .i64 u2, .slice ao2 n2 c2] 34)).cell? ⟨w.heap.size + 1, 0, none⟩ = some (.bool r2) ∧
      ((w.alloc (.cells #[.bool r1, .int .i64 u1, .slice (some ⟨b, off, none⟩) n1 c1] 34)).alloc (.cells #[.bool r2, .int .i64 u2, .slice ao2 n2 c2] 34)).cell? ⟨w.heap.size + 1, 1, none⟩ = some (.int .i64 u2) ∧
      ((w.alloc (.cells #[.bool r1, .int .i64 u1, .slice (some ⟨b, off, none⟩) n1 c1] 34)).alloc (.cells #[.bool r2, .int .i64 u2, .slice ao2 n2 c2] 34)).cell? ⟨w.heap.size + 1, 2, none⟩ = some (.slice ao2 n2 c2)) := by
    obtain ⟨⟨a0, a1, a2⟩, _⟩ := row3 HA.out
    obtain ⟨⟨z0, z1, z2⟩, _⟩ := row3 HZ.out
    exact ⟨a0, a1, a2, z0, z1, z2⟩
  have HK : Hid (∀ w1 : World, Below (((w.alloc (.cells #[.bool r1, .int .i64 u1, .slice (some ⟨b, off, none⟩) n1 c1] 34)).alloc (.cells #[.bool r2, .int .i64 u2, .slice ao2 n2 c2] 34)).drew).heap.size (((w.alloc (.cells #[.bool r1, .int .i64 u1, .slice (some ⟨b, off, none⟩) n1 c1] 34)).alloc (.cells #[.bool r2, .int .i64 u2, .slice ao2 n2 c2] 34)).drew) w1 →
      Hid (w1.cell? ⟨w.heap.size, 0, none⟩ = some (.bool r1) ∧ w1.cell? ⟨w.heap.size, 1, none⟩ = some (.int .i64 u1) ∧ w1.cell? ⟨w.heap.size, 2, none⟩ = some (.slice (some ⟨b, off, none⟩) n1 c1) ∧ w1.cell? ⟨w.heap.size + 1, 0, none⟩ = some (.bool r2) ∧ w1.cell? ⟨w.heap.size + 1, 1, none⟩ = some (.int .i64 u2) ∧ w1.cell? ⟨w.heap.size + 1, 2, none⟩ = some (.slice ao2 n2 c2))) := by
    intro w1 hb
    have e : (((w.alloc (.cells #[.bool r1, .int .i64 u1, .slice (some ⟨b, off, none⟩) n1 c1] 34)).alloc (.cells #[.bool r2, .int .i64 u2, .slice ao2 n2 c2] 34)).drew).heap.size = w.heap.size + 2 := by simp [World.drew]
    obtain ⟨⟨a0, a1, a2⟩, _⟩ := row3 ((hb.block w.heap.size (by omega)).trans HA.out)
    obtain ⟨⟨z0, z1, z2⟩, _⟩ := row3 ((hb.block (w.heap.size + 1) (by omega)).trans HZ.out)
    exact ⟨a0, a1, a2, z0, z1, z2⟩
  clear SM
  cases res with
  | false =>
    go_enter Try.func38, Try.ntmps38
    go_wp2_with fail
    go_region_held3 (fun w' => w'.cell? ⟨w.heap.size, 0, none⟩ = some (.bool r1) ∧ w'.cell? ⟨w.heap.size, 1, none⟩ = some (.int .i64 u1) ∧ w'.cell? ⟨w.heap.size, 2, none⟩ = some (.slice (some ⟨b, off, none⟩) n1 c1) ∧ w'.cell? ⟨w.heap.size + 1, 0, none⟩ = some (.bool r2) ∧ w'.cell? ⟨w.heap.size + 1, 1, none⟩ = some (.int .i64 u2) ∧ w'.cell? ⟨w.heap.size + 1, 2, none⟩ = some (.slice ao2 n2 c2)) (first | exact HS0.out | exact HS1.out) (first | (go_at_call 24; refine (HSM.out _ (HB0.out.drew)).mono ?_; rintro x w1 ⟨rfl, hb1⟩; have HS1 := HK.out w1 hb1))
    have HB1 := Lib.hid (HB0.out.drew.trans (hb1.mono HB0.out.drew.size))
    obtain ⟨a0, a1, a2, z0, z1, z2⟩ := HS1.out
    clear hb1
    go_wp2_with fail
    go_ret2
    exact ⟨fun _ => rfl, fun e => (by cases e), HB1.out⟩
  | true =>
    go_enter Try.func38, Try.ntmps38
    go_wp2_with fail
    go_region_held3 (fun w' => w'.cell? ⟨w.heap.size, 0, none⟩ = some (.bool r1) ∧ w'.cell? ⟨w.heap.size, 1, none⟩ = some (.int .i64 u1) ∧ w'.cell? ⟨w.heap.size, 2, none⟩ = some (.slice (some ⟨b, off, none⟩) n1 c1) ∧ w'.cell? ⟨w.heap.size + 1, 0, none⟩ = some (.bool r2) ∧ w'.cell? ⟨w.heap.size + 1, 1, none⟩ = some (.int .i64 u2) ∧ w'.cell? ⟨w.heap.size + 1, 2, none⟩ = some (.slice ao2 n2 c2)) (first | exact HS0.out | exact HS1.out) (first | (go_at_call 24; refine (HSM.out _ (HB0.out.drew)).mono ?_; rintro x w1 ⟨rfl, hb1⟩; have HS1 := HK.out w1 hb1))
    have HB1 := Lib.hid (HB0.out.drew.trans (hb1.mono HB0.out.drew.size))
    obtain ⟨a0, a1, a2, z0, z1, z2⟩ := HS1.out
    clear hb1
    go_wp2_with fail
    all_goals
      go_ret2
      refine ⟨⟨_, rfl, fun hlt => ?_⟩, HB1.out⟩
      first | rfl | (exfalso; omega)

set_option maxHeartbeats 1000000 in
theorem below_empty (r1 r2 : Bool) (u1 u2 : Int) (a : Addr) (c1 : Nat) (ao2 : Option Addr) (c2 : Nat) (res : Bool) (w : World)
    (SM : ∀ W : World, Below w.heap.size w W → Calls Try.prog 24 #[.agg #[.bool r2, .int .i64 u2, .slice ao2 0 c2], .agg #[.bool r1, .int .i64 u1, .slice (some a) 0 c1]] W fun e w' => e = .returned (.bool res) ∧ Below W.heap.size W w') :
    Calls Try.prog 38 #[.agg #[.bool r1, .int .i64 u1, .slice (some a) 0 c1], .agg #[.bool r2, .int .i64 u2, .slice ao2 0 c2]] w fun e w' =>
      (res = false → e = .returned (.tuple #[.slice none 0 0, .bool false])) ∧ (res = true → ∃ ao c, e = .returned (.tuple #[.slice ao 0 c, .bool true]) ∧ (ao = none → c = 0)) ∧ Below w.heap.size w w' := by
  have HAO : Hid ((some a : Option Addr) = none → c1 = 0) := fun e => by cases e
  have hd' : decide ((0 : Nat) < 0) = false := rfl
  have HSM := Lib.hid SM
  have HA := Lib.hid (heap_alloc2_old w (.cells #[.bool r1, .int .i64 u1, .slice (some a) 0 c1] 34) (.cells #[.bool r2, .int .i64 u2, .slice ao2 0 c2] 34))
  have HZ := Lib.hid (heap_alloc2_new w (.cells #[.bool r1, .int .i64 u1, .slice (some a) 0 c1] 34) (.cells #[.bool r2, .int .i64 u2, .slice ao2 0 c2] 34))
  have HB0 := Lib.hid (two_allocs w (.cells #[.bool r1, .int .i64 u1, .slice (some a) 0 c1] 34) (.cells #[.bool r2, .int .i64 u2, .slice ao2 0 c2] 34))
  have HS0 : Hid (((w.alloc (.cells #[.bool r1, .int .i64 u1, .slice (some a) 0 c1] 34)).alloc (.cells #[.bool r2, .int .i64 u2, .slice ao2 0 c2] 34)).cell? ⟨w.heap.size, 0, none⟩ = some (.bool r1) ∧
      ((w.alloc (.cells #[.bool r1, .int .i64 u1, .slice (some a) 0 c1] 34)).alloc (.cells #[.bool r2, .int .i64 u2, .slice ao2 0 c2] 34)).cell? ⟨w.heap.size, 1, none⟩ = some (.int .i64 u1) ∧
      ((w.alloc (.cells #[.bool r1, .int .i64 u1, .slice (some a) 0 c1] 34)).alloc (.cells #[.bool r2, .int .i64 u2, .slice ao2 0 c2] 34)).cell? ⟨w.heap.size, 2, none⟩ = some (.slice (some a) 0 c1) ∧
      ((w.alloc (.cells #[.bool r1, .int .i64 u1, .slice (some a) 0 c1] 34)).alloc (.cells #[.bool r2, .int .i64 u2, .slice ao2 0 c2] 34)).cell? ⟨w.heap.size + 1, 0, none⟩ = some (.bool r2) ∧
      ((w.alloc (.cells #[.bool r1, .int .i64 u1, .slice (some a) 0 c1] 34)).alloc (.cells #[.bool r2, .int .i64 u2, .slice ao2 0 c2] 34)).cell? ⟨w.heap.size + 1, 1, none⟩ = some (.int .i64 u2) ∧
      ((w.alloc (.cells #[.bool r1, .int .i64 u1, .slice (some a) 0 c1] 34)).alloc (.cells #[.bool r2, .int .i64 u2, .slice ao2 0 c2] 34)).cell? ⟨w.heap.size + 1, 2, none⟩ = some (.slice ao2 0 c2)) := by
    obtain ⟨⟨a0, a1, a2⟩, _⟩ := row3 HA.out
    obtain ⟨⟨z0, z1, z2⟩, _⟩ := row3 HZ.out
    exact ⟨a0, a1, a2, z0, z1, z2⟩
  have HK : Hid (∀ w1 : World, Below (((w.alloc (.cells #[.bool r1, .int .i64 u1, .slice (some a) 0 c1] 34)).alloc (.cells #[.bool r2, .int .i64 u2, .slice ao2 0 c2] 34)).drew).heap.size (((w.alloc (.cells #[.bool r1, .int .i64 u1, .slice (some a) 0 c1] 34)).alloc (.cells #[.bool r2, .int .i64 u2, .slice ao2 0 c2] 34)).drew) w1 →
      Hid (w1.cell? ⟨w.heap.size, 0, none⟩ = some (.bool r1) ∧ w1.cell? ⟨w.heap.size, 1, none⟩ = some (.int .i64 u1) ∧ w1.cell? ⟨w.heap.size, 2, none⟩ = some (.slice (some a) 0 c1) ∧ w1.cell? ⟨w.heap.size + 1, 0, none⟩ = some (.bool r2) ∧ w1.cell? ⟨w.heap.size + 1, 1, none⟩ = some (.int .i64 u2) ∧ w1.cell? ⟨w.heap.size + 1, 2, none⟩ = some (.slice ao2 0 c2))) := by
    intro w1 hb
    have e : (((w.alloc (.cells #[.bool r1, .int .i64 u1, .slice (some a) 0 c1] 34)).alloc (.cells #[.bool r2, .int .i64 u2, .slice ao2 0 c2] 34)).drew).heap.size = w.heap.size + 2 := by simp [World.drew]
    obtain ⟨⟨a0, a1, a2⟩, _⟩ := row3 ((hb.block w.heap.size (by omega)).trans HA.out)
    obtain ⟨⟨z0, z1, z2⟩, _⟩ := row3 ((hb.block (w.heap.size + 1) (by omega)).trans HZ.out)
    exact ⟨a0, a1, a2, z0, z1, z2⟩
  clear SM
  cases res with
  | false =>
    go_enter Try.func38, Try.ntmps38
    go_wp2_with fail
    go_region_held3 (fun w' => w'.cell? ⟨w.heap.size, 0, none⟩ = some (.bool r1) ∧ w'.cell? ⟨w.heap.size, 1, none⟩ = some (.int .i64 u1) ∧ w'.cell? ⟨w.heap.size, 2, none⟩ = some (.slice (some a) 0 c1) ∧ w'.cell? ⟨w.heap.size + 1, 0, none⟩ = some (.bool r2) ∧ w'.cell? ⟨w.heap.size + 1, 1, none⟩ = some (.int .i64 u2) ∧ w'.cell? ⟨w.heap.size + 1, 2, none⟩ = some (.slice ao2 0 c2)) (first | exact HS0.out | exact HS1.out) (first | (go_at_call 24; refine (HSM.out _ (HB0.out.drew)).mono ?_; rintro x w1 ⟨rfl, hb1⟩; have HS1 := HK.out w1 hb1))
    have HB1 := Lib.hid (HB0.out.drew.trans (hb1.mono HB0.out.drew.size))
    obtain ⟨a0, a1, a2, z0, z1, z2⟩ := HS1.out
    clear hb1
    go_wp2_with fail
    go_ret2
    exact ⟨fun _ => rfl, fun e => (by cases e), HB1.out⟩
  | true =>
    go_enter Try.func38, Try.ntmps38
    go_wp2_with fail
    go_region_held3 (fun w' => w'.cell? ⟨w.heap.size, 0, none⟩ = some (.bool r1) ∧ w'.cell? ⟨w.heap.size, 1, none⟩ = some (.int .i64 u1) ∧ w'.cell? ⟨w.heap.size, 2, none⟩ = some (.slice (some a) 0 c1) ∧ w'.cell? ⟨w.heap.size + 1, 0, none⟩ = some (.bool r2) ∧ w'.cell? ⟨w.heap.size + 1, 1, none⟩ = some (.int .i64 u2) ∧ w'.cell? ⟨w.heap.size + 1, 2, none⟩ = some (.slice ao2 0 c2)) (first | exact HS0.out | exact HS1.out) (first | (go_at_call 24; refine (HSM.out _ (HB0.out.drew)).mono ?_; rintro x w1 ⟨rfl, hb1⟩; have HS1 := HK.out w1 hb1))
    have HB1 := Lib.hid (HB0.out.drew.trans (hb1.mono HB0.out.drew.size))
    obtain ⟨a0, a1, a2, z0, z1, z2⟩ := HS1.out
    clear hb1
    go_wp2_with fail
    all_goals
      go_ret2
      exact ⟨fun e => (by cases e), fun _ => ⟨_, _, rfl, HAO.out⟩, HB1.out⟩

set_option maxHeartbeats 1000000 in
theorem below_nil (r1 r2 : Bool) (u1 u2 : Int) (ao2 : Option Addr) (c2 : Nat) (res : Bool) (w : World)
    (SM : ∀ W : World, Below w.heap.size w W → Calls Try.prog 24 #[.agg #[.bool r2, .int .i64 u2, .slice ao2 0 c2], .agg #[.bool r1, .int .i64 u1, .slice none 0 0]] W fun e w' => e = .returned (.bool res) ∧ Below W.heap.size W w') :
    Calls Try.prog 38 #[.agg #[.bool r1, .int .i64 u1, .slice none 0 0], .agg #[.bool r2, .int .i64 u2, .slice ao2 0 c2]] w fun e w' =>
      (res = false → e = .returned (.tuple #[.slice none 0 0, .bool false])) ∧ (res = true → ∃ ao c, e = .returned (.tuple #[.slice ao 0 c, .bool true]) ∧ (ao = none → c = 0)) ∧ Below w.heap.size w w' := by
  have hd' : decide ((0 : Nat) < 0) = false := rfl
  have HSM := Lib.hid SM
  have HA := Lib.hid (heap_alloc2_old w (.cells #[.bool r1, .int .i64 u1, .slice none 0 0] 34) (.cells #[.bool r2, .int .i64 u2, .slice ao2 0 c2] 34))
  have HZ := Lib.hid (heap_alloc2_new w (.cells #[.bool r1, .int .i64 u1, .slice none 0 0] 34) (.cells #[.bool r2, .int .i64 u2, .slice ao2 0 c2] 34))
  have HB0 := Lib.hid (two_allocs w (.cells #[.bool r1, .int .i64 u1, .slice none 0 0] 34) (.cells #[.bool r2, .int .i64 u2, .slice ao2 0 c2] 34))
  have HS0 : Hid (((w.alloc (.cells #[.bool r1, .int .i64 u1, .slice none 0 0] 34)).alloc (.cells #[.bool r2, .int .i64 u2, .slice ao2 0 c2] 34)).cell? ⟨w.heap.size, 0, none⟩ = some (.bool r1) ∧
      ((w.alloc (.cells #[.bool r1, .int .i64 u1, .slice none 0 0] 34)).alloc (.cells #[.bool r2, .int .i64 u2, .slice ao2 0 c2] 34)).cell? ⟨w.heap.size, 1, none⟩ = some (.int .i64 u1) ∧
      ((w.alloc (.cells #[.bool r1, .int .i64 u1, .slice none 0 0] 34)).alloc (.cells #[.bool r2, .int .i64 u2, .slice ao2 0 c2] 34)).cell? ⟨w.heap.size, 2, none⟩ = some (.slice none 0 0) ∧
      ((w.alloc (.cells #[.bool r1, .int .i64 u1, .slice none 0 0] 34)).alloc (.cells #[.bool r2, .int .i64 u2, .slice ao2 0 c2] 34)).cell? ⟨w.heap.size + 1, 0, none⟩ = some (.bool r2) ∧
      ((w.alloc (.cells #[.bool r1, .int .i64 u1, .slice none 0 0] 34)).alloc (.cells #[.bool r2, .int .i64 u2, .slice ao2 0 c2] 34)).cell? ⟨w.heap.size + 1, 1, none⟩ = some (.int .i64 u2) ∧
      ((w.alloc (.cells #[.bool r1, .int .i64 u1, .slice none 0 0] 34)).alloc (.cells #[.bool r2, .int .i64 u2, .slice ao2 0 c2] 34)).cell? ⟨w.heap.size + 1, 2, none⟩ = some (.slice ao2 0 c2)) := by
    obtain ⟨⟨a0, a1, a2⟩, _⟩ := row3 HA.out
    obtain ⟨⟨z0, z1, z2⟩, _⟩ := row3 HZ.out
    exact ⟨a0, a1, a2, z0, z1, z2⟩
  have HK : Hid (∀ w1 : World, Below (((w.alloc (.cells #[.bool r1, .int .i64 u1, .slice none 0 0] 34)).alloc (.cells #[.bool r2, .int .i64 u2, .slice ao2 0 c2] 34)).drew).heap.size (((w.alloc (.cells #[.bool r1, .int .i64 u1, .slice none 0 0] 34)).alloc (.cells #[.bool r2, .int .i64 u2, .slice ao2 0 c2] 34)).drew) w1 →
      Hid (w1.cell? ⟨w.heap.size, 0, none⟩ = some (.bool r1) ∧ w1.cell? ⟨w.heap.size, 1, none⟩ = some (.int .i64 u1) ∧ w1.cell? ⟨w.heap.size, 2, none⟩ = some (.slice none 0 0) ∧ w1.cell? ⟨w.heap.size + 1, 0, none⟩ = some (.bool r2) ∧ w1.cell? ⟨w.heap.size + 1, 1, none⟩ = some (.int .i64 u2) ∧ w1.cell? ⟨w.heap.size + 1, 2, none⟩ = some (.slice ao2 0 c2))) := by
    intro w1 hb
    have e : (((w.alloc (.cells #[.bool r1, .int .i64 u1, .slice none 0 0] 34)).alloc (.cells #[.bool r2, .int .i64 u2, .slice ao2 0 c2] 34)).drew).heap.size = w.heap.size + 2 := by simp [World.drew]
    obtain ⟨⟨a0, a1, a2⟩, _⟩ := row3 ((hb.block w.heap.size (by omega)).trans HA.out)
    obtain ⟨⟨z0, z1, z2⟩, _⟩ := row3 ((hb.block (w.heap.size + 1) (by omega)).trans HZ.out)
    exact ⟨a0, a1, a2, z0, z1, z2⟩
  clear SM
  cases res with
  | false =>
    go_enter Try.func38, Try.ntmps38
    go_wp2_with fail
    go_region_held3 (fun w' => w'.cell? ⟨w.heap.size, 0, none⟩ = some (.bool r1) ∧ w'.cell? ⟨w.heap.size, 1, none⟩ = some (.int .i64 u1) ∧ w'.cell? ⟨w.heap.size, 2, none⟩ = some (.slice none 0 0) ∧ w'.cell? ⟨w.heap.size + 1, 0, none⟩ = some (.bool r2) ∧ w'.cell? ⟨w.heap.size + 1, 1, none⟩ = some (.int .i64 u2) ∧ w'.cell? ⟨w.heap.size + 1, 2, none⟩ = some (.slice ao2 0 c2)) (first | exact HS0.out | exact HS1.out) (first | (go_at_call 24; refine (HSM.out _ (HB0.out.drew)).mono ?_; rintro x w1 ⟨rfl, hb1⟩; have HS1 := HK.out w1 hb1))
    have HB1 := Lib.hid (HB0.out.drew.trans (hb1.mono HB0.out.drew.size))
    obtain ⟨a0, a1, a2, z0, z1, z2⟩ := HS1.out
    clear hb1
    go_wp2_with fail
    go_ret2
    exact ⟨fun _ => rfl, fun e => (by cases e), HB1.out⟩
  | true =>
    go_enter Try.func38, Try.ntmps38
    go_wp2_with fail
    go_region_held3 (fun w' => w'.cell? ⟨w.heap.size, 0, none⟩ = some (.bool r1) ∧ w'.cell? ⟨w.heap.size, 1, none⟩ = some (.int .i64 u1) ∧ w'.cell? ⟨w.heap.size, 2, none⟩ = some (.slice none 0 0) ∧ w'.cell? ⟨w.heap.size + 1, 0, none⟩ = some (.bool r2) ∧ w'.cell? ⟨w.heap.size + 1, 1, none⟩ = some (.int .i64 u2) ∧ w'.cell? ⟨w.heap.size + 1, 2, none⟩ = some (.slice ao2 0 c2)) (first | exact HS0.out | exact HS1.out) (first | (go_at_call 24; refine (HSM.out _ (HB0.out.drew)).mono ?_; rintro x w1 ⟨rfl, hb1⟩; have HS1 := HK.out w1 hb1))
    have HB1 := Lib.hid (HB0.out.drew.trans (hb1.mono HB0.out.drew.size))
    obtain ⟨a0, a1, a2, z0, z1, z2⟩ := HS1.out
    clear hb1
    go_wp2_with fail
    all_goals
      go_ret2
      exact ⟨fun e => (by cases e), fun _ => ⟨_, _, rfl, fun _ => rfl⟩, HB1.out⟩

/-- what lies below: the names behind those of the place, if it begins with them -/
theorem below_c {S S' : Nat → Prop} (P Q : Pl.Place) (v v' : Value) (w : World) (hn : P.names.length + Q.names.length ≤ 549755813888) (h1 : PV S w v P) (h2 : PV S' w v' Q) :
    Calls Try.prog 38 #[v, v'] w fun e w' =>
      ((P.rooted = Q.rooted ∧ P.up = Q.up ∧ Q.names <+: P.names) → ∃ nv, e = .returned (.tuple #[nv, .bool true]) ∧ Rd S w' nv ((P.names.drop Q.names.length).map bs)) ∧
      (¬ (P.rooted = Q.rooted ∧ P.up = Q.up ∧ Q.names <+: P.names) → e = .returned (.tuple #[.slice none 0 0, .bool false])) ∧ Below w.heap.size w w' := by
  obtain ⟨n1, rfl, r1⟩ := h1
  obtain ⟨n2, rfl, r2⟩ := h2
  have h2' : PV S' w (.agg #[.bool Q.rooted, .int .i64 Q.up, n2]) Q := ⟨n2, rfl, r2⟩
  obtain ⟨ao2, c2, rfl, _⟩ := r2.lies
  rw [List.length_map] at *
  have hpre : Q.names.length ≤ P.names.length → (Q.names <+: P.names ↔ Q.names = P.names.take Q.names.length) := fun hle => by
    constructor
    · rintro ⟨R, hR⟩
      rw [← hR, List.take_left]
    · intro e
      rw [e]
      exact List.take_prefix _ _
  by_cases hsh : P.names.length < Q.names.length
  · obtain ⟨ao1, c1, rfl, _⟩ := r1.lies
    rw [List.length_map]
    refine (below_short _ _ _ _ _ _ _ _ _ _ w (by omega)).mono ?_
    rintro e w' ⟨rfl, hb⟩
    refine ⟨fun e => ?_, fun _ => rfl, hb⟩
    have := e.2.2.length_le
    omega
  · have hle : Q.names.length ≤ P.names.length := by omega
    rcases r1 with ⟨h0, ao1, c1, rfl, hao⟩ | ⟨h0, b, off, c1, rfl, hc, hS, hlt, hk⟩
    · have hP0 : P.names = [] := List.map_eq_nil_iff.1 h0
      have hQ0 : Q.names = [] := by
        rw [hP0] at hle
        exact List.length_eq_zero_iff.1 (Nat.le_zero.1 hle)
      have hQl : Q.names.length = 0 := by rw [hQ0]; rfl
      have hdrop : (P.names.drop Q.names.length).map bs = [] := by rw [hP0, List.drop_nil]; rfl
      rw [hQl]
      rw [hQl] at h2'
      have SM : ∀ (W : World), Below w.heap.size w W → Calls Try.prog 24 #[.agg #[.bool Q.rooted, .int .i64 Q.up, .slice ao2 0 c2], .agg #[.bool P.rooted, .int .i64 P.up, .slice ao1 0 c1]] W fun e w' => e = .returned (.bool (decide (Q.rooted = P.rooted ∧ Q.up = P.up ∧ Q.names = P.names))) ∧ Below W.heap.size W w' := fun W hb =>
        same_c (S' := S) Q P _ _ W (by omega) (h2'.below hb) ⟨_, rfl, .inl ⟨h0, ao1, c1, rfl, hao⟩⟩
      have hiff : (P.rooted = Q.rooted ∧ P.up = Q.up ∧ Q.names <+: P.names) ↔ decide (Q.rooted = P.rooted ∧ Q.up = P.up ∧ Q.names = P.names) = true := by
        rw [decide_eq_true_iff, hP0, hQ0]
        exact ⟨fun e => ⟨e.1.symm, e.2.1.symm, rfl⟩, fun e => ⟨e.1.symm, e.2.1.symm, List.prefix_refl _⟩⟩
      have fin : ∀ (e : Ending) (w' : World), ((decide (Q.rooted = P.rooted ∧ Q.up = P.up ∧ Q.names = P.names) = false → e = .returned (.tuple #[.slice none 0 0, .bool false])) ∧ (decide (Q.rooted = P.rooted ∧ Q.up = P.up ∧ Q.names = P.names) = true → ∃ ao c, e = .returned (.tuple #[.slice ao 0 c, .bool true]) ∧ (ao = none → c = 0)) ∧ Below w.heap.size w w') →
          ((P.rooted = Q.rooted ∧ P.up = Q.up ∧ Q.names <+: P.names) → ∃ nv, e = .returned (.tuple #[nv, .bool true]) ∧ Rd S w' nv ((P.names.drop 0).map bs)) ∧ (¬ (P.rooted = Q.rooted ∧ P.up = Q.up ∧ Q.names <+: P.names) → e = .returned (.tuple #[.slice none 0 0, .bool false])) ∧ Below w.heap.size w w' := by
        rintro e w' ⟨g1, g2, g3⟩
        refine ⟨fun hy => ?_, fun hy => g1 (Bool.eq_false_iff.2 fun e => hy (hiff.2 e)), g3⟩
        obtain ⟨ao, c, e1, e2⟩ := g2 (hiff.1 hy)
        refine ⟨_, e1, ?_⟩
        rw [hP0]
        exact .inl ⟨rfl, ao, c, rfl, e2⟩
      cases ao1 with
      | none =>
        rw [hao rfl] at SM ⊢
        exact (below_nil _ _ _ _ ao2 c2 _ w SM).mono fun e w' g => fin e w' g
      | some a => exact (below_empty _ _ _ _ a c1 ao2 c2 _ w SM).mono fun e w' g => fin e w' g
    · rw [List.length_map] at hc
      have hT : Rd S w (.slice (some ⟨b, off, none⟩) Q.names.length c1) ((P.names.take Q.names.length).map bs) := by
        by_cases hq : Q.names.length = 0
        · rw [hq]
          exact .inl ⟨by rw [List.take_zero]; rfl, _, c1, rfl, fun e => by cases e⟩
        · have hl : ((P.names.take Q.names.length).map bs).length = Q.names.length := by rw [List.length_map, List.length_take]; omega
          refine .inr ⟨fun e => hq (by rw [← hl, e]; rfl), b, off, c1, by rw [hl], by rw [hl]; omega, hS, hlt, fun k hk' => ?_⟩
          rw [hl] at hk'
          rw [hk k (by rw [List.length_map]; omega)]
          simp only [List.getElem_map, List.getElem_take]
      have SM : ∀ (W : World), Below w.heap.size w W → Calls Try.prog 24 #[.agg #[.bool Q.rooted, .int .i64 Q.up, .slice ao2 Q.names.length c2], .agg #[.bool P.rooted, .int .i64 P.up, .slice (some ⟨b, off, none⟩) Q.names.length c1]] W fun e w' => e = .returned (.bool (decide (Q.rooted = P.rooted ∧ Q.up = P.up ∧ Q.names = P.names.take Q.names.length))) ∧ Below W.heap.size W w' := fun W hb =>
        same_c (S' := S) Q ⟨P.rooted, P.up, P.names.take Q.names.length⟩ _ _ W (by omega) (h2'.below hb) ⟨_, rfl, hT.below hb⟩
      have hiff : (P.rooted = Q.rooted ∧ P.up = Q.up ∧ Q.names <+: P.names) ↔ decide (Q.rooted = P.rooted ∧ Q.up = P.up ∧ Q.names = P.names.take Q.names.length) = true := by
        rw [decide_eq_true_iff, hpre hle]
        exact ⟨fun e => ⟨e.1.symm, e.2.1.symm, e.2.2⟩, fun e => ⟨e.1.symm, e.2.1.symm, e.2.2⟩⟩
      rw [List.length_map]
      refine (below_some _ _ _ _ b off ao2 _ _ c1 c2 _ w hle hc SM).mono ?_
      rintro e w' ⟨g1, g2, g3⟩
      refine ⟨fun hy => ?_, fun hy => g1 (Bool.eq_false_iff.2 fun e => hy (hiff.2 e)), g3⟩
      obtain ⟨ao, e1, e2⟩ := g2 (hiff.1 hy)
      refine ⟨_, e1, ?_⟩
      by_cases hq : P.names.length = Q.names.length
      · rw [hq, Nat.sub_self, List.drop_of_length_le (by omega)]
        exact .inl ⟨rfl, some ao, _, rfl, fun e => by cases e⟩
      · have hl : ((P.names.drop Q.names.length).map bs).length = P.names.length - Q.names.length := by rw [List.length_map, List.length_drop]
        rw [e2 (by omega)]
        refine .inr ⟨fun e => by rw [e] at hl; simp at hl; omega, b, off + Q.names.length, _, by rw [hl], by rw [hl]; omega, hS, Nat.lt_of_lt_of_le hlt g3.size, fun k hk' => ?_⟩
        rw [hl] at hk'
        refine (g3.cell (by exact hlt)).trans ?_
        rw [Nat.add_assoc, hk (Q.names.length + k) (by rw [List.length_map]; omega)]
        simp only [List.getElem_map, List.getElem_drop]
end Go.Proofs.Ytgkbkocakinmfaa
