/-
  path/filepath.Rel from a dot, and where it returns an error at once. Conditions: each path is no longer than 2^48 bytes.
-/
import Derived.Test.YtgkbkocakinmfaaWalkRel
namespace Go.Proofs.Ytgkbkocakinmfaa
open Go.RowKit Go.Lib

set_option maxRecDepth 100000 in
set_option maxHeartbeats 4000000 in
theorem rel_dot (T : Pl.Place) (hT : Pl.Good T) (hr : T.rooted = false) (hST : Pl.text T ≠ [46]) (s t b d : ByteArray) (w : World)
    (cs : Calls Try.prog 34 #[.string s] w fun e w' => e = .returned (.string b) ∧ Below w.heap.size w w')
    (ct : ∀ w, Calls Try.prog 34 #[.string t] w fun e w' => e = .returned (.string d) ∧ Below w.heap.size w w')
    (hb : b.data.toList = [46]) (hd : d.data.toList = Pl.text T) (hds : d.size ≤ 281474976710656) :
    Calls Try.prog 33 #[.string s, .string t] w fun e w' => e = .returned (.tuple #[.string d, .nilIface]) ∧ Below w.heap.size w w' := by
  have hd0 : 0 < d.size := by
    rw [Lib.size_eq, hd]
    exact List.length_pos_iff.2 (Pl.text_ne_nil hT)
  have hb0 : 0 < b.size := by rw [Lib.size_eq, hb]; decide
  have h46 : (b.toList == [46]) = true := by rw [Lib.toList_data, hb]; rfl
  have hne : (d.toList == b.toList) = false := by
    rw [Lib.toList_data, Lib.toList_data, hb, hd]
    simpa using hST
  have hd47 : (((d[0]'hd0).toNat : Int) == 47) = false := by
    rw [← Pa.isAbs_pos d hd0, hd, ← hr]
    exact Pl.isR_text hT
  have hx : d.data.toList[0]? ≠ some 47 := by
    rw [bytes_at d 0 hd0]
    intro e
    rw [Option.some.inj e] at hd47
    exact absurd hd47 (by decide)
  have HX0 := Lib.hid hx
  have CS := Lib.hid cs
  have CT := Lib.hid ct
  have HD := Lib.hid hd
  clear cs ct hd hST hr hx hb
  go_enter Try.func33, Try.ntmps33
  go_wp2_with (go_at_call 47; refine (volumeName_any _ _).mono ?_; rintro e w' ⟨rfl, rfl⟩)
  refine CS.out.mono ?_
  rintro e w1 ⟨rfl, hb1⟩
  have HB1 := Lib.hid hb1
  clear hb1
  go_wp2_with fail
  refine (CT.out w1).mono ?_
  rintro e w2 ⟨rfl, hb2⟩
  have HB2 := Lib.hid (HB1.out.trans (hb2.mono HB1.out.size))
  clear hb2 HB1 CS CT
  go_wp2_with (first | (go_at_call 48; refine (sameWord_any _ _ _).mono ?_; rintro e w' ⟨rfl, rfl⟩))
  clear hd47 hne h46
  go_loopw [14, 15, 16, 17] (fun v14 v15 v16 v17 wr => v14 = .int .i64 0 ∧ v15 = .int .i64 0 ∧ v16 = .int .i64 0 ∧ v17 = .int .i64 0 ∧ Hid (Below w.heap.size w wr)) (fun _ _ _ _ _ => 0)
  case atStart => exact ⟨rfl, rfl, rfl, rfl, HB2⟩
  case round =>
    clear HB2
    obtain ⟨rfl, rfl, rfl, rfl, HB2⟩ := hrel
    go_upto_block 2 with fail
    go_cut [15] (fun v15 wx => wx = wr ∧ v15 = .int .i64 0)
    case first =>
      go_wp2_with fail
      go_loop [15] (fun v => v = .int .i64 0) (fun _ => 0)
      case atStart => exact rfl
      case round =>
        obtain rfl := hrel
        go_wp2_with fail
        go_meet
        exact ⟨rfl, rfl⟩
    case rest =>
      obtain ⟨hwx, rfl⟩ := hcut
      subst hwx
      go_upto_block 4 with fail
      go_cut [17] (fun v17 wx => wc = wx ∧ ∃ m : Nat, 0 < m ∧ m ≤ d.size ∧ v17 = .int .i64 m)
      case first =>
        go_wp2_with fail
        go_loop [17] (fun v => ∃ m : Nat, m ≤ d.size ∧ v = .int .i64 m) (fun v => d.size - (RowKit.intOf v).toNat)
        case atStart => exact ⟨0, Nat.zero_le _, rfl⟩
        case round =>
          obtain ⟨m, hm, rfl⟩ := hrel
          by_cases hlt : m < d.size
          · by_cases h47 : (((d[m]'hlt).toNat : Int) != 47) = true
            · go_wp2_with fail
              go_round
              case rel => exact ⟨m + 1, by omega, by go_num⟩
              case measure => simp [RowKit.intOf]; omega
            · have h47' : (((d[m]'hlt).toNat : Int) != 47) = false := by simpa using h47
              have hx : 0 < m := by
                rcases Nat.eq_zero_or_pos m with h0 | h0
                · subst h0
                  refine absurd ?_ HX0.out
                  rw [bytes_at d 0 hlt]
                  rw [Pa.bne47] at h47'
                  simpa using h47'
                · exact h0
              clear h47
              go_wp2_with fail
              go_meet
              exact ⟨rfl, m, hx, hm, rfl⟩
          · go_wp2_with fail
            go_meet
            exact ⟨rfl, m, by omega, hm, rfl⟩
      case rest =>
        obtain ⟨hwx, m, hm0, hm, rfl⟩ := hcut
        subst hwx
        have hbo : (d.extract 0 m).toList.isEmpty = false := by
          rw [Lib.toList_data, Lib.extract_data]
          cases hl : d.data.toList with
          | nil => rw [Lib.size_eq, hl] at hd0; cases hd0
          | cons c l =>
            obtain ⟨m', rfl⟩ : ∃ m', m = m' + 1 := ⟨m - 1, by omega⟩
            rfl
        have hbo2 : (!(d.extract 0 m).toList.isEmpty) = true := by rw [hbo]; rfl
        go_wp2_with fail
        go_quiet ((go_at_call 48; exact Calls.quiet_of_same (sameWord_q _ _ _)))
        go_wp2_with fail
        go_ret2
        exact ⟨rfl, below_drewN HB2.out _⟩

set_option maxRecDepth 100000 in
set_option maxHeartbeats 4000000 in
theorem rel_err (s t b d : ByteArray) (w : World) (rb : Bool)
    (cs : Calls Try.prog 34 #[.string s] w fun e w' => e = .returned (.string b) ∧ Below w.heap.size w w')
    (ct : ∀ w, Calls Try.prog 34 #[.string t] w fun e w' => e = .returned (.string d) ∧ Below w.heap.size w w')
    (hb0 : 0 < b.size) (hd0 : 0 < d.size) (hb47 : (((b[0]'hb0).toNat : Int) == 47) = rb) (hd47 : (((d[0]'hd0).toNat : Int) == 47) = !rb)
    (hss : s.size ≤ 281474976710656) (hts : t.size ≤ 281474976710656) :
    Calls Try.prog 33 #[.string s, .string t] w fun e w' => (∃ a, e = .returned (.tuple #[.string ⟨#[]⟩, .iface 55 (.pointer (some a))])) ∧ Below w.heap.size w w' := by
  have hne : (d.toList == b.toList) = false := by
    rw [Lib.toList_data, Lib.toList_data]
    simp only [beq_eq_false_iff_ne]
    intro e
    have h1 := Pa.isAbs_pos b hb0
    have h2 := Pa.isAbs_pos d hd0
    rw [e, h1, hb47] at h2
    rw [hd47] at h2
    cases rb <;> cases h2
  have hbe : ¬ b.toList = [] := by
    rw [Lib.toList_data]
    intro e
    rw [Lib.size_eq, e] at hb0
    cases hb0
  have hbem : b.toList.isEmpty = false := by simpa using hbe
  have CS := Lib.hid cs
  have CT := Lib.hid ct
  clear cs ct
  by_cases h46 : (b.toList == [46]) = true
  · have hrb : rb = false := by
      have e : b.data.toList = [46] := by rw [Lib.toList_data] at h46; simpa using h46
      rw [← hb47, ← Pa.isAbs_pos b hb0, e]
      rfl
    subst hrb
    go_enter Try.func33, Try.ntmps33
    go_wp2_with (go_at_call 47; refine (volumeName_any _ _).mono ?_; rintro e w' ⟨rfl, rfl⟩)
    refine CS.out.mono ?_
    rintro e w1 ⟨rfl, hb1⟩
    have HB1 := Lib.hid hb1
    clear hb1
    go_wp2_with fail
    refine (CT.out w1).mono ?_
    rintro e w2 ⟨rfl, hb2⟩
    have HB2 := Lib.hid (HB1.out.trans (hb2.mono HB1.out.size))
    clear hb2 HB1 CS CT
    go_wp2_with (first | (go_at_call 48; refine (sameWord_any _ _ _).mono ?_; rintro e w' ⟨rfl, rfl⟩) | (go_at_call 50; refine (errorsNew_any _ _).mono ?_; rintro e w3 ⟨rfl, hb3⟩; have HB3 := Lib.hid hb3; clear hb3))
    go_ret2
    exact ⟨⟨_, rfl⟩, HB2.out.trans (HB3.out.mono HB2.out.size)⟩
  · have h46' : (b.toList == [46]) = false := by simpa using h46
    clear h46
    cases rb
    all_goals
      simp only [Bool.not_false, Bool.not_true] at hd47
      go_enter Try.func33, Try.ntmps33
      go_wp2_with (go_at_call 47; refine (volumeName_any _ _).mono ?_; rintro e w' ⟨rfl, rfl⟩)
      refine CS.out.mono ?_
      rintro e w1 ⟨rfl, hb1⟩
      have HB1 := Lib.hid hb1
      clear hb1
      go_wp2_with fail
      refine (CT.out w1).mono ?_
      rintro e w2 ⟨rfl, hb2⟩
      have HB2 := Lib.hid (HB1.out.trans (hb2.mono HB1.out.size))
      clear hb2 HB1 CS CT
      go_wp2_with (first | (go_at_call 48; refine (sameWord_any _ _ _).mono ?_; rintro e w' ⟨rfl, rfl⟩) | (go_at_call 50; refine (errorsNew_any _ _).mono ?_; rintro e w3 ⟨rfl, hb3⟩; have HB3 := Lib.hid hb3; clear hb3))
      go_ret2
      exact ⟨⟨_, rfl⟩, HB2.out.trans (HB3.out.mono HB2.out.size)⟩

end Go.Proofs.Ytgkbkocakinmfaa
