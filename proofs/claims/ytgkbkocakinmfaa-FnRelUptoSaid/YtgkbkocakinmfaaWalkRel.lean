/-
  path/filepath.Rel: what it returns, for every two paths.
-/
import Derived.Test.YtgkbkocakinmfaaBuf
import Derived.Deep.QuietTactic
import Derived.BigQuiet
import Derived.Deep.DeepFit
import Derived.Deep.DeepCutAuto
import Derived.Deep.CutBlock
import Derived.Lib.SlBuf
import Derived.Lib.LazyBuf
import Derived.Deep.RegionLaw
namespace Go.Proofs.Ytgkbkocakinmfaa
open Go.RowKit Go.Lib

set_option maxRecDepth 100000 in
set_option maxHeartbeats 1000000 in
theorem rel_same (s t : ByteArray) (w : World) (hs : s.size ≤ 281474976710656) (ht : t.size ≤ 281474976710656)
    (h : Pa.clean s.data.toList = Pa.clean t.data.toList) :
    Calls Try.prog 33 #[.string s, .string t] w fun e w' => e = .returned (.tuple #[.string ⟨#[46]⟩, .nilIface]) ∧ Below w.heap.size w w' := by
  have cs := Try.filepath_Clean s w hs
  have ct := fun w1 => Try.filepath_Clean t w1 ht
  rw [h] at cs
  generalize Pa.clean t.data.toList = c at cs ct
  have CS := Lib.hid cs
  have CT := Lib.hid ct
  clear cs ct h
  have hc : ((⟨c.toArray⟩ : ByteArray).toList == (⟨c.toArray⟩ : ByteArray).toList) = true := by simp
  go_enter Try.func33, Try.ntmps33
  go_wp2_with (go_at_call 47; refine (volumeName_any _ _).mono ?_; rintro e w' ⟨rfl, rfl⟩)
  refine CS.out.mono ?_
  rintro e w1 ⟨rfl, hb1⟩
  have HB1 := Lib.hid hb1
  clear hb1
  go_wp2_with fail
  refine (CT.out w1).mono ?_
  rintro e w2 ⟨rfl, hb2⟩
  have HB2 := Lib.hid hb2
  clear hb2
  go_wp2_with (go_at_call 48; refine (sameWord_any _ _ _).mono ?_; rintro e w' ⟨rfl, rfl⟩)
  go_ret2
  exact ⟨rfl, HB1.out.trans (HB2.out.mono HB1.out.size)⟩

/-- what filepath.Rel returns, by the way from one place to the other one -/
def RelPost (S T : Pl.Place) (w : World) (e : Ending) (w' : World) : Prop :=
  Below w.heap.size w w' ∧ ((∃ r, Pl.way S T = some r ∧ e = .returned (.tuple #[.string ⟨(Pl.text r).toArray⟩, .nilIface])) ∨
    (Pl.way S T = none ∧ ∃ a, e = .returned (.tuple #[.string ⟨#[]⟩, .iface 55 (.pointer (some a))])))

theorem below_drewN {B : Nat} {a w : World} (h : Below B a w) (n : Nat) : Below B a (w.drewN n) := ⟨h.os, h.tape, h.output, h.size, h.block⟩

theorem bytes_at (b : ByteArray) (k : Nat) (h : k < b.size) : b.data.toList[k]? = some (b[k]'h) := Pa.at_eq b k h

set_option maxRecDepth 100000 in
set_option maxHeartbeats 4000000 in
theorem rel_loop (S T : Pl.Place) (hS : Pl.Good S) (hT : Pl.Good T) (hr : S.rooted = T.rooted) (hST : S ≠ T) (s t b d : ByteArray) (w : World)
    (cs : Calls Try.prog 34 #[.string s] w fun e w' => e = .returned (.string b) ∧ Below w.heap.size w w')
    (ct : ∀ w, Calls Try.prog 34 #[.string t] w fun e w' => e = .returned (.string d) ∧ Below w.heap.size w w')
    (hb : b.data.toList = Pl.text S) (hd : d.data.toList = Pl.text T) (hdot : Pl.text S ≠ [46]) (hbs : b.size ≤ 281474976710656) (hds : d.size ≤ 281474976710656) (hss : s.size ≤ 281474976710656) (hts : t.size ≤ 281474976710656)
    (hroom : ∀ r, Pl.way S T = some r → r.up ≠ 0 → 3 * r.up + d.size + 3 ≤ 281474976710656) :
    Calls Try.prog 33 #[.string s, .string t] w (RelPost S T w) := by
  have hb0 : 0 < b.size := by
    rw [Lib.size_eq, hb]
    exact List.length_pos_iff.2 (Pl.text_ne_nil hS)
  have hd0 : 0 < d.size := by
    rw [Lib.size_eq, hd]
    exact List.length_pos_iff.2 (Pl.text_ne_nil hT)
  have hne : (d.toList == b.toList) = false := by
    rw [Lib.toList_data, Lib.toList_data, hb, hd]
    simp only [beq_eq_false_iff_ne]
    exact fun e => hST (Pl.text_inj hS hT e.symm)
  have h46 : (b.toList == [46]) = false := by
    rw [Lib.toList_data, hb]
    simpa using hdot
  have hbe : ¬ b.toList = [] := by
    rw [Lib.toList_data, hb]
    exact Pl.text_ne_nil hS
  have hbem : b.toList.isEmpty = false := by
    rw [Lib.toList_data, hb]
    simpa using Pl.text_ne_nil hS
  have hb47 : (((b[0]'hb0).toNat : Int) == 47) = S.rooted := by
    rw [← Pa.isAbs_pos b hb0, hb]
    exact Pl.isR_text hS
  have hd47 : (((d[0]'hd0).toNat : Int) == 47) = S.rooted := by
    rw [← Pa.isAbs_pos d hd0, hd, hr]
    exact Pl.isR_text hT
  have hrun : Pl.Run S T (b.data.toList.drop 0) (d.data.toList.drop 0) := by
    have h := Pl.run_start (S := S) (T := T) hS hr
    unfold Pl.base0 at h
    rw [if_neg hdot] at h
    rw [List.drop_zero, List.drop_zero, hb, hd]
    exact h
  have HR := Lib.hid hrun
  have CS := Lib.hid cs
  have CT := Lib.hid ct
  have HB := Lib.hid hb
  have HD := Lib.hid hd
  have HRR := Lib.hid hr
  have HST := Lib.hid hST
  have HROOM := Lib.hid hroom
  generalize hro : S.rooted = ro at hb47 hd47
  clear cs ct hb hd hdot hrun hro hr hST hroom
  go_enter Try.func33, Try.ntmps33
  go_wp2_with (go_at_call 47; refine (volumeName_any _ _).mono ?_; rintro e w' ⟨rfl, rfl⟩)
  refine CS.out.mono ?_
  rintro e w1 ⟨rfl, hb1⟩
  have HB1 := Lib.hid hb1
  clear hb1
  go_wp2_with fail
  refine (CT.out w1).mono ?_
  rintro e w2 ⟨rfl, hb2⟩
  have HB2 := Lib.hid (HB1.out.trans (hb2.mono HB1.out.size))
  clear hb2 HB1 CS CT
  go_wp2_with (first | (go_at_call 48; refine (sameWord_any _ _ _).mono ?_; rintro e w' ⟨rfl, rfl⟩))
  clear hb47 hd47 hne h46 hbe hbem
  go_loopw [14, 15, 16, 17] (fun v14 v15 v16 v17 wr => ∃ i j : Nat, i ≤ b.size ∧ j ≤ d.size ∧ v14 = .int .i64 i ∧ v15 = .int .i64 i ∧ v16 = .int .i64 j ∧ v17 = .int .i64 j ∧
      Hid (Pl.Run S T (b.data.toList.drop i) (d.data.toList.drop j)) ∧ Hid (Below w.heap.size w wr)) (fun v14 _ v16 _ _ => (b.size - (RowKit.intOf v14).toNat) + (d.size - (RowKit.intOf v16).toNat))
  case atStart => exact ⟨0, 0, Nat.zero_le _, Nat.zero_le _, rfl, rfl, rfl, rfl, HR, HB2⟩
  case round =>
    clear HR HB2
    obtain ⟨i, j, hi, hj, rfl, rfl, rfl, rfl, HR, HB2⟩ := hrel
    go_upto_block 2 with fail
    go_cut [15] (fun v15 wx => wx = wr ∧ ∃ k : Nat, i ≤ k ∧ k ≤ b.size ∧ v15 = .int .i64 k ∧ Hid (Pl.Sc b.data.toList i k ∧ (k = b.data.toList.length ∨ b.data.toList[k]? = some 47)))
    case first =>
      have hsc := Lib.hid (Pl.sc_start (l := b.data.toList) (i := i) (by rw [← Lib.size_eq]; exact hi))
      go_wp2_with fail
      go_loop [15] (fun v => ∃ k : Nat, i ≤ k ∧ k ≤ b.size ∧ v = .int .i64 k ∧ Hid (Pl.Sc b.data.toList i k)) (fun v => b.size - (RowKit.intOf v).toNat)
      case atStart => exact ⟨i, Nat.le_refl _, hi, rfl, hsc⟩
      case round =>
        clear hsc
        obtain ⟨k, hik, hk, rfl, hsc⟩ := hrel
        by_cases hlt : k < b.size
        · by_cases h47 : (((b[k]'hlt).toNat : Int) != 47) = true
          · have hsc' := Lib.hid (Pl.sc_next hsc.out (by rw [← Lib.size_eq]; exact hlt) (by
              rw [bytes_at b k hlt]
              intro e
              rw [Option.some.inj e] at h47
              exact absurd h47 (by decide)))
            go_wp2_with fail
            go_round
            case rel => exact ⟨k + 1, by omega, by omega, by go_num, hsc'⟩
            case measure => simp [RowKit.intOf]; omega
          · have h47' : (((b[k]'hlt).toNat : Int) != 47) = false := by simpa using h47
            have hx : b.data.toList[k]? = some 47 := by
              rw [bytes_at b k hlt]
              rw [Pa.bne47] at h47'
              simpa using h47'
            have HX := Lib.hid hx
            clear hx h47
            go_wp2_with fail
            go_meet
            exact ⟨rfl, k, hik, hk, rfl, ⟨hsc.out, .inr HX.out⟩⟩
        · have hx : k = b.data.toList.length := by rw [← Lib.size_eq]; omega
          have HX := Lib.hid hx
          clear hx
          go_wp2_with fail
          go_meet
          exact ⟨rfl, k, hik, hk, rfl, ⟨hsc.out, .inl HX.out⟩⟩
    case rest =>
      obtain ⟨hwx, k, hik, hk, rfl, hsc⟩ := hcut
      subst hwx
      go_upto_block 4 with fail
      go_cut [17] (fun v17 wx => wc = wx ∧ ∃ m : Nat, j ≤ m ∧ m ≤ d.size ∧ v17 = .int .i64 m ∧ Hid (Pl.Sc d.data.toList j m ∧ (m = d.data.toList.length ∨ d.data.toList[m]? = some 47)))
      case first =>
        have hsd := Lib.hid (Pl.sc_start (l := d.data.toList) (i := j) (by rw [← Lib.size_eq]; exact hj))
        go_wp2_with fail
        go_loop [17] (fun v => ∃ m : Nat, j ≤ m ∧ m ≤ d.size ∧ v = .int .i64 m ∧ Hid (Pl.Sc d.data.toList j m)) (fun v => d.size - (RowKit.intOf v).toNat)
        case atStart => exact ⟨j, Nat.le_refl _, hj, rfl, hsd⟩
        case round =>
          clear hsd
          obtain ⟨m, hjm, hm, rfl, hsd⟩ := hrel
          by_cases hlt : m < d.size
          · by_cases h47 : (((d[m]'hlt).toNat : Int) != 47) = true
            · have hsd' := Lib.hid (Pl.sc_next hsd.out (by rw [← Lib.size_eq]; exact hlt) (by
                rw [bytes_at d m hlt]
                intro e
                rw [Option.some.inj e] at h47
                exact absurd h47 (by decide)))
              go_wp2_with fail
              go_round
              case rel => exact ⟨m + 1, by omega, by omega, by go_num, hsd'⟩
              case measure => simp [RowKit.intOf]; omega
            · have h47' : (((d[m]'hlt).toNat : Int) != 47) = false := by simpa using h47
              have hx : d.data.toList[m]? = some 47 := by
                rw [bytes_at d m hlt]
                rw [Pa.bne47] at h47'
                simpa using h47'
              have HX := Lib.hid hx
              clear hx h47
              go_wp2_with fail
              go_meet
              exact ⟨rfl, m, hjm, hm, rfl, ⟨hsd.out, .inr HX.out⟩⟩
          · have hx : m = d.data.toList.length := by rw [← Lib.size_eq]; omega
            have HX := Lib.hid hx
            clear hx
            go_wp2_with fail
            go_meet
            exact ⟨rfl, m, hjm, hm, rfl, ⟨hsd.out, .inl HX.out⟩⟩
      case rest =>
        obtain ⟨hwx, m, hjm, hm, rfl, hsd⟩ := hcut
        subst hwx
        have e1 := Pl.sc_end hsc.out.1 hsc.out.2
        have e2 := Pl.sc_end hsd.out.1 hsd.out.2
        by_cases heq : Pl.hd (b.data.toList.drop i) = Pl.hd (d.data.toList.drop j)
        · have hstep := Pl.run_step hS hT HRR.out HST.out HR.out heq
          have hbo : ((d.extract j m).toList == (b.extract i k).toList) = true := by
            rw [Lib.toList_data, Lib.toList_data, Lib.extract_data, Lib.extract_data, ← e1.1, ← e2.1, heq]
            simp
          rw [e1.2, e2.2, List.length_drop, List.length_drop, List.length_drop, List.length_drop, ← Lib.size_eq, ← Lib.size_eq] at hstep
          have hmeas := hstep.2
          have hall : ∀ i' j' : Nat, (i' = k + 1 ∨ (i' = k ∧ b.size ≤ k)) → (j' = m + 1 ∨ (j' = m ∧ d.size ≤ m)) → Pl.Run S T (b.data.toList.drop i') (d.data.toList.drop j') := by
            intro i' j' h1 h2
            have a1 : b.data.toList.drop i' = b.data.toList.drop (k + 1) := by
              rcases h1 with rfl | ⟨rfl, h⟩
              · rfl
              · rw [List.drop_eq_nil_of_le (by rw [← Lib.size_eq]; omega), List.drop_eq_nil_of_le (by rw [← Lib.size_eq]; omega)]
            have a2 : d.data.toList.drop j' = d.data.toList.drop (m + 1) := by
              rcases h2 with rfl | ⟨rfl, h⟩
              · rfl
              · rw [List.drop_eq_nil_of_le (by rw [← Lib.size_eq]; omega), List.drop_eq_nil_of_le (by rw [← Lib.size_eq]; omega)]
            rw [a1, a2]
            exact hstep.1
          have HALL := Lib.hid hall
          clear e1 e2 hstep heq hall
          go_wp2_with fail
          go_quiet ((go_at_call 48; exact Calls.quiet_of_same (sameWord_q _ _ _)))
          by_cases hkl : k < b.size
          all_goals by_cases hml : m < d.size
          all_goals
            go_wp2_with fail
            go_roundw
          case rel => exact ⟨k + 1, m + 1, by omega, by omega, by go_num, by go_num, by go_num, by go_num, HALL.out _ _ (.inl rfl) (.inl rfl), ⟨HB2.out.os, HB2.out.tape, HB2.out.output, HB2.out.size, HB2.out.block⟩⟩
          case measure => simp [RowKit.intOf]; omega
          case rel => exact ⟨k + 1, m, by omega, by omega, by go_num, by go_num, by go_num, by go_num, HALL.out _ _ (.inl rfl) (.inr ⟨rfl, by omega⟩), ⟨HB2.out.os, HB2.out.tape, HB2.out.output, HB2.out.size, HB2.out.block⟩⟩
          case measure => simp [RowKit.intOf]; omega
          case rel => exact ⟨k, m + 1, by omega, by omega, by go_num, by go_num, by go_num, by go_num, HALL.out _ _ (.inr ⟨rfl, by omega⟩) (.inl rfl), ⟨HB2.out.os, HB2.out.tape, HB2.out.output, HB2.out.size, HB2.out.block⟩⟩
          case measure => simp [RowKit.intOf]; omega
          case rel => exact ⟨k, m, by omega, by omega, by go_num, by go_num, by go_num, by go_num, HALL.out _ _ (.inr ⟨rfl, by omega⟩) (.inr ⟨rfl, by omega⟩), ⟨HB2.out.os, HB2.out.tape, HB2.out.output, HB2.out.size, HB2.out.block⟩⟩
          case measure => simp [RowKit.intOf]; omega
        · have hfin := Pl.run_end hS hT HRR.out HST.out HR.out heq
          have hbo : ((d.extract j m).toList == (b.extract i k).toList) = false := by
            rw [Lib.toList_data, Lib.toList_data, Lib.extract_data, Lib.extract_data, ← e1.1, ← e2.1]
            simpa using fun e => heq e.symm
          by_cases hdd : Pl.hd (b.data.toList.drop i) = [46, 46]
          · have hw := Lib.hid (hfin.1 hdd)
            have hbd : ((b.extract i k).toList == [46, 46]) = true := by
              rw [Lib.toList_data, Lib.extract_data, ← e1.1, hdd]
              rfl
            clear e1 e2 heq hfin hdd
            go_wp2_with fail
            go_quiet ((go_at_call 48; exact Calls.quiet_of_same (sameWord_q _ _ _)))
            go_wp2_with (go_at_call 50; refine (errorsNew_any _ _).mono ?_; rintro e w3 ⟨rfl, hb3⟩; have HB3 := Lib.hid hb3; clear hb3)
            go_ret2
            exact ⟨(below_drewN HB2.out _).trans (HB3.out.mono HB2.out.size), .inr ⟨hw.out, _, rfl⟩⟩
          · have hbd : ((b.extract i k).toList == [46, 46]) = false := by
              rw [Lib.toList_data, Lib.extract_data, ← e1.1]
              simpa using hdd
            by_cases hil : i = b.size
            · have hx : b.data.toList.drop i = [] := List.drop_eq_nil_of_le (by rw [← Lib.size_eq]; omega)
              obtain ⟨r, hw, hy⟩ := hfin.2.2 hdd hx
              have HW := Lib.hid hw
              have HY := Lib.hid hy
              have hnb : ((i : Int) != (b.size : Int)) = false := by simp [hil]
              have hib : b.size ≤ i := by omega
              clear e1 e2 heq hfin hdd hx hw hy hil
              go_wp2_with fail
              go_quiet ((go_at_call 48; exact Calls.quiet_of_same (sameWord_q _ _ _)))
              go_wp2_with fail
              go_ret2
              refine ⟨below_drewN HB2.out _, .inl ⟨r, HW.out, ?_⟩⟩
              rw [← HY.out, ← Pa.extract_from]
              rfl
            · have hx : b.data.toList.drop i ≠ [] := fun e => by
                have := congrArg List.length e
                rw [List.length_drop, ← Lib.size_eq] at this
                simp at this
                omega
              obtain ⟨r, hw, hy, hup⟩ := hfin.2.1 hdd hx
              have hrm := HROOM.out r hw (by omega)
              have hcn : ∀ W, (callFunc 51 #[.string (b.extract i b.size), .int .u8 47]).run Try.prog W = .ok (.value (.int .i64 (Pl.cnt (b.data.toList.drop i) : Nat))) W := fun W => by
                rw [run_count, Pa.extract_from]
              unfold Pl.whole at hy
              generalize Pl.cnt (b.data.toList.drop i) = c at hup hcn hy
              have HW := Lib.hid hw
              have HY := Lib.hid hy
              have hnb : ((i : Int) != (b.size : Int)) = true := by simp; omega
              have hib : i < b.size := by omega
              clear e1 e2 heq hfin hdd hx hw hy hil HROOM
              go_wp2_with fail
              go_quiet ((go_at_call 48; exact Calls.quiet_of_same (sameWord_q _ _ _)))
              have HB3 := Lib.hid (below_drewN HB2.out nq)
              generalize wc.drewN nq = wq at HB3 ⊢
              clear HB2
              by_cases hjl : j = d.size
              · have hj1 : ((d.size : Int) != (j : Int)) = false := by simp [hjl]
                have hj2 : ((j : Int) != (d.size : Int)) = false := by simp [hjl]
                have hdj : d.size ≤ j := by omega
                have hyn : d.data.toList.drop j = [] := List.drop_eq_nil_of_le (by rw [← Lib.size_eq]; omega)
                have HYN := Lib.hid hyn
                clear hjl hyn
                obtain ⟨N, hN⟩ : ∃ N, N = 2 + 3 * c := ⟨_, rfl⟩
                have hmk : ∀ W, (Instr.makeSlice 51 (.int .i64 (2 + (c : Int) * 3)) (.int .i64 (2 + (c : Int) * 3))).run Try.prog W = .ok (.slice (some ⟨W.heap.size, 0, none⟩) N N) (W.alloc (.cells (madeCells #[.int .u8 0] N) 5)) := fun W => by
                  rw [show (2 + (c : Int) * 3) = (N : Int) by omega]
                  exact run_make_bytes N (by omega) W
                have hm0 := buf_made wq 5 N
                obtain ⟨wr0, hr0, hm1⟩ := buf_copy (P := Try.prog) wq _ wq.heap.size N [] ⟨#[46, 46]⟩ 51 9 3 5 Try.underlying51 Try.sizeOf5 hm0 (by show 0 + 2 ≤ N; omega)
                rw [List.length_nil, Lib.tailV_zero] at hr0
                have HM := Lib.hid hm1
                have HN := Lib.hid hN
                have hN2 : 2 + 3 * c ≤ N := by omega
                clear hm0 hm1
                clear hN
                go_wp2_with fail
                go_loopw [21, 22] (fun vn vi wx => ∃ q : Nat, q ≤ c ∧ vn = .int .i64 (2 + 3 * (q : Int)) ∧ vi = .int .i64 q ∧ Hid (Lib.Buf wq wx wq.heap.size N (Pl.dots q))) (fun _ vi _ => c - (RowKit.intOf vi).toNat)
                case atStart => exact ⟨0, Nat.zero_le _, rfl, rfl, HM⟩
                case round =>
                  clear HM hr0
                  obtain ⟨q, hq, rfl, rfl, HM⟩ := hrel
                  have hql := Pl.dots_len q
                  by_cases hqc : q < c
                  · obtain ⟨v0, hv0⟩ := buf_cell HM.out (j := 2 + 3 * q) (by omega)
                    have hfr := HM.out.free (2 + 3 * q) (by omega)
                    have hb1 := buf_store HM.out 47 (by rw [hql]; omega)
                    rw [hql] at hb1
                    obtain ⟨wr1, hr1, hb2⟩ := buf_copy (P := Try.prog) wq _ wq.heap.size N _ ⟨#[46, 46]⟩ 51 9 3 5 Try.underlying51 Try.sizeOf5 hb1 (by rw [List.length_append, hql]; show 2 + 3 * q + 1 + 2 ≤ N; omega)
                    rw [List.length_append, hql] at hr1
                    have hr1' : (Builtin.copy_ #[51, 9] 3 #[Lib.tailV wq.heap.size N (2 + 3 * q + 1), .string ⟨#[46, 46]⟩]).run Try.prog (wr.setCell ⟨wq.heap.size, 2 + 3 * q, none⟩ (.int .u8 47)) = .ok (.int .i64 2) wr1 := hr1
                    have hsl := fun W => run_tail wq.heap.size N (2 + 3 * q + 1) (by omega) (2 + 3 * (q : Int) + 1) (by omega) W
                    have HB4 := Lib.hid (show Lib.Buf wq wr1 wq.heap.size N (Pl.dots (q + 1)) by
                      have e : Pl.dots q ++ [47] ++ [46, 46] = Pl.dots (q + 1) := by rw [List.append_assoc]; rfl
                      rw [← e]; exact hb2)
                    clear hb1 hb2 hr1 hql HM
                    go_wp2_with fail
                    go_roundw
                    case rel => exact ⟨q + 1, by omega, by go_num, by go_num, HB4⟩
                    case measure => simp [RowKit.intOf]; omega
                  · obtain rfl : q = c := by omega
                    have hcv := buf_string (P := Try.prog) HM.out (by rw [hql]; exact HN.out.symm) 51 9 5 Try.underlying51 Try.underlying5 Try.underlying9
                    have hcl := clean_list (Pl.dots q) wr (by rw [hql]; omega)
                    have hyy := HY.out
                    rw [HYN.out, if_pos rfl, List.append_nil] at hyy
                    rw [hyy] at hcl
                    have HCL := Lib.hid hcl
                    clear hql hcl hyy
                    go_wp2_with fail
                    refine HCL.out.mono ?_
                    rintro e w5 ⟨rfl, hb5⟩
                    have HB5 := Lib.hid hb5
                    clear hb5
                    go_wp2_with fail
                    go_ret2
                    exact ⟨HB3.out.trans ((HM.out.below.mono HB3.out.size).trans (HB5.out.mono (Nat.le_trans HB3.out.size HM.out.below.size))), .inl ⟨r, HW.out, rfl⟩⟩
              · have hj1 : ((d.size : Int) != (j : Int)) = true := by simp; omega
                have hj2 : ((j : Int) != (d.size : Int)) = true := by simp; omega
                have hdj : j < d.size := by omega
                have hyn : d.data.toList.drop j ≠ [] := fun e => by
                  have := congrArg List.length e
                  rw [List.length_drop, ← Lib.size_eq] at this
                  simp at this
                  omega
                have HYN := Lib.hid hyn
                clear hjl hyn
                obtain ⟨N, hN⟩ : ∃ N, N = 2 + 3 * c + 1 + (d.size - j) := ⟨_, rfl⟩
                have hmk : ∀ W, (Instr.makeSlice 51 (.int .i64 (2 + (c : Int) * 3 + (1 + (d.size : Int) - (j : Int)))) (.int .i64 (2 + (c : Int) * 3 + (1 + (d.size : Int) - (j : Int))))).run Try.prog W = .ok (.slice (some ⟨W.heap.size, 0, none⟩) N N) (W.alloc (.cells (madeCells #[.int .u8 0] N) 5)) := fun W => by
                  rw [show (2 + (c : Int) * 3 + (1 + (d.size : Int) - (j : Int))) = (N : Int) by omega]
                  exact run_make_bytes N (by omega) W
                have hm0 := buf_made wq 5 N
                obtain ⟨wr0, hr0, hm1⟩ := buf_copy (P := Try.prog) wq _ wq.heap.size N [] ⟨#[46, 46]⟩ 51 9 3 5 Try.underlying51 Try.sizeOf5 hm0 (by show 0 + 2 ≤ N; omega)
                rw [List.length_nil, Lib.tailV_zero] at hr0
                have HM := Lib.hid hm1
                have HN := Lib.hid hN
                have hN2 : 2 + 3 * c ≤ N := by omega
                clear hm0 hm1
                have hN3 : 2 + 3 * c + 1 + (d.size - j) ≤ N := by omega
                clear hN
                go_wp2_with fail
                go_loopw [21, 22] (fun vn vi wx => ∃ q : Nat, q ≤ c ∧ vn = .int .i64 (2 + 3 * (q : Int)) ∧ vi = .int .i64 q ∧ Hid (Lib.Buf wq wx wq.heap.size N (Pl.dots q))) (fun _ vi _ => c - (RowKit.intOf vi).toNat)
                case atStart => exact ⟨0, Nat.zero_le _, rfl, rfl, HM⟩
                case round =>
                  clear HM hr0
                  obtain ⟨q, hq, rfl, rfl, HM⟩ := hrel
                  have hql := Pl.dots_len q
                  by_cases hqc : q < c
                  · obtain ⟨v0, hv0⟩ := buf_cell HM.out (j := 2 + 3 * q) (by omega)
                    have hfr := HM.out.free (2 + 3 * q) (by omega)
                    have hb1 := buf_store HM.out 47 (by rw [hql]; omega)
                    rw [hql] at hb1
                    obtain ⟨wr1, hr1, hb2⟩ := buf_copy (P := Try.prog) wq _ wq.heap.size N _ ⟨#[46, 46]⟩ 51 9 3 5 Try.underlying51 Try.sizeOf5 hb1 (by rw [List.length_append, hql]; show 2 + 3 * q + 1 + 2 ≤ N; omega)
                    rw [List.length_append, hql] at hr1
                    have hr1' : (Builtin.copy_ #[51, 9] 3 #[Lib.tailV wq.heap.size N (2 + 3 * q + 1), .string ⟨#[46, 46]⟩]).run Try.prog (wr.setCell ⟨wq.heap.size, 2 + 3 * q, none⟩ (.int .u8 47)) = .ok (.int .i64 2) wr1 := hr1
                    have hsl := fun W => run_tail wq.heap.size N (2 + 3 * q + 1) (by omega) (2 + 3 * (q : Int) + 1) (by omega) W
                    have HB4 := Lib.hid (show Lib.Buf wq wr1 wq.heap.size N (Pl.dots (q + 1)) by
                      have e : Pl.dots q ++ [47] ++ [46, 46] = Pl.dots (q + 1) := by rw [List.append_assoc]; rfl
                      rw [← e]; exact hb2)
                    clear hb1 hb2 hr1 hql HM
                    go_wp2_with fail
                    go_roundw
                    case rel => exact ⟨q + 1, by omega, by go_num, by go_num, HB4⟩
                    case measure => simp [RowKit.intOf]; omega
                  · obtain rfl : q = c := by omega
                    obtain ⟨v0, hv0⟩ := buf_cell HM.out (j := 2 + 3 * q) (by omega)
                    have hfr := HM.out.free (2 + 3 * q) (by omega)
                    have hb1 := buf_store HM.out 47 (by rw [hql]; omega)
                    rw [hql] at hb1
                    have hsl := fun W => run_tail wq.heap.size N (2 + 3 * q + 1) (by omega) (IntKind.i64.wrap (2 + 3 * (q : Int) + 1)) (by rw [IntWalk.i64_in _ ⟨by omega, by omega⟩]; omega) W
                    have HB4 := Lib.hid hb1
                    have HQL := Lib.hid hql
                    have hds1 : (d.extract j d.size).size = d.size - j := by rw [Pa.extract_from, Pa.size_mk, List.length_drop, ← Lib.size_eq]
                    have HDS := Lib.hid hds1
                    clear hb1 hql HM hds1
                    go_wp2_with fail
                    have HB4' : Hid (Lib.Buf wq (wr.setCell ⟨wq.heap.size, 2 + 3 * q, none⟩ (.int .u8 47)) wq.heap.size N (Pl.dots q ++ [47])) := HB4
                    generalize wr.setCell ⟨wq.heap.size, 2 + 3 * q, none⟩ (.int .u8 47) = wz at HB4' ⊢
                    clear HB4 hv0 hfr
                    go_region_law (refine step_copy_buf rfl (.tmp 189) (.tmp 192) 51 9 rfl 5 Try.underlying51 Try.sizeOf5 wq wq.heap.size N (Pl.dots q ++ [47]) (d.extract j d.size) (by rw [List.length_append, HQL.out]; try simp [Act.eval, Act.put]) (by simp [Act.eval, Act.put]) (by repeat (first | exact HB4'.out | refine buf_drew ?_)) (by rw [List.length_append, HQL.out, HDS.out, HN.out]; exact Nat.le_refl _) ?_; intro w6 hb6; have HB6 := Lib.hid hb6; clear hb6)
                    all_goals
                      have hl6 : (Pl.dots q ++ [47] ++ (d.extract j d.size).data.toList).length = N := by
                        rw [List.length_append, List.length_append, HQL.out, ← Lib.size_eq, HDS.out, HN.out]
                        rfl
                      have hcv := buf_string (P := Try.prog) HB6.out hl6 51 9 5 Try.underlying51 Try.underlying5 Try.underlying9
                      have hcl := clean_list (Pl.dots q ++ [47] ++ (d.extract j d.size).data.toList) w6 (by rw [hl6]; have := HN.out; omega)
                      have hyy := HY.out
                      rw [if_neg HYN.out] at hyy
                      have e6 : Pl.dots q ++ [47] ++ (d.extract j d.size).data.toList = Pl.dots q ++ 47 :: d.data.toList.drop j := by
                        rw [Pa.extract_from, List.append_assoc]
                        rfl
                      rw [e6, hyy] at hcl
                      rw [e6] at hcv
                      have HCL := Lib.hid hcl
                      clear hl6 hcl hyy e6
                      go_wp2_with fail
                      refine HCL.out.mono ?_
                      rintro e w5 ⟨rfl, hb5⟩
                      have HB5 := Lib.hid hb5
                      clear hb5
                      go_wp2_with fail
                      go_ret2
                      exact ⟨HB3.out.trans ((HB6.out.below.mono HB3.out.size).trans (HB5.out.mono (Nat.le_trans HB3.out.size HB6.out.below.size))), .inl ⟨r, HW.out, rfl⟩⟩

end Go.Proofs.Ytgkbkocakinmfaa
