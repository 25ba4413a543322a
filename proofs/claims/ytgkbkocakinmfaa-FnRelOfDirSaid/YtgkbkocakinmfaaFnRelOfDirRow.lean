/-
  The given statement FnRelOfDirSaid: the law returns true at every input, and the input reads as it did. Conditions: none beyond the statement's own.
-/
import Derived.Test.YtgkbkocakinmfaaRows
import Derived.Test.YtgkbkocakinmfaaFnRelOfDir
import Derived.WalkKit
import Derived.ProofKit
import Derived.OpenShut
import Derived.ShutString
import Derived.JoinedCond
import Derived.SizedLaws
namespace Go.Proofs.Ytgkbkocakinmfaa.fnRelOfDir
open Go.ChangeShapes Go.WideShapes Go.ChangeAt Go.RowKit
open Go.ChangeMaps (open_string shut_string)

theorem own : ownKnob Try.prog.godebug = none := by kernel_rfl

theorem contract (H : Type) (enc : TypeId × Value → H) (W : World) (base : Nat) (args : Array Value) (ds gs : List (DataW H)) (before : List MemPlace)
    (hval : ∀ (j : Nat) t v, Try.f16.params[j]? = some t → args[j]? = some v → Value.okWide Try.prog W .any base t v)
    (hW : DataW.Whole enc Try.prog Try.f16.params.toList Rows.fnRelOfDirSpec.vars false W args.toList ds gs before) (hz : (DataW.weightsEach Try.prog (Try.f16.params.toList ++ Rows.fnRelOfDirSpec.plain.varTypes Try.prog) (ds ++ gs)).all (· ≤ reachBytes) = true) :
    Calls Try.prog 16 args W fun e W' => ∃ v, e = .returned v ∧ Rows.fnRelOfDirSpec.post enc Try.prog Try.f16 false true false false W args v W' := by
  have hW' := hW
  obtain ⟨p, q, hA0, hV, rfl, hfz, hnd⟩ := hW
  have hA : DataW.TrodAll enc Try.prog W 0 (fun _ => true) true Try.f16.params.toList args.toList ds p := hA0
  rw [Try.params16] at hA hval hz
  obtain ⟨v0, vs0, d0, ds0, p0, q0, hargs, rfl, rfl, h0, r0⟩ := trodAll_cons hA
  obtain ⟨rfl, rfl, rfl⟩ := trodAll_nil r0
  obtain rfl : args = #[v0] := by cases args; simp_all
  obtain ⟨rfl, rfl⟩ := trodVars_none hV
  obtain ⟨a0, rfl, rfl, rfl, w0⟩ := open_string Try.underlying9 (hval 0 9 v0 rfl rfl) h0
  clear hA0
  simp only [List.append_nil] at hW' hz
  have hb0 : a0.size ≤ 140737488351232 := by
    have h := sized_string (j := 0) hz rfl rfl
    rw [Array.length_toList] at h
    have e : a0.data.size = a0.size := rfl
    have e2 : reachBytes = 140737488351232 := by decide
    omega
  refine (fnRelOfDir_walk a0 W hb0).mono fun e W' ⟨he, hb⟩ => ?_
  subst he
  exact ⟨_, rfl, _, _, _, [], [], [], hW', trodAll_cons_mk (shut_bool Try.underlying4 _) trodAll_mk0, (trodAll_cons_mk (shut_string Try.underlying9 w0) trodAll_mk0), rfl, hb.frame _, fun h => by cases h⟩

set_option maxRecDepth 100000 in
theorem lifted (os : Os) (started : os.Started) (H : Type) (enc : TypeId × Value → H) :
    ReturnsInHanded {} Try.checked os 16 .any (Rows.fnRelOfDirSpec.pre6 enc Try.prog Try.f16 Rows.fnRelOfDirRow.domain false) (Rows.fnRelOfDirSpec.post enc Try.prog Try.f16 false true false false) := by
  refine returnsInHanded_of_change_sized (C := Try.checked) own started (by kernel_rfl) Try.func16
    (ChangeSpec.witness6 (enc := enc) (C := Try.checked) false ⟨#[], #[.string .empty], []⟩ 8 (by kernel_rfl) (by kernel_rfl) (by kernel_rfl) (by kernel_rfl)) ?_
  intro W base args ds gs before hval hW _ hz _
  exact contract H enc W base args ds gs before hval hW hz

theorem proved : Rows.FnRelOfDirSaid :=
  OpenClaim.holds_of_wide 16 Try.f16 rfl rfl rfl rfl rfl rfl rfl ⟨rfl, rfl, rfl, rfl, rfl⟩ rfl rfl rfl rfl rfl (by kernel_rfl) Try.func16 (by kernel_rfl)
    (of_decide_eq_true (by kernel_rfl)) (by unfold Func.isWrapper; first | (rw [if_pos (by decide +kernel)]; kernel_rfl) | (rw [if_neg (by decide +kernel)]; exact ⟨rfl, rfl⟩))
    (fun os started H enc _ => lifted os started H enc)
#print axioms proved
end Go.Proofs.Ytgkbkocakinmfaa.fnRelOfDir
