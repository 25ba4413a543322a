/-
  PLAIN FACTS ON Join behind a way. No program in sight. Conditions: none.
-/
import Derived.Test.YtgkbkocakinmfaaPlainLen
namespace Go.Proofs.Ytgkbkocakinmfaa
namespace Pl
open Go.Lib

theorem to_nil : to [] = ⟨false, 0, []⟩ := rfl
theorem to_follow {y : Bs} (hr : isR y = false) : to y = follow (to []) y := by
  rw [to_nil]
  unfold to start
  rw [hr]
/-- Join of a path and of others, the second one neither empty nor absolute -/
theorem join_at (b y : Bs) (Y : List Bs) (hy : y ≠ []) (hr : isR y = false) : Pa.join (b :: y :: Y) = text ((y :: Y).foldl follow (to b)) := by
  by_cases hb : b = []
  · subst hb
    rw [join_skip, join_cons y Y hy, to_follow hr]
    rfl
  · rw [join_cons b _ hb]
theorem isR_way {a b r : Place} (hb : Good b) (h : way a b = some r) : isR (text r) = false := by
  rw [isR_text (good_way hb h)]
  exact (way_cases h).2.1
theorem join_rel {b t : Bs} {r : Place} (h : way (to b) (to t) = some r) : Pa.join [b, text r] = Pa.clean t := by
  rw [join_at b (text r) [] (text_ne_nil (good_way (good_to t) h)) (isR_way (good_to t) h), clean_eq]
  show text (follow (to b) (text r)) = _
  rw [follow_way (good_to t) h]
theorem relS_ne {b t : Bs} {r : Place} (h : way (to b) (to t) = some r) : relS b t ≠ [] ∧ isR (relS b t) = false ∧ Pa.clean (relS b t) = relS b t := by
  rw [(relS_some h).1]
  exact ⟨text_ne_nil (good_way (good_to t) h), isR_way (good_to t) h, clean_text (good_way (good_to t) h)⟩
end Pl
end Go.Proofs.Ytgkbkocakinmfaa
