/-
  PLAIN FACTS ON WAYS ONE BEHIND THE OTHER. No program in sight. Conditions: none.
-/
import Derived.Test.YtgkbkocakinmfaaC
namespace Go.Proofs.Ytgkbkocakinmfaa
namespace Pl
open Go.Lib

theorem chain {q : Nat → Bs} {r : Nat → Place} : ∀ n, (∀ k, k < n → way (Pl.to (q k)) (Pl.to (q (k + 1))) = some (r k)) → ((List.range n).map (fun k => text (r k))).foldl follow (Pl.to (q 0)) = Pl.to (q n)
  | 0, _ => rfl
  | n + 1, h => by
    rw [List.range_succ, List.map_append, List.foldl_append, chain n (fun k hk => h k (by omega))]
    exact follow_way (good_to _) (h n (by omega))
/-- so many summands, each at most so large -/
theorem sum_range_le (f g : Nat → Nat) : ∀ n, (∀ k, k < n → f k ≤ g k) → ((List.range n).map f).sum ≤ ((List.range n).map g).sum
  | 0, _ => Nat.le_refl _
  | n + 1, h => by
    rw [List.range_succ, List.map_append, List.map_append, List.sum_append, List.sum_append]
    have h1 := sum_range_le f g n (fun k hk => h k (by omega))
    have h2 := h n (by omega)
    simp only [List.map_cons, List.map_nil, List.sum_cons, List.sum_nil]
    omega
theorem sum_lin (f : Nat → Nat) (a b : Nat) : ∀ n, ((List.range n).map (fun k => a * f k + b)).sum = a * ((List.range n).map f).sum + b * n
  | 0 => by simp
  | n + 1 => by
    rw [List.range_succ, List.map_append, List.map_append, List.sum_append, List.sum_append, sum_lin f a b n]
    simp only [List.map_cons, List.map_nil, List.sum_cons, List.sum_nil, Nat.mul_add]
    omega
theorem sum_add (f g : Nat → Nat) : ∀ n, ((List.range n).map (fun k => f k + g k)).sum = ((List.range n).map f).sum + ((List.range n).map g).sum
  | 0 => rfl
  | n + 1 => by
    rw [List.range_succ, List.map_append, List.map_append, List.map_append, List.sum_append, List.sum_append, List.sum_append, sum_add f g n]
    simp only [List.map_cons, List.map_nil, List.sum_cons, List.sum_nil]
    omega
theorem sum_shift_eq (f : Nat → Nat) : ∀ n, ((List.range n).map f).sum + f n = f 0 + ((List.range n).map (fun k => f (k + 1))).sum
  | 0 => by simp
  | n + 1 => by
    have := sum_shift_eq f n
    rw [List.range_succ, List.map_append, List.map_append, List.sum_append, List.sum_append]
    simp only [List.map_cons, List.map_nil, List.sum_cons, List.sum_nil]
    omega
theorem sum_shift (f : Nat → Nat) (n : Nat) : ((List.range n).map f).sum ≤ f 0 + ((List.range n).map (fun k => f (k + 1))).sum := by
  have := sum_shift_eq f n
  omega
theorem one_le_sum (f : Nat → Nat) : ∀ n k, k < n → f k ≤ ((List.range n).map f).sum
  | 0, _, h => by omega
  | n + 1, k, h => by
    rw [List.range_succ, List.map_append, List.sum_append]
    simp only [List.map_cons, List.map_nil, List.sum_cons, List.sum_nil]
    by_cases e : k = n
    · subst e; omega
    · have := one_le_sum f n k (by omega)
      omega
end Pl
end Go.Proofs.Ytgkbkocakinmfaa
