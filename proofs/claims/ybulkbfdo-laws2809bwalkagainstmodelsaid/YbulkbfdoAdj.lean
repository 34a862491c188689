import Derived.Test.YbulkbfdoCheck
import Derived.Test.YbulkbfdoNbs
namespace Go.Proofs.Ybulkbfdo
open Go.RowKit
set_option linter.unusedSimpArgs false

/-- The row's neighbours below column u. -/
def nbU (n : Nat) (mf : Nat → Bool) (v u : Nat) : List Nat := (Bfs.nbM n mf v).filter fun x => decide (x < u)

theorem range_filter_lt : ∀ (n u : Nat), u ≤ n → (List.range n).filter (fun x => decide (x < u)) = List.range u
  | 0, u, h => by rw [show u = 0 by omega]; rfl
  | n + 1, u, h => by
    rw [List.range_succ, List.filter_append]
    by_cases e : u = n + 1
    · subst e
      have h1 : (List.range n).filter (fun x => decide (x < n + 1)) = List.range n := by
        rw [List.filter_eq_self]; intro x hx; simp at hx; simp; omega
      rw [h1, List.range_succ]; simp
    · rw [range_filter_lt n u (by omega)]
      simp; omega

theorem nbU_eq (n : Nat) (mf : Nat → Bool) (v : Nat) {u : Nat} (h : u ≤ n) : nbU n mf v u = (List.range u).filter fun x => mf (v * n + x) := by
  unfold nbU Bfs.nbM
  rw [List.filter_filter, ← range_filter_lt n u h, List.filter_filter]
  congr 1
  funext x
  exact Bool.and_comm _ _

theorem nbU_zero (n : Nat) (mf : Nat → Bool) (v : Nat) : nbU n mf v 0 = [] := by simp [nbU]
theorem nbU_full (n : Nat) (mf : Nat → Bool) (v : Nat) : nbU n mf v n = Bfs.nbM n mf v := by
  rw [nbU_eq n mf v (Nat.le_refl _)]; rfl
theorem nbU_yes {n : Nat} {mf : Nat → Bool} {v u : Nat} (h : u < n) (hm : mf (v * n + u) = true) : nbU n mf v (u + 1) = nbU n mf v u ++ [u] := by
  rw [nbU_eq n mf v (show u + 1 ≤ n by omega), nbU_eq n mf v (Nat.le_of_lt h), List.range_succ, List.filter_append]
  simp [hm]
theorem nbU_no {n : Nat} {mf : Nat → Bool} {v u : Nat} (h : u < n) (hm : mf (v * n + u) = false) : nbU n mf v (u + 1) = nbU n mf v u := by
  rw [nbU_eq n mf v (show u + 1 ≤ n by omega), nbU_eq n mf v (Nat.le_of_lt h), List.range_succ, List.filter_append]
  simp [hm]
theorem nbM_len (n : Nat) (mf : Nat → Bool) (v : Nat) : (Bfs.nbM n mf v).length ≤ n := by
  have := List.length_filter_le (fun u => mf (v * n + u)) (List.range n)
  simpa [Bfs.nbM] using this
theorem nbU_len (n : Nat) (mf : Nat → Bool) (v u : Nat) : (nbU n mf v u).length ≤ n :=
  Nat.le_trans (List.length_filter_le _ _) (nbM_len n mf v)

end Go.Proofs.Ybulkbfdo
