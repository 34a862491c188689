import Derived.Test.YbulkbfdoWalk
import Derived.Test.YbulkbfdoRx
namespace Go.Proofs.Ybulkbfdo
open Go.RowKit
set_option linter.unusedSimpArgs false

/-- A graph by its rows: start at St, adj at Aj. -/
def SG (w : World) (Gp St Aj n L c : Nat) (sf f : Nat → Int) : Prop :=
  Blk w Gp 33 #[.slice (some ⟨St, 0, none⟩) (n + 1) (n + 1), .slice (some ⟨Aj, 0, none⟩) L c, .nilFunc] ∧ Blk w St 3 (rowOf .i64 sf (n + 1)) ∧ (Aj < w.heap.size ∧ ∀ j, j < L → w.cell? ⟨Aj, j, none⟩ = some (.int .i32 (f j))) ∧ L ≤ c

theorem SG.below {w w' : World} {B Gp St Aj n L c : Nat} {sf f : Nat → Int} (h : SG w Gp St Aj n L c sf f) (hb : Below B w w') (h1 : Gp < B) (h2 : St < B) (h3 : Aj < B) : SG w' Gp St Aj n L c sf f :=
  ⟨h.1.below hb h1, h.2.1.below hb h2, ⟨Nat.lt_of_lt_of_le h.2.2.1.1 hb.size, fun j hj => (hb.cell (p := ⟨Aj, j, none⟩) h3).trans (h.2.2.1.2 j hj)⟩, h.2.2.2⟩

set_option maxRecDepth 100000 in
set_option maxHeartbeats 1000000 in
theorem nb_start (Gp St Aj n L c v a b : Nat) (sf f : Nat → Int) (hn : n ≤ 1024) (hc : c ≤ 9223372036854775807) (hv : v < n) (ha : sf v = a) (hb : sf (v + 1) = b) (hab : a ≤ b) (hbl : b ≤ L) (w : World) (h : SG w Gp St Aj n L c sf f) :
    Calls Yba.prog 19 #[.pointer (some ⟨Gp, 0, none⟩), .int .i32 v] w fun e w' => e = .returned (.slice (some ⟨Aj, if a < c then a else 0, none⟩) (b - a) (c - a)) ∧ ∃ k, w' = w.drewN k := by
  obtain ⟨h1, h2, h3, h4⟩ := h
  have c0 : w.cell? ⟨Gp, 0, none⟩ = some (.slice (some ⟨St, 0, none⟩) (n + 1) (n + 1)) := by simpa using h1.cell 0
  have c1 : w.cell? ⟨Gp, 1, none⟩ = some (.slice (some ⟨Aj, 0, none⟩) L c) := by simpa using h1.cell 1
  have s0 := h2.int (show v < n + 1 by omega)
  have s1 := h2.int (show v + 1 < n + 1 by omega)
  rw [ha] at s0
  rw [hb] at s1
  have hv' : (v : Int) < n := by omega
  have hn' : (n : Int) ≤ 1024 := by omega
  have hab' : (a : Int) ≤ b := by omega
  have hbc : (b : Int) ≤ c := by omega
  have hc' : (c : Int) ≤ 9223372036854775807 := by omega
  have N1 := fun (wx : World) => Lib.run_eql_slice_nil (P := Yba.prog) wx 28 3 (some ⟨St, 0, none⟩) (n + 1) (n + 1) 0 0 Yba.underlying28
  clear h1 h2 h3 ha hb
  by_cases hlt : a < c
  · rw [if_pos hlt]
    go_enter Yba.func19, Yba.ntmps19
    go_wp2_with fail
    have hne : ¬ c = a := by omega
    have hne' : ¬ a = c := by omega
    go_quiet (fail)
    go_wp2
    go_ret
    exact ⟨rfl, nq, rfl⟩
  · rw [if_neg hlt]
    obtain rfl : a = c := by omega
    obtain rfl : a = b := by omega
    go_enter Yba.func19, Yba.ntmps19
    go_wp2_with fail
    go_quiet (fail)
    go_wp2
    go_ret
    exact ⟨by simp, nq, rfl⟩

/-- The neighbours of the nodes below v, one behind the other. -/
def catN (nb : Nat → List Nat) : Nat → List Nat
  | 0 => []
  | v + 1 => catN nb v ++ nb v

theorem catN_pre (nb : Nat → List Nat) : ∀ (n v : Nat), v ≤ n → ∃ t, catN nb n = catN nb v ++ t
  | 0, v, h => ⟨[], by rw [show v = 0 by omega]; rfl⟩
  | n + 1, v, h => by
    by_cases e : v = n + 1
    · subst e; exact ⟨[], by simp⟩
    · obtain ⟨t, ht⟩ := catN_pre nb n v (by omega)
      exact ⟨t ++ nb n, by simp [catN, ht]⟩

theorem catN_len (nb : Nat → List Nat) {n v : Nat} (h : v ≤ n) : (catN nb v).length ≤ (catN nb n).length := by
  obtain ⟨t, ht⟩ := catN_pre nb n v h
  rw [ht]; simp

theorem catN_at (nb : Nat → List Nat) {n v i : Nat} (h : v < n) (hi : i < (nb v).length) : (catN nb n).getD ((catN nb v).length + i) 0 = (nb v).getD i 0 := by
  obtain ⟨t, ht⟩ := catN_pre nb n (v + 1) (by omega)
  rw [ht]
  simp only [catN, List.append_assoc, List.getD]
  rw [List.getElem?_append_right (by omega)]
  simp [List.getElem?_append_left hi]

theorem catN_le (nb : Nat → List Nat) (k : Nat) (h : ∀ v, (nb v).length ≤ k) : ∀ v, (catN nb v).length ≤ v * k
  | 0 => by simp [catN]
  | v + 1 => by
    have := catN_le nb k h v
    have := h v
    simp only [catN, List.length_append]
    rw [Nat.add_mul, Nat.one_mul]
    omega

theorem nb_sg (Gp St Aj D n c : Nat) (sf f : Nat → Int) (nb : Nat → List Nat) (hn : n ≤ 1024) (hc : c ≤ 9223372036854775807) (hnl : ∀ v, (nb v).length ≤ 1024) (hsf : ∀ v, v ≤ n → sf v = ((catN nb v).length : Nat)) (hf : ∀ j, j < (catN nb n).length → f j = ((catN nb n).getD j 0 : Nat)) (w : World)
    (h : SG w Gp St Aj n (catN nb n).length c sf f) (h1 : Gp < D) (h2 : St < D) (h3 : Aj < D) : NB D w (.pointer (some ⟨Gp, 0, none⟩)) n nb := by
  intro v hv W hb
  have hG := h.below hb h1 h2 h3
  have hl := hnl v
  have hcl : (catN nb (v + 1)).length = (catN nb v).length + (nb v).length := by simp [catN]
  have hle := catN_len nb (n := n) (v := v + 1) (by omega)
  have hLc := h.2.2.2
  refine ⟨by omega, some ⟨Aj, if (catN nb v).length < c then (catN nb v).length else 0, none⟩, c - (catN nb v).length, ?_, fun i hi => ⟨Aj, _, rfl, h3, ?_⟩⟩
  · have h4 := nb_start Gp St Aj n (catN nb n).length c v (catN nb v).length (catN nb (v + 1)).length sf f hn hc hv (hsf v (by omega)) (hsf (v + 1) (by omega)) (by omega) hle W hG
    rwa [show (catN nb (v + 1)).length - (catN nb v).length = (nb v).length by omega] at h4
  · rw [if_pos (by omega), ← catN_at nb hv hi, ← hf _ (by omega)]
    exact hG.2.2.1.2 _ (by omega)

end Go.Proofs.Ybulkbfdo
