import Derived.Test.YbulkbfdoWalk
namespace Go.Proofs.Ybulkbfdo
open Go.RowKit
set_option linter.unusedSimpArgs false

namespace Full
open Bfs
/-- The neighbours of v on the complete network, in Neighbours' order. -/
def nb (n v : Nat) : List Nat := (List.range (n - 1)).map fun i => (v + 1 + i) % n

theorem nb_len (n v : Nat) : (nb n v).length = n - 1 := by simp [nb]
theorem nb_at (n v i : Nat) (h : i < n - 1) : (nb n v).getD i 0 = (v + 1 + i) % n := by simp [nb, List.getD, h]
theorem nb_lt (n v : Nat) (h0 : 0 < n) : ∀ u ∈ nb n v, u < n := by
  intro u hu
  obtain ⟨i, _, rfl⟩ := List.mem_map.1 hu
  exact Nat.mod_lt _ h0
theorem mod_cases (n v i : Nat) (hv : v < n) (hi : i < n) : (v + i) % n = if v + i < n then v + i else v + i - n := by
  split
  · rename_i h; exact Nat.mod_eq_of_lt h
  · rename_i h; rw [Nat.mod_eq_sub_mod (by omega), Nat.mod_eq_of_lt (by omega)]
theorem nb_nodup (n v : Nat) (hv : v < n) : (v :: nb n v).Nodup := by
  rw [List.nodup_cons]
  refine ⟨fun hm => ?_, ?_⟩
  · obtain ⟨i, hi, e⟩ := List.mem_map.1 hm
    have hi' : i < n - 1 := List.mem_range.1 hi
    rw [show v + 1 + i = v + (1 + i) by omega, mod_cases n v (1 + i) hv (by omega)] at e
    split at e <;> omega
  · rw [nb, List.nodup_iff_pairwise_ne, List.pairwise_map]
    refine List.Pairwise.imp_of_mem ?_ (List.pairwise_lt_range (n := n - 1))
    intro a b ha hb hab e
    have ha' : a < n - 1 := List.mem_range.1 ha
    have hb' : b < n - 1 := List.mem_range.1 hb
    rw [show v + 1 + a = v + (1 + a) by omega, show v + 1 + b = v + (1 + b) by omega, mod_cases n v (1 + a) hv (by omega), mod_cases n v (1 + b) hv (by omega)] at e
    split at e <;> split at e <;> omega

theorem scan_fresh (d : Int) : ∀ (l : List Nat) (s : St), l.Nodup → (∀ u ∈ l, s.1 u < 0) → (scan d l s).2 = s.2 ++ l ∧ (∀ u ∈ l, (scan d l s).1 u = d + 1) ∧ ∀ u, u ∉ l → (scan d l s).1 u = s.1 u
  | [], s, _, _ => ⟨by simp [scan], by simp, fun u _ => rfl⟩
  | u :: l, s, hn, hs => by
    rw [List.nodup_cons] at hn
    have hu := hs u (by simp)
    have ih := scan_fresh d l (put s.1 u (d + 1), s.2 ++ [u]) hn.2 (fun v hv => by
      have e : v ≠ u := fun e => hn.1 (e ▸ hv)
      simp only [put, e, if_false]
      exact hs v (by simp [hv]))
    have e : scan d (u :: l) s = scan d l (put s.1 u (d + 1), s.2 ++ [u]) := by simp [scan, visit_neg hu]
    rw [e]
    refine ⟨by rw [ih.1]; simp, fun v hv => ?_, fun v hv => ?_⟩
    · by_cases hvl : v ∈ l
      · exact ih.2.1 v hvl
      · have ev : v = u := by simpa [hvl] using hv
        rw [ih.2.2 v hvl]; subst ev; simp [put]
    · simp at hv
      rw [ih.2.2 v hv.2]; simp [put, hv.1]

theorem bfs_all (n src : Nat) (hops : Int) (hs : src < n) (h1 : 1 < n) (hh : hops ≠ 0) (S : St) (hS : bfs n hops (nb n) n 0 (put (fun _ => -1) src 0, [src]) = S) :
    S.2 = src :: nb n src ∧ (∀ v, v < n → S.1 v = if v = src then 0 else 1) := by
  have hst := bfs_step n hops (nb n) 0 (put (fun _ => -1) src 0, [src]) (by omega) ⟨by simp, by simpa using h1⟩ (by simp [put]; exact fun e => hh e.symm)
  rw [show n - 0 = n from rfl, hS] at hst
  have hnd := nb_nodup n src hs
  have hnd' := List.nodup_cons.1 hnd
  have sf := scan_fresh 0 (nb n src) (put (fun _ => -1) src 0, [src]) hnd'.2 (fun u hu => by
    have e : u ≠ src := fun e => hnd'.1 (e ▸ hu)
    simp [put, e])
  have e1 : scan ((put (fun _ => -1) src 0) (([src] : List Nat).getD 0 0)) (nb n (([src] : List Nat).getD 0 0)) (put (fun _ => -1) src 0, [src]) = scan 0 (nb n src) (put (fun _ => -1) src 0, [src]) := by simp [put]
  have e2 : S = scan 0 (nb n src) (put (fun _ => -1) src 0, [src]) := by
    rw [hst]
    show bfs n hops (nb n) _ _ (scan ((put (fun _ => -1) src 0) (([src] : List Nat).getD 0 0)) (nb n (([src] : List Nat).getD 0 0)) (put (fun _ => -1) src 0, [src])) = _
    rw [e1]
    refine bfs_stop _ _ _ _ _ _ ?_
    rw [sf.1]
    simp [nb_len]
    omega
  rw [e2]
  refine ⟨by rw [sf.1]; rfl, fun v hv => ?_⟩
  by_cases ev : v = src
  · subst ev; rw [sf.2.2 v hnd'.1]; simp [put]
  · rw [if_neg ev]
    have hm : v ∈ nb n src := by
      refine List.mem_map.2 ⟨if src < v then v - src - 1 else v + n - src - 1, List.mem_range.2 (by split <;> omega), ?_⟩
      split
      · rw [show src + 1 + (v - src - 1) = v by omega, Nat.mod_eq_of_lt hv]
      · rw [show src + 1 + (v + n - src - 1) = v + n by omega, Nat.add_mod_right, Nat.mod_eq_of_lt hv]
    rw [sf.2.1 v hm]; rfl

theorem bfs_one (n src : Nat) (hops : Int) (h : hops = 0 ∨ n ≤ 1) (S : St) (hS : bfs n hops (nb n) n 0 (put (fun _ => -1) src 0, [src]) = S) : S = (put (fun _ => -1) src 0, [src]) := by
  rw [← hS]
  rcases h with h | h
  · exact bfs_hop _ _ _ _ _ _ (by simp [put, h])
  · exact bfs_stop _ _ _ _ _ _ (by simp; omega)
end Full

theorem nb_full (A D n : Nat) (h0 : 0 < n) (hn : n ≤ 1024) (w : World) (h : CG w A n) (hD : A + 1 < D) : NB D w (.pointer (some ⟨A + 1, 0, none⟩)) n (Full.nb n) := by
  intro v hv W hb
  have hG : CG W A n := ⟨h.1.below hb (by omega), h.2.below hb (by omega)⟩
  have hl := Full.nb_len n v
  refine ⟨by omega, some ⟨A, v + 1, none⟩, 2 * n - (v + 1), ?_, fun i hi => ⟨A, v + 1, rfl, by omega, ?_⟩⟩
  · rw [show (Full.nb n v).length = v + n - (v + 1) by omega]
    exact nb_complete A n v hn hv W hG
  · rw [Full.nb_at n v i (by omega)]
    exact hG.1.int (show v + 1 + i < 2 * n by omega)

end Go.Proofs.Ybulkbfdo
