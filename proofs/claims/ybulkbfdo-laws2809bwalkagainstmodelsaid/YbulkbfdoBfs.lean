namespace Go.Proofs.Ybulkbfdo.Bfs

/-- A walk's state: each node's distance (-1: not reached), the nodes reached, in order. -/
abbrev St := (Nat → Int) × List Nat

def put (f : Nat → Int) (j : Nat) (x : Int) : Nat → Int := fun i => if i = j then x else f i
def visit (d : Int) (s : St) (u : Nat) : St := if s.1 u < 0 then (put s.1 u (d + 1), s.2 ++ [u]) else s
def scan (d : Int) (l : List Nat) (s : St) : St := l.foldl (visit d) s

def bfs (n : Nat) (hops : Int) (nb : Nat → List Nat) : Nat → Nat → St → St
  | 0, _, s => s
  | f + 1, i, s =>
    if i < s.2.length ∧ s.2.length < n then
      if s.1 (s.2.getD i 0) = hops then s else bfs n hops nb f (i + 1) (scan (s.1 (s.2.getD i 0)) (nb (s.2.getD i 0)) s)
    else s

def Good (n : Nat) (s : St) : Prop :=
  s.2.Nodup ∧ (∀ u ∈ s.2, u < n) ∧ (∀ u, u < n → u ∈ s.2 → 0 ≤ s.1 u) ∧ (∀ u, u < n → u ∉ s.2 → s.1 u = -1) ∧ (∀ u ∈ s.2, s.1 u < s.2.length)

theorem nodup_le : ∀ (n : Nat) (l : List Nat), l.Nodup → (∀ u ∈ l, u < n) → l.length ≤ n
  | 0, l, _, h => by
    cases l with
    | nil => simp
    | cons a l => have := h a (by simp); omega
  | n + 1, l, hd, h => by
    have h1 : (l.erase n).length ≤ n := by
      refine nodup_le n (l.erase n) (hd.erase n) fun u hu => ?_
      have hm := (hd.mem_erase_iff).1 hu
      have := h u hm.2
      omega
    by_cases hm : n ∈ l
    · rw [List.length_erase_of_mem hm] at h1; omega
    · rw [List.erase_of_not_mem hm] at h1; omega

theorem good_le {n : Nat} {s : St} (h : Good n s) : s.2.length ≤ n := nodup_le n s.2 h.1 h.2.1
theorem good_room {n : Nat} {s : St} (h : Good n s) {u : Nat} (hu : u < n) (hm : u ∉ s.2) : s.2.length < n := by
  have := nodup_le n (u :: s.2) (List.nodup_cons.2 ⟨hm, h.1⟩) (fun v hv => by
    rcases List.mem_cons.1 hv with rfl | hv
    · exact hu
    · exact h.2.1 v hv)
  simp at this; omega
theorem good_neg {n : Nat} {s : St} (h : Good n s) {u : Nat} (hu : u < n) : s.1 u < 0 ↔ u ∉ s.2 := by
  constructor
  · intro hn hm; have := h.2.2.1 u hu hm; omega
  · intro hm; have := h.2.2.2.1 u hu hm; omega

theorem good_start (n src : Nat) (h : src < n) : Good n (put (fun _ => -1) src 0, [src]) := by
  refine ⟨by simp, by simpa using h, fun u _ hm => ?_, fun u _ hm => ?_, fun u hm => ?_⟩
  · simp at hm; subst hm; simp [put]
  · simp at hm; simp [put, hm]
  · simp at hm; subst hm; simp [put]

theorem good_visit {n : Nat} {s : St} (h : Good n s) {d : Int} (h0 : 0 ≤ d) (hd : d < s.2.length) {u : Nat} (hu : u < n) : Good n (visit d s u) ∧ s.2.length ≤ (visit d s u).2.length := by
  unfold visit
  by_cases hn : s.1 u < 0
  · have hm := (good_neg h hu).1 hn
    simp only [hn, if_true]
    refine ⟨⟨?_, ?_, ?_, ?_, ?_⟩, by simp⟩
    · rw [List.nodup_append]
      refine ⟨h.1, by simp, fun a ha b hb => ?_⟩
      simp at hb; subst hb; intro e; subst e; exact hm ha
    · intro v hv
      rcases List.mem_append.1 hv with hv | hv
      · exact h.2.1 v hv
      · simp at hv; subst hv; exact hu
    · intro v hv hvm
      by_cases e : v = u
      · subst e; simp [put]; omega
      · simp only [put, e, if_false]
        rcases List.mem_append.1 hvm with hvm | hvm
        · exact h.2.2.1 v hv hvm
        · simp at hvm; exact absurd hvm e
    · intro v hv hvm
      have e : v ≠ u := fun e => hvm (by simp [e])
      simp only [put, e, if_false]
      exact h.2.2.2.1 v hv (fun hm => hvm (by simp [hm]))
    · intro v hvm
      by_cases e : v = u
      · subst e; simp [put]; omega
      · simp only [put, e, if_false]
        rcases List.mem_append.1 hvm with hvm | hvm
        · have := h.2.2.2.2 v hvm; simp; omega
        · simp at hvm; exact absurd hvm e
  · simp only [hn, if_false]
    exact ⟨h, Nat.le_refl _⟩

theorem scan_snoc (d : Int) (l : List Nat) (u : Nat) (s : St) : scan d (l ++ [u]) s = visit d (scan d l s) u := by simp [scan]

theorem good_scan {n : Nat} {d : Int} (h0 : 0 ≤ d) : ∀ (l : List Nat) (s : St), Good n s → d < s.2.length → (∀ u ∈ l, u < n) → Good n (scan d l s) ∧ s.2.length ≤ (scan d l s).2.length
  | [], s, h, _, _ => ⟨h, Nat.le_refl _⟩
  | u :: l, s, h, hd, hl => by
    have h1 := good_visit h h0 hd (hl u (by simp))
    have h2 := good_scan h0 l (visit d s u) h1.1 (by omega) (fun v hv => hl v (by simp [hv]))
    exact ⟨h2.1, by have := h2.2; show s.2.length ≤ (scan d l (visit d s u)).2.length; omega⟩

/-- A scan leaves what is reached as it was: the queue is a beginning of the new one, its distances stand. -/
theorem visit_old {n : Nat} {s : St} (h : Good n s) (d : Int) {u : Nat} (hu : u < n) : (∃ t, (visit d s u).2 = s.2 ++ t) ∧ ∀ v ∈ s.2, (visit d s u).1 v = s.1 v := by
  unfold visit
  by_cases hn : s.1 u < 0
  · have hm := (good_neg h hu).1 hn
    simp only [hn, if_true]
    refine ⟨⟨[u], by simp⟩, fun v hv => ?_⟩
    have e : v ≠ u := fun e => hm (e ▸ hv)
    simp [put, e]
  · simp only [hn, if_false]
    exact ⟨⟨[], by simp⟩, fun _ _ => by simp⟩

theorem bfs_stop (n : Nat) (hops : Int) (nb : Nat → List Nat) (f i : Nat) (s : St) (h : ¬ (i < s.2.length ∧ s.2.length < n)) : bfs n hops nb f i s = s := by
  cases f with
  | zero => rfl
  | succ f => simp only [bfs]; rw [if_neg h]
theorem bfs_hop (n : Nat) (hops : Int) (nb : Nat → List Nat) (f i : Nat) (s : St) (h : s.1 (s.2.getD i 0) = hops) : bfs n hops nb f i s = s := by
  cases f with
  | zero => rfl
  | succ f =>
    simp only [bfs]
    by_cases hc : i < s.2.length ∧ s.2.length < n
    · rw [if_pos hc, if_pos h]
    · rw [if_neg hc]
theorem bfs_step (n : Nat) (hops : Int) (nb : Nat → List Nat) (i : Nat) (s : St) (hi : i < n) (hc : i < s.2.length ∧ s.2.length < n) (h : s.1 (s.2.getD i 0) ≠ hops) :
    bfs n hops nb (n - i) i s = bfs n hops nb (n - (i + 1)) (i + 1) (scan (s.1 (s.2.getD i 0)) (nb (s.2.getD i 0)) s) := by
  have e : n - i = (n - (i + 1)) + 1 := by omega
  rw [e]
  simp only [bfs]
  rw [if_pos hc, if_neg h]
theorem getD_mem {l : List Nat} {i : Nat} (h : i < l.length) : l.getD i 0 ∈ l := by
  have e : l.getD i 0 = l[i] := by simp [List.getD, h]
  rw [e]; exact List.getElem_mem h
theorem take_succ_getD {l : List Nat} {i : Nat} (h : i < l.length) : l.take (i + 1) = l.take i ++ [l.getD i 0] := by
  have e : l.getD i 0 = l[i] := by simp [List.getD, h]
  rw [e, List.take_succ_eq_append_getElem h]
theorem visit_neg {d : Int} {s : St} {u : Nat} (h : s.1 u < 0) : visit d s u = (put s.1 u (d + 1), s.2 ++ [u]) := by unfold visit; rw [if_pos h]
theorem visit_pos {d : Int} {s : St} {u : Nat} (h : ¬ s.1 u < 0) : visit d s u = s := by unfold visit; rw [if_neg h]
theorem getD_snoc_old {l : List Nat} {u i : Nat} (h : i < l.length) : (l ++ [u]).getD i 0 = l.getD i 0 := by simp [List.getD, List.getElem?_append_left h]
theorem getD_snoc_new {l : List Nat} {u : Nat} : (l ++ [u]).getD l.length 0 = u := by simp [List.getD]

end Go.Proofs.Ybulkbfdo.Bfs
