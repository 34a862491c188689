import Derived.Test.YbulkbfdoBfs
namespace Go.Proofs.Ybulkbfdo.Bfs

/-- u can be come to from src by k edges. -/
def Path (nb : Nat → List Nat) (src : Nat) : Nat → Nat → Prop
  | 0, u => u = src
  | k + 1, u => ∃ v, Path nb src k v ∧ u ∈ nb v

theorem Path.lt {n : Nat} {nb : Nat → List Nat} {src : Nat} (hnb : ∀ v, v < n → ∀ u ∈ nb v, u < n) (hs : src < n) : ∀ (k u : Nat), Path nb src k u → u < n
  | 0, u, h => by rw [show u = src from h]; exact hs
  | k + 1, u, ⟨v, hv, hu⟩ => hnb v (Path.lt hnb hs k v hv) u hu

/-- What stands of a walk's state, the scan's index at i. -/
structure Mid (n : Nat) (hops : Int) (nb : Nat → List Nat) (src : Nat) (i : Nat) (s : St) : Prop where
  good : Good n s
  head : s.2.getD 0 0 = src ∧ 0 < s.2.length
  le : i ≤ s.2.length
  path : ∀ u ∈ s.2, Path nb src (s.1 u).toNat u
  sorted : ∀ a b, a ≤ b → b < s.2.length → s.1 (s.2.getD a 0) ≤ s.1 (s.2.getD b 0)
  near : ∀ b, i < s.2.length → b < s.2.length → s.1 (s.2.getD b 0) ≤ s.1 (s.2.getD i 0) + 1
  done : ∀ a, a < i → ∀ u ∈ nb (s.2.getD a 0), u ∈ s.2 ∧ s.1 u ≤ s.1 (s.2.getD a 0) + 1
  cut : 0 ≤ hops → ∀ u ∈ s.2, s.1 u ≤ hops
  src0 : s.1 src = 0

theorem mem_getD {l : List Nat} {u : Nat} (h : u ∈ l) : ∃ a, a < l.length ∧ l.getD a 0 = u := by
  obtain ⟨a, ha, e⟩ := List.mem_iff_getElem.1 h
  exact ⟨a, ha, by simp [List.getD, ha, e]⟩

/-- What a path has come to. -/
theorem Mid.reach {n : Nat} {hops : Int} {nb : Nat → List Nat} {src i : Nat} {s : St} (h : Mid n hops nb src i s) : ∀ (k u : Nat), Path nb src k u → (u ∈ s.2 ∧ s.1 u ≤ k) ∨ (i < s.2.length ∧ s.1 (s.2.getD i 0) < k)
  | 0, u, hp => by
    have e : u = src := hp
    subst e
    refine .inl ⟨?_, by rw [h.src0]; simp⟩
    have := getD_mem h.head.2
    rwa [h.head.1] at this
  | k + 1, u, ⟨v, hv, hu⟩ => by
    rcases h.reach k v hv with ⟨hm, hd⟩ | ⟨hi, hd⟩
    · obtain ⟨a, ha, e⟩ := mem_getD hm
      by_cases hai : a < i
      · obtain ⟨h1, h2⟩ := h.done a hai u (by rw [e]; exact hu)
        rw [e] at h2
        exact .inl ⟨h1, by push_cast; omega⟩
      · have h1 := h.sorted i a (by omega) ha
        rw [e] at h1
        exact .inr ⟨by omega, by push_cast; omega⟩
    · exact .inr ⟨hi, by push_cast; omega⟩

/-- What a finished walk answers. -/
structure Spec (n : Nat) (hops : Int) (nb : Nat → List Nat) (src : Nat) (s : St) : Prop where
  good : Good n s
  head : s.2.getD 0 0 = src ∧ 0 < s.2.length
  path : ∀ u ∈ s.2, Path nb src (s.1 u).toNat u
  sorted : ∀ a b, a ≤ b → b < s.2.length → s.1 (s.2.getD a 0) ≤ s.1 (s.2.getD b 0)
  cut : 0 ≤ hops → ∀ u ∈ s.2, s.1 u ≤ hops
  all : ∀ k u, Path nb src k u → (hops < 0 ∨ (k : Int) ≤ hops) → u ∈ s.2 ∧ s.1 u ≤ k

theorem Mid.spec {n : Nat} {hops : Int} {nb : Nat → List Nat} {src i : Nat} {s : St} (hnb : ∀ v, v < n → ∀ u ∈ nb v, u < n) (hs : src < n) (h : Mid n hops nb src i s)
    (he : ¬ (i < s.2.length ∧ s.2.length < n) ∨ (i < s.2.length ∧ s.1 (s.2.getD i 0) = hops)) : Spec n hops nb src s := by
  refine ⟨h.good, h.head, h.path, h.sorted, h.cut, fun k u hp hk => ?_⟩
  rcases h.reach k u hp with h1 | ⟨hi, hd⟩
  · exact h1
  · rcases he with he | ⟨_, he⟩
    · have hun := Path.lt hnb hs k u hp
      have hm : u ∈ s.2 := Classical.byContradiction fun hm => he ⟨hi, good_room h.good hun hm⟩
      obtain ⟨b, hb, e⟩ := mem_getD hm
      have h1 := h.near b hi hb
      rw [e] at h1
      exact ⟨hm, by omega⟩
    · rw [he] at hd
      have h0 := h.good.2.2.1 _ (h.good.2.1 _ (getD_mem hi)) (getD_mem hi)
      rw [he] at h0
      rcases hk with hk | hk <;> omega

theorem Mid.start {n : Nat} {hops : Int} {nb : Nat → List Nat} {src : Nat} (hs : src < n) : Mid n hops nb src 0 (put (fun _ => -1) src 0, [src]) := by
  refine ⟨good_start n src hs, ⟨rfl, by simp⟩, Nat.zero_le _, fun u hu => ?_, fun a b hab hb => ?_, fun b _ hb => ?_, fun a ha => by omega, fun h0 u hu => ?_, by simp [put]⟩
  · simp at hu; subst hu; simp [put, Path]
  · simp at hb; subst hb
    have : a = 0 := by omega
    subst this; exact Int.le_refl _
  · simp at hb; subst hb; omega
  · simp at hu; subst hu; simpa [put] using h0

theorem mid_visit {n : Nat} {hops : Int} {nb : Nat → List Nat} {src i : Nat} {s : St} {d : Int} {v u : Nat} (h : Mid n hops nb src i s) (hi : i < s.2.length) (hv : s.2.getD i 0 = v) (hd : s.1 v = d) (hh : d ≠ hops) (hu : u < n) (hm : u ∈ nb v) :
    Mid n hops nb src i (visit d s u) ∧ i < (visit d s u).2.length ∧ (visit d s u).2.getD i 0 = v ∧ (visit d s u).1 v = d ∧ (u ∈ (visit d s u).2 ∧ (visit d s u).1 u ≤ d + 1) ∧ ∀ x ∈ s.2, x ∈ (visit d s u).2 ∧ (visit d s u).1 x = s.1 x := by
  have hvm : v ∈ s.2 := by rw [← hv]; exact getD_mem hi
  have d0 : 0 ≤ d := by rw [← hd]; exact h.good.2.2.1 v (h.good.2.1 v hvm) hvm
  have dl : d < s.2.length := by rw [← hd]; exact h.good.2.2.2.2 v hvm
  by_cases hn : s.1 u < 0
  · have hnm := (good_neg h.good hu).1 hn
    have hg := (good_visit h.good d0 dl hu).1
    have hold : ∀ x ∈ s.2, put s.1 u (d + 1) x = s.1 x := fun x hx => by
      have e : x ≠ u := fun e => hnm (e ▸ hx)
      simp [put, e]
    have hnew : put s.1 u (d + 1) u = d + 1 := by simp [put]
    have qold : ∀ a, a < s.2.length → (s.2 ++ [u]).getD a 0 = s.2.getD a 0 := fun a ha => getD_snoc_old ha
    have fold : ∀ a, a < s.2.length → put s.1 u (d + 1) ((s.2 ++ [u]).getD a 0) = s.1 (s.2.getD a 0) := fun a ha => by rw [qold a ha]; exact hold _ (getD_mem ha)
    have fnew : put s.1 u (d + 1) ((s.2 ++ [u]).getD s.2.length 0) = d + 1 := by rw [getD_snoc_new]; exact hnew
    have hl : (s.2 ++ [u]).length = s.2.length + 1 := by simp
    have hsm : src ∈ s.2 := by have := getD_mem h.head.2; rwa [h.head.1] at this
    rw [visit_neg hn] at hg ⊢
    refine ⟨⟨hg, ⟨?_, by simp⟩, ?_, ?_, ?_, ?_, ?_, ?_, ?_⟩, ?_, ?_, ?_, ⟨by simp, by show put s.1 u (d + 1) u ≤ d + 1; rw [hnew]; omega⟩, fun x hx => ⟨by simp [hx], hold x hx⟩⟩
    · show (s.2 ++ [u]).getD 0 0 = src
      rw [qold 0 h.head.2]; exact h.head.1
    · show i ≤ (s.2 ++ [u]).length
      omega
    · intro x hx
      show Path nb src (put s.1 u (d + 1) x).toNat x
      rcases List.mem_append.1 hx with hx | hx
      · rw [hold x hx]; exact h.path x hx
      · simp at hx; subst hx
        rw [hnew, show (d + 1).toNat = d.toNat + 1 by omega]
        refine ⟨v, ?_, hm⟩
        have := h.path v hvm
        rwa [hd] at this
    · intro a b hab hb
      show put s.1 u (d + 1) ((s.2 ++ [u]).getD a 0) ≤ put s.1 u (d + 1) ((s.2 ++ [u]).getD b 0)
      have hb' : b < s.2.length + 1 := by rw [← hl]; exact hb
      by_cases e : b = s.2.length
      · subst e
        rw [fnew]
        by_cases e' : a = s.2.length
        · subst e'; rw [fnew]; exact Int.le_refl _
        · have ha : a < s.2.length := by omega
          rw [fold a ha]
          have := h.near a hi ha
          rw [hv, hd] at this
          exact this
      · rw [fold a (by omega), fold b (by omega)]
        exact h.sorted a b hab (by omega)
    · intro b _ hb
      show put s.1 u (d + 1) ((s.2 ++ [u]).getD b 0) ≤ put s.1 u (d + 1) ((s.2 ++ [u]).getD i 0) + 1
      have hb' : b < s.2.length + 1 := by rw [← hl]; exact hb
      rw [fold i hi]
      by_cases e : b = s.2.length
      · subst e; rw [fnew, hv, hd]; omega
      · rw [fold b (by omega)]; exact h.near b hi (by omega)
    · intro a ha x hx
      show x ∈ s.2 ++ [u] ∧ put s.1 u (d + 1) x ≤ put s.1 u (d + 1) ((s.2 ++ [u]).getD a 0) + 1
      have hx' : x ∈ nb ((s.2 ++ [u]).getD a 0) := hx
      rw [qold a (by omega)] at hx'
      obtain ⟨h1, h2⟩ := h.done a ha x hx'
      rw [hold x h1, fold a (by omega)]
      exact ⟨by simp [h1], h2⟩
    · intro h0 x hx
      show put s.1 u (d + 1) x ≤ hops
      rcases List.mem_append.1 hx with hx | hx
      · rw [hold x hx]; exact h.cut h0 x hx
      · simp at hx; subst hx
        rw [hnew]
        have := h.cut h0 v hvm
        rw [hd] at this
        omega
    · show put s.1 u (d + 1) src = 0
      rw [hold src hsm]; exact h.src0
    · show i < (s.2 ++ [u]).length
      omega
    · show (s.2 ++ [u]).getD i 0 = v
      rw [qold i hi]; exact hv
    · show put s.1 u (d + 1) v = d
      rw [hold v hvm]; exact hd
  · rw [visit_pos hn]
    have hum : u ∈ s.2 := Classical.byContradiction fun hx => hn ((good_neg h.good hu).2 hx)
    refine ⟨h, hi, hv, hd, ⟨hum, ?_⟩, fun x hx => ⟨hx, rfl⟩⟩
    obtain ⟨b, hb, e⟩ := mem_getD hum
    have := h.near b hi hb
    rw [e, hv, hd] at this
    exact this

theorem mid_scan {n : Nat} {hops : Int} {nb : Nat → List Nat} {src i : Nat} {d : Int} {v : Nat} (hh : d ≠ hops) : ∀ (l : List Nat) (s : St), (∀ u ∈ l, u < n ∧ u ∈ nb v) → Mid n hops nb src i s → i < s.2.length → s.2.getD i 0 = v → s.1 v = d →
    Mid n hops nb src i (scan d l s) ∧ i < (scan d l s).2.length ∧ (scan d l s).2.getD i 0 = v ∧ (scan d l s).1 v = d ∧ (∀ u ∈ l, u ∈ (scan d l s).2 ∧ (scan d l s).1 u ≤ d + 1) ∧ ∀ x ∈ s.2, x ∈ (scan d l s).2 ∧ (scan d l s).1 x = s.1 x
  | [], s, _, h, hi, hv, hd => ⟨h, hi, hv, hd, (fun u hu => by cases hu), fun x hx => ⟨hx, rfl⟩⟩
  | u :: l, s, hl, h, hi, hv, hd => by
    obtain ⟨h1, i1, v1, d1, ⟨m1, e1⟩, o1⟩ := mid_visit h hi hv hd hh (hl u (by simp)).1 (hl u (by simp)).2
    obtain ⟨h2, i2, v2, d2, m2, o2⟩ := mid_scan hh l (visit d s u) (fun x hx => hl x (by simp [hx])) h1 i1 v1 d1
    refine ⟨h2, i2, v2, d2, fun x hx => ?_, fun x hx => ?_⟩
    · rcases List.mem_cons.1 hx with rfl | hx
      · obtain ⟨a, b⟩ := o2 x m1
        exact ⟨a, by rw [show (scan d (x :: l) s).1 x = (scan d l (visit d s x)).1 x from rfl, b]; exact e1⟩
      · exact m2 x hx
    · obtain ⟨a, b⟩ := o1 x hx
      obtain ⟨a', b'⟩ := o2 x a
      exact ⟨a', b'.trans b⟩

theorem Mid.next {n : Nat} {hops : Int} {nb : Nat → List Nat} {src i : Nat} {s : St} (hnb : ∀ v, v < n → ∀ u ∈ nb v, u < n) (h : Mid n hops nb src i s) (hi : i < s.2.length) (hh : s.1 (s.2.getD i 0) ≠ hops) :
    Mid n hops nb src (i + 1) (scan (s.1 (s.2.getD i 0)) (nb (s.2.getD i 0)) s) := by
  have hvn := h.good.2.1 _ (getD_mem hi)
  obtain ⟨h2, i2, v2, d2, m2, o2⟩ := mid_scan hh (nb (s.2.getD i 0)) s (fun u hu => ⟨hnb _ hvn u hu, hu⟩) h hi rfl rfl
  generalize scan (s.1 (s.2.getD i 0)) (nb (s.2.getD i 0)) s = t at *
  refine ⟨h2.good, h2.head, by omega, h2.path, h2.sorted, fun b hb1 hb => ?_, fun a ha x hx => ?_, h2.cut, h2.src0⟩
  · have h3 := h2.near b i2 hb
    have h4 := h2.sorted i (i + 1) (by omega) hb1
    omega
  · by_cases e : a = i
    · subst e
      rw [v2] at hx ⊢
      obtain ⟨h5, h6⟩ := m2 x hx
      exact ⟨h5, by rw [d2]; exact h6⟩
    · exact h2.done a (by omega) x hx

theorem bfs_spec {n : Nat} {hops : Int} {nb : Nat → List Nat} {src : Nat} (hnb : ∀ v, v < n → ∀ u ∈ nb v, u < n) (hs : src < n) : ∀ (f i : Nat) (s : St), f + i = n → Mid n hops nb src i s → Spec n hops nb src (bfs n hops nb f i s)
  | 0, i, s, hf, h => h.spec hnb hs (.inl (by have := good_le h.good; show ¬ (i < s.2.length ∧ s.2.length < n); omega))
  | f + 1, i, s, hf, h => by
    simp only [bfs]
    by_cases hc : i < s.2.length ∧ s.2.length < n
    · rw [if_pos hc]
      by_cases hh : s.1 (s.2.getD i 0) = hops
      · rw [if_pos hh]; exact h.spec hnb hs (.inr ⟨hc.1, hh⟩)
      · rw [if_neg hh]; exact bfs_spec hnb hs f (i + 1) _ (by omega) (h.next hnb hc.1 hh)
    · rw [if_neg hc]; exact h.spec hnb hs (.inl hc)

theorem walk_spec {n : Nat} {hops : Int} {nb : Nat → List Nat} {src : Nat} (hnb : ∀ v, v < n → ∀ u ∈ nb v, u < n) (hs : src < n) : Spec n hops nb src (bfs n hops nb n 0 (put (fun _ => -1) src 0, [src])) :=
  bfs_spec hnb hs n 0 _ rfl (Mid.start hs)

/-- A node that can be come to can be come to by fewer than n edges. -/
theorem Path.short {n : Nat} {nb : Nat → List Nat} {src : Nat} (hnb : ∀ v, v < n → ∀ u ∈ nb v, u < n) (hs : src < n) {k u : Nat} (h : Path nb src k u) : ∃ j, j ≤ k ∧ j < n ∧ Path nb src j u := by
  have S := walk_spec (hops := -1) hnb hs
  generalize bfs n (-1) nb n 0 (put (fun _ => -1) src 0, [src]) = s at S
  obtain ⟨hm, hd⟩ := S.all k u h (.inl (by omega))
  have h1 := S.good.2.2.2.2 u hm
  have h2 := good_le S.good
  exact ⟨(s.1 u).toNat, by omega, by have := S.good.2.2.1 u (S.good.2.1 u hm) hm; omega, S.path u hm⟩

/-- What the model's distances say. -/
def Mod (n : Nat) (nb : Nat → List Nat) (src : Nat) (md : Nat → Int) : Prop :=
  (∀ u, u < n → 0 ≤ md u → Path nb src (md u).toNat u) ∧ ∀ k u, Path nb src k u → 0 ≤ md u ∧ md u ≤ k

theorem Mod.reached {n : Nat} {hops : Int} {nb : Nat → List Nat} {src : Nat} {md : Nat → Int} {s : St} (hM : Mod n nb src md) (hS : Spec n hops nb src s) {v : Nat} (hv : v < n) :
    (v ∈ s.2 → s.1 v = md v ∧ 0 ≤ md v ∧ (hops < 0 ∨ md v ≤ hops)) ∧ (v ∉ s.2 → s.1 v = -1 ∧ ¬ (0 ≤ md v ∧ (hops < 0 ∨ md v ≤ hops))) := by
  constructor
  · intro hm
    have h0 := hS.good.2.2.1 v hv hm
    obtain ⟨h1, h2⟩ := hM.2 _ v (hS.path v hm)
    have hc : hops < 0 ∨ md v ≤ hops := by
      by_cases h : hops < 0
      · exact .inl h
      · have := hS.cut (by omega) v hm
        exact .inr (by omega)
    obtain ⟨_, h3⟩ := hS.all _ v (hM.1 v hv h1) (by omega)
    exact ⟨by omega, h1, hc⟩
  · intro hm
    refine ⟨hS.good.2.2.2.1 v hv hm, fun ⟨h1, h2⟩ => hm ?_⟩
    exact (hS.all _ v (hM.1 v hv h1) (by omega)).1

/-- How many nodes below k stand in l. -/
def cnt (l : List Nat) : Nat → Nat
  | 0 => 0
  | k + 1 => cnt l k + if k ∈ l then 1 else 0

theorem cnt_congr {l l' : List Nat} : ∀ (k : Nat), (∀ v, v < k → (v ∈ l ↔ v ∈ l')) → cnt l k = cnt l' k
  | 0, _ => rfl
  | k + 1, h => by
    simp only [cnt]
    rw [cnt_congr k (fun v hv => h v (by omega))]
    by_cases hm : k ∈ l
    · rw [if_pos hm, if_pos ((h k (by omega)).1 hm)]
    · rw [if_neg hm, if_neg (fun h' => hm ((h k (by omega)).2 h'))]

theorem cnt_all : ∀ (n : Nat) (l : List Nat), l.Nodup → (∀ u ∈ l, u < n) → cnt l n = l.length
  | 0, l, _, h => by
    cases l with
    | nil => rfl
    | cons a l => have := h a (by simp); omega
  | n + 1, l, hd, h => by
    have h1 : cnt (l.erase n) n = (l.erase n).length := by
      refine cnt_all n (l.erase n) (hd.erase n) fun u hu => ?_
      have hm := (hd.mem_erase_iff).1 hu
      have := h u hm.2
      omega
    have h2 : cnt l n = cnt (l.erase n) n := cnt_congr n fun v hv => by
      rw [hd.mem_erase_iff]
      exact ⟨fun hm => ⟨by omega, hm⟩, fun hm => hm.2⟩
    simp only [cnt]
    rw [h2, h1]
    by_cases hm : n ∈ l
    · rw [if_pos hm, List.length_erase_of_mem hm]
      have := List.length_pos_of_mem hm
      omega
    · rw [if_neg hm, List.erase_of_not_mem hm]; omega

theorem cnt_le (l : List Nat) : ∀ k, cnt l k ≤ k
  | 0 => Nat.le_refl _
  | k + 1 => by
    have := cnt_le l k
    simp only [cnt]
    split <;> omega

end Go.Proofs.Ybulkbfdo.Bfs
