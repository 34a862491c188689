import Derived.Test.YbulkbfdoDist
namespace Go.Proofs.Ybulkbfdo.Bfs

/-- The neighbours that the matrix names. -/
def nbM (n : Nat) (mf : Nat → Bool) (v : Nat) : List Nat := (List.range n).filter fun u => mf (v * n + u)
theorem mem_nbM {n : Nat} {mf : Nat → Bool} {v u : Nat} : u ∈ nbM n mf v ↔ u < n ∧ mf (v * n + u) = true := by simp [nbM]
theorem nbM_lt (n : Nat) (mf : Nat → Bool) : ∀ v, v < n → ∀ u ∈ nbM n mf v, u < n := fun _ _ _ hu => (mem_nbM.1 hu).1

def F (md : Nat → Int) (x : Nat) (c : Int) : Prop := 0 ≤ md x ∧ md x ≤ c

/-- Between two rounds. -/
structure Rr (n : Nat) (mf : Nat → Bool) (src r : Nat) (md : Nat → Int) : Prop where
  sound : ∀ x, x < n → 0 ≤ md x → Path (nbM n mf) src (md x).toNat x
  low : ∀ x, x < n → -1 ≤ md x
  top : ∀ x, x < n → md x ≤ (r * (n + 1) : Nat)
  base : ∀ k, k ≤ r → ∀ x, Path (nbM n mf) src k x → F md x k

/-- Inside round r, row v, column u. -/
structure Rx (n : Nat) (mf : Nat → Bool) (src r v u : Nat) (ch : Bool) (md : Nat → Int) : Prop where
  sound : ∀ x, x < n → 0 ≤ md x → Path (nbM n mf) src (md x).toNat x
  low : ∀ x, x < n → -1 ≤ md x
  top : ∀ x, x < n → md x ≤ (r * (n + 1) : Nat) + v + 1
  mv : v < n → md v ≤ (r * (n + 1) : Nat) + v
  base : ∀ k, k ≤ r → ∀ x, Path (nbM n mf) src k x → F md x k
  row : ∀ k, k ≤ r → ∀ y, y < v → Path (nbM n mf) src k y → ∀ x ∈ nbM n mf y, F md x (k + 1 : Nat)
  cur : ∀ k, k ≤ r → Path (nbM n mf) src k v → ∀ x ∈ nbM n mf v, x < u → F md x (k + 1 : Nat)
  still : ch = false → ∀ y, y < v → 0 ≤ md y → ∀ x ∈ nbM n mf y, F md x (md y + 1)
  stillc : ch = false → 0 ≤ md v → ∀ x ∈ nbM n mf v, x < u → F md x (md v + 1)

theorem Rr.start (n : Nat) (mf : Nat → Bool) (src : Nat) (hs : src < n) (md : Nat → Int) (h0 : md src = 0) (h1 : ∀ x, x < n → x ≠ src → md x = -1) : Rr n mf src 0 md := by
  refine ⟨fun x hx h => ?_, fun x hx => ?_, fun x hx => ?_, fun k hk x hp => ?_⟩
  · by_cases e : x = src
    · subst e; rw [h0]; rfl
    · have := h1 x hx e; omega
  · by_cases e : x = src
    · subst e; omega
    · have := h1 x hx e; omega
  · by_cases e : x = src
    · subst e; omega
    · have := h1 x hx e; omega
  · have : k = 0 := by omega
    subst this
    have e : x = src := hp
    subst e
    exact ⟨by omega, by omega⟩

theorem Rr.enter {n : Nat} {mf : Nat → Bool} {src r : Nat} {md : Nat → Int} (h : Rr n mf src r md) : Rx n mf src r 0 0 false md :=
  ⟨h.sound, h.low, fun x hx => by have := h.top x hx; omega, fun hv => by have := h.top 0 hv; omega, h.base, fun k _ y hy => by omega, fun k _ _ x _ hx => by omega, fun _ y hy => by omega, fun _ _ x _ hx => by omega⟩

theorem Rx.skip {n : Nat} {mf : Nat → Bool} {src r v : Nat} {ch : Bool} {md : Nat → Int} (h : Rx n mf src r v 0 ch md) (hn : md v < 0) : Rx n mf src r (v + 1) 0 ch md :=
  ⟨h.sound, h.low, fun x hx => by have := h.top x hx; omega, fun hv => by have := h.top (v + 1) hv; omega, h.base,
    fun k hk y hy hp x hx => by
      by_cases e : y = v
      · subst e; have := (h.base k hk y hp).1; omega
      · exact h.row k hk y (by omega) hp x hx,
    fun k _ _ x _ hx => by omega,
    fun hc y hy h0 x hx => by
      by_cases e : y = v
      · subst e; omega
      · exact h.still hc y (by omega) h0 x hx,
    fun _ _ x _ hx => by omega⟩

theorem Rx.pass {n : Nat} {mf : Nat → Bool} {src r v u : Nat} {ch : Bool} {md : Nat → Int} (h : Rx n mf src r v u ch md) (hc : mf (v * n + u) = true → 0 ≤ md u ∧ md u ≤ md v + 1) : Rx n mf src r v (u + 1) ch md :=
  ⟨h.sound, h.low, h.top, h.mv, h.base, h.row,
    fun k hk hp x hx hlt => by
      by_cases e : x = u
      · subst e
        obtain ⟨h1, h2⟩ := hc (mem_nbM.1 hx).2
        have h3 := (h.base k hk v hp).2
        exact ⟨h1, by push_cast; omega⟩
      · exact h.cur k hk hp x hx (by omega),
    h.still,
    fun hch h0 x hx hlt => by
      by_cases e : x = u
      · subst e; exact hc (mem_nbM.1 hx).2
      · exact h.stillc hch h0 x hx (by omega)⟩

theorem Rx.write {n : Nat} {mf : Nat → Bool} {src r v u : Nat} {ch : Bool} {md md' : Nat → Int} (h : Rx n mf src r v u ch md) (hvn : v < n) (hu : u < n) (hm : mf (v * n + u) = true) (h0 : 0 ≤ md v) (hc : md u < 0 ∨ md v + 1 < md u)
    (e1 : md' u = md v + 1) (e2 : ∀ x, x ≠ u → md' x = md x) : Rx n mf src r v (u + 1) true md' := by
  have huv : v ≠ u := fun e => by subst e; omega
  have ev : md' v = md v := e2 v huv
  have st : ∀ {x : Nat} {c : Int}, F md x c → F md' x c := fun {x c} hf => by
    by_cases e : x = u
    · subst e
      obtain ⟨a, b⟩ := hf
      exact ⟨by omega, by omega⟩
    · unfold F; rw [e2 x e]; exact hf
  refine ⟨fun x hx hp => ?_, fun x hx => ?_, fun x hx => ?_, fun _ => ?_, fun k hk x hp => st (h.base k hk x hp), fun k hk y hy hp x hx => st (h.row k hk y hy hp x hx), fun k hk hp x hx hlt => ?_, (fun hch => by cases hch), (fun hch => by cases hch)⟩
  · by_cases e : x = u
    · subst e
      rw [e1, show (md v + 1).toNat = (md v).toNat + 1 by omega]
      exact ⟨v, h.sound v hvn h0, mem_nbM.2 ⟨hu, hm⟩⟩
    · rw [e2 x e] at hp ⊢; exact h.sound x hx hp
  · by_cases e : x = u
    · subst e; omega
    · rw [e2 x e]; exact h.low x hx
  · by_cases e : x = u
    · subst e; have := h.mv hvn; omega
    · rw [e2 x e]; exact h.top x hx
  · rw [ev]; exact h.mv hvn
  · by_cases e : x = u
    · subst e
      have h3 := (h.base k hk v hp).2
      exact ⟨by omega, by push_cast; omega⟩
    · exact st (h.cur k hk hp x hx (by omega))

theorem Rx.rowEnd {n : Nat} {mf : Nat → Bool} {src r v u : Nat} {ch : Bool} {md : Nat → Int} (h : Rx n mf src r v u ch md) (hu : n ≤ u) : Rx n mf src r (v + 1) 0 ch md :=
  ⟨h.sound, h.low, fun x hx => by have := h.top x hx; omega, fun hv => by have := h.top (v + 1) hv; omega, h.base,
    fun k hk y hy hp x hx => by
      by_cases e : y = v
      · subst e; exact h.cur k hk hp x hx (by have := (mem_nbM.1 hx).1; omega)
      · exact h.row k hk y (by omega) hp x hx,
    fun k _ _ x _ hx => by omega,
    fun hc y hy h0 x hx => by
      by_cases e : y = v
      · subst e; exact h.stillc hc h0 x hx (by have := (mem_nbM.1 hx).1; omega)
      · exact h.still hc y (by omega) h0 x hx,
    fun _ _ x _ hx => by omega⟩

theorem Rx.roundEnd {n : Nat} {mf : Nat → Bool} {src r : Nat} {ch : Bool} {md : Nat → Int} (hs : src < n) (h : Rx n mf src r n 0 ch md) : Rr n mf src (r + 1) md := by
  refine ⟨h.sound, h.low, fun x hx => ?_, fun k hk x hp => ?_⟩
  · have h1 := h.top x hx
    rw [Nat.add_mul, Nat.one_mul]
    omega
  · cases k with
    | zero => exact h.base 0 (by omega) x hp
    | succ k =>
      obtain ⟨y, hy, hx⟩ := hp
      exact h.row k (by omega) y (Path.lt (nbM_lt n mf) hs k y hy) hy x hx

theorem Rx.mod {n : Nat} {mf : Nat → Bool} {src r : Nat} {md : Nat → Int} (hs : src < n) (h : Rx n mf src r n 0 false md) : Mod n (nbM n mf) src md := by
  refine ⟨h.sound, fun k => ?_⟩
  induction k with
  | zero => exact fun u hp => h.base 0 (Nat.zero_le _) u hp
  | succ k ih =>
    rintro u ⟨v, hv, hu⟩
    obtain ⟨h1, h2⟩ := ih v hv
    obtain ⟨h3, h4⟩ := h.still rfl v (Path.lt (nbM_lt n mf) hs k v hv) h1 u hu
    exact ⟨h3, by push_cast; omega⟩

theorem Rr.mod {n : Nat} {mf : Nat → Bool} {src : Nat} {md : Nat → Int} (hs : src < n) (h : Rr n mf src n md) : Mod n (nbM n mf) src md := by
  refine ⟨h.sound, fun k u hp => ?_⟩
  obtain ⟨j, hj, hjn, hq⟩ := Path.short (nbM_lt n mf) hs hp
  obtain ⟨h1, h2⟩ := h.base j (by omega) u hq
  exact ⟨h1, by omega⟩

end Go.Proofs.Ybulkbfdo.Bfs
