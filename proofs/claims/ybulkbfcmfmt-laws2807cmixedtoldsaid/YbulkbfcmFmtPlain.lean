namespace Go.Proofs.YbulkbfcmFmt.Mix

/-- The largest scale among the start and the first k lots. -/
def scaleAt (s0 : Nat) (t : Nat → Nat) : Nat → Nat
  | 0 => s0
  | k + 1 => max (scaleAt s0 t k) (t k)

/-- What addShares holds behind k lots. -/
def sumAt (st : Int) (s0 : Nat) (c : Nat → Int) (t : Nat → Nat) : Nat → Int
  | 0 => st
  | k + 1 => sumAt st s0 c t k * 10 ^ (scaleAt s0 t (k + 1) - scaleAt s0 t k) + c k * 10 ^ (scaleAt s0 t (k + 1) - t k)

/-- What the law reckons at scale m behind k lots. -/
def totAt (m : Nat) (st : Int) (s0 : Nat) (c : Nat → Int) (t : Nat → Nat) : Nat → Int
  | 0 => st * 10 ^ (m - s0)
  | k + 1 => totAt m st s0 c t k + c k * 10 ^ (m - t k)

theorem scale_le (s0 : Nat) (t : Nat → Nat) (h0 : s0 ≤ 6) (ht : ∀ k, t k ≤ 6) : ∀ k, scaleAt s0 t k ≤ 6
  | 0 => h0
  | k + 1 => by have := scale_le s0 t h0 ht k; have := ht k; simp only [scaleAt]; omega

theorem scale_mono (s0 : Nat) (t : Nat → Nat) (k : Nat) : scaleAt s0 t k ≤ scaleAt s0 t (k + 1) ∧ t k ≤ scaleAt s0 t (k + 1) := by simp only [scaleAt]; omega

theorem scale_ge (s0 : Nat) (t : Nat → Nat) : ∀ k, s0 ≤ scaleAt s0 t k ∧ ∀ j, j < k → t j ≤ scaleAt s0 t k
  | 0 => ⟨Nat.le_refl _, fun j hj => by omega⟩
  | k + 1 => by
    have h := scale_ge s0 t k
    have m := scale_mono s0 t k
    refine ⟨by omega, fun j hj => ?_⟩
    by_cases e : j = k
    · subst e; exact m.2
    · have := h.2 j (by omega); omega

theorem sum_tot (st : Int) (s0 : Nat) (c : Nat → Int) (t : Nat → Nat) (m : Nat) : ∀ k, scaleAt s0 t k ≤ m → sumAt st s0 c t k * 10 ^ (m - scaleAt s0 t k) = totAt m st s0 c t k
  | 0, _ => rfl
  | k + 1, h => by
    have mm := scale_mono s0 t k
    have ih := sum_tot st s0 c t m k (by omega)
    simp only [sumAt, totAt]
    rw [Int.add_mul, ← ih, Int.mul_assoc, Int.mul_assoc, ← Int.pow_add, ← Int.pow_add]
    congr 3 <;> congr 1 <;> omega

theorem sum_eq (st : Int) (s0 : Nat) (c : Nat → Int) (t : Nat → Nat) (n : Nat) : sumAt st s0 c t n = totAt (scaleAt s0 t n) st s0 c t n := by
  have h := sum_tot st s0 c t (scaleAt s0 t n) n (Nat.le_refl _)
  simpa using h

theorem pow_bd (n : Nat) (h : n ≤ 6) : (1 : Int) ≤ 10 ^ n ∧ (10 : Int) ^ n ≤ 1000000 := by
  match n, h with
  | 0, _ | 1, _ | 2, _ | 3, _ | 4, _ | 5, _ | 6, _ => decide

theorem abs_mul_le {a b A B : Int} (h1 : -A ≤ a) (h2 : a ≤ A) (hb : 0 ≤ b) (hB : b ≤ B) (hA : 0 ≤ A) : -(A * B) ≤ a * b ∧ a * b ≤ A * B := by
  have u : a * b ≤ A * b := Int.mul_le_mul_of_nonneg_right h2 hb
  have l : -A * b ≤ a * b := Int.mul_le_mul_of_nonneg_right h1 hb
  have v : A * b ≤ A * B := Int.mul_le_mul_of_nonneg_left hB hA
  rw [Int.neg_mul] at l
  omega

theorem tot_bd (m : Nat) (hm : m ≤ 6) (st : Int) (s0 : Nat) (c : Nat → Int) (t : Nat → Nat) (hs : -32768 ≤ st ∧ st ≤ 32768) (hc : ∀ k, -32768 ≤ c k ∧ c k ≤ 32768) :
    ∀ k : Nat, -((k + 1 : Int) * 32768000000) ≤ totAt m st s0 c t k ∧ totAt m st s0 c t k ≤ (k + 1 : Int) * 32768000000
  | 0 => by
    have p := pow_bd (m - s0) (by omega)
    have := abs_mul_le (A := 32768) (B := 1000000) hs.1 hs.2 (by omega) p.2 (by decide)
    simp only [totAt]; omega
  | k + 1 => by
    have ih := tot_bd m hm st s0 c t hs hc k
    have p := pow_bd (m - t k) (by omega)
    have := abs_mul_le (A := 32768) (B := 1000000) (hc k).1 (hc k).2 (by omega) p.2 (by decide)
    simp only [totAt]; omega

end Go.Proofs.YbulkbfcmFmt.Mix
