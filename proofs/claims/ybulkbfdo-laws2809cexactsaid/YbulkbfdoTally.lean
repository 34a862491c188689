import Derived.Test.YbulkbfdoSum
namespace Go.Proofs.Ybulkbfdo
open Go.RowKit
set_option linter.unusedSimpArgs false

/-- A slice of integers that came in. -/
def Arg (k : IntKind) (w : World) (a : Option Addr) (n cap : Nat) (f : Nat → Int) : Prop :=
  (a = none ∧ n = 0 ∧ cap = 0) ∨ ∃ x, a = some x ∧ ∀ j, j < n → w.cell? (x.add j) = some (.int k (f j))

theorem Arg.below {k : IntKind} {w w' : World} {a : Option Addr} {n cap : Nat} {f : Nat → Int} (h : Arg k w a n cap f) (hb : Below w.heap.size w w') : Arg k w' a n cap f := by
  rcases h with h | ⟨x, h1, h2⟩
  · exact .inl h
  · exact .inr ⟨x, h1, fun j hj => cell_later hb (h2 j hj)⟩

/-- What Clone hands back. -/
def Cloned (k : IntKind) (B : Nat) (w : World) (a' : Option Addr) (n c : Nat) (f : Nat → Int) : Prop :=
  (a' = none ∧ n = 0 ∧ c = 0) ∨ ∃ g, a' = some ⟨g, 0, none⟩ ∧ B ≤ g ∧ Row w g k f n

theorem clone64_any (a : Option Addr) (n cap : Nat) (f : Nat → Int) (hn : n ≤ 1025) (w : World) (h : Arg .i64 w a n cap f) :
    Calls Yba.prog 13 #[.slice a n cap] w fun e w' => ∃ a' c, e = .returned (.slice a' n c) ∧ a'.isNone = a.isNone ∧ Cloned .i64 w.heap.size w' a' n c f ∧ Below w.heap.size w w' := by
  rcases h with ⟨rfl, rfl, rfl⟩ | ⟨x, rfl, hc⟩
  · refine (clone64_nil w).mono ?_
    rintro e w' ⟨rfl, rfl⟩
    exact ⟨none, 0, rfl, rfl, .inl ⟨rfl, rfl, rfl⟩, Below.refl _ _⟩
  · refine (clone64_some x n cap f hn w hc).mono ?_
    rintro e w' ⟨g, c, rfl, hg, hR, hb⟩
    exact ⟨_, c, rfl, rfl, .inr ⟨g, rfl, hg, hR⟩, hb⟩
theorem clone32_any (a : Option Addr) (n cap : Nat) (f : Nat → Int) (hn : n ≤ 1025) (w : World) (h : Arg .i32 w a n cap f) :
    Calls Yba.prog 14 #[.slice a n cap] w fun e w' => ∃ a' c, e = .returned (.slice a' n c) ∧ a'.isNone = a.isNone ∧ Cloned .i32 w.heap.size w' a' n c f ∧ Below w.heap.size w w' := by
  rcases h with ⟨rfl, rfl, rfl⟩ | ⟨x, rfl, hc⟩
  · refine (clone32_nil w).mono ?_
    rintro e w' ⟨rfl, rfl⟩
    exact ⟨none, 0, rfl, rfl, .inl ⟨rfl, rfl, rfl⟩, Below.refl _ _⟩
  · refine (clone32_some x n cap f hn w hc).mono ?_
    rintro e w' ⟨g, c, rfl, hg, hR, hb⟩
    exact ⟨_, c, rfl, rfl, .inr ⟨g, rfl, hg, hR⟩, hb⟩

/-! ### What the counts come to -/
theorem wrap_cong {x y : Int} (q : Int) (h : x - y = 18446744073709551616 * q) : wrap64 x = wrap64 y := by
  have e : x = y + 18446744073709551616 * q := by omega
  unfold wrap64
  rw [e, show y + 18446744073709551616 * q + 9223372036854775808 = (y + 9223372036854775808) + 18446744073709551616 * q by omega, Int.add_mul_emod_self_left]
theorem wrap_eq (x : Int) : ∃ q, wrap64 x = x + 18446744073709551616 * q := ⟨-((x + 9223372036854775808) / 18446744073709551616), by unfold wrap64; omega⟩
theorem wrap_in {x : Int} (h1 : -9223372036854775808 ≤ x) (h2 : x ≤ 9223372036854775807) : wrap64 x = x := by unfold wrap64; omega

theorem step_split (a b X F : Int) : wrap64 (wrap64 (F + wrap64 (a * X)) + wrap64 (b * X)) = wrap64 (F + wrap64 (wrap64 (a + b) * X)) := by
  obtain ⟨q1, h1⟩ := wrap_eq (a * X)
  obtain ⟨q2, h2⟩ := wrap_eq (F + wrap64 (a * X))
  obtain ⟨q3, h3⟩ := wrap_eq (b * X)
  obtain ⟨q4, h4⟩ := wrap_eq (a + b)
  obtain ⟨q5, h5⟩ := wrap_eq (wrap64 (a + b) * X)
  have e : wrap64 (a + b) * X = a * X + b * X + 18446744073709551616 * (q4 * X) := by rw [h4, Int.add_mul, Int.add_mul, Int.mul_assoc]
  refine wrap_cong (q1 + q2 + q3 - q4 * X - q5) ?_
  rw [h2, h1, h3, h5, e, Int.mul_sub, Int.mul_sub, Int.mul_add, Int.mul_add]
  omega

theorem acc_split (a b : Int) (cl F : Nat → Int) (M j : Nat) : acc b cl (acc a cl F M) M j = acc (wrap64 (a + b)) cl F M j := by
  unfold acc
  by_cases h : j < M
  · simp only [h, if_true, stepV]
    exact step_split a b _ _
  · simp only [h, if_false]
theorem acc_zero (cl F : Nat → Int) (M j : Nat) (hF : wrap64 (F j) = F j) : acc 0 cl F M j = F j := by
  unfold acc
  split
  · simp only [stepV, Int.zero_mul]
    rw [show wrap64 0 = 0 by unfold wrap64; omega, Int.add_zero, hF]
  · rfl
theorem wrap_wrap (x : Int) : wrap64 (wrap64 x) = wrap64 x := by unfold wrap64; omega
theorem acc_fits (r : Int) (cl F : Nat → Int) (M : Nat) (hF : ∀ j, wrap64 (F j) = F j) (j : Nat) : wrap64 (acc r cl F M j) = acc r cl F M j := by
  unfold acc
  split
  · exact wrap_wrap _
  · exact hF j
theorem ext_fits (n : Nat) (f : Nat → Int) (hf : ∀ j, wrap64 (f j) = f j) (j : Nat) : wrap64 (ext n f j) = ext n f j := by
  unfold ext
  split
  · exact hf j
  · unfold wrap64; omega

theorem sum_any (T Dd : Nat) (a : Option Addr) (n c : Nat) (ca : Option Addr) (m cc : Nat) (f cl : Nat → Int) (runs : Int) (hn : n ≤ 1024) (hm : m ≤ 1025) (hf : ∀ j, wrap64 (ext n f j) = ext n f j) (w : World) (h : Tally w T Dd (.slice a n c) (.slice ca m cc) n m f cl runs) :
    Calls Yba.prog 15 #[.pointer (some ⟨T, 0, none⟩)] w fun e w' => e = .returned (.tuple #[]) ∧ (∃ a2 c2 n2 fa, Tally w' T Dd (.slice a2 n2 c2) (.slice ca m cc) n2 m fa cl 0 ∧ n2 ≤ 1024 ∧ (∀ j, ext n2 fa j = acc runs cl (ext n f) (m - 1) j) ∧ (runs ≠ 0 → n2 = max n (m - 1)) ∧ (runs = 0 → a2 = a ∧ n2 = n)) ∧ Below (Dd + 1) w w' := by
  by_cases hr : runs = 0
  · subst hr
    refine (sum_zero T w h.1.2.2).mono ?_
    rintro e w' ⟨rfl, rfl⟩
    exact ⟨rfl, ⟨a, c, n, f, h, hn, fun j => (acc_zero cl (ext n f) (m - 1) j (hf j)).symm, fun h => absurd rfl h, fun _ => ⟨rfl, rfl⟩⟩, Below.refl _ _⟩
  · refine (sum_some T Dd a n c ca m cc f cl runs (by simpa using hr) hn hm w h).mono ?_
    rintro e w' ⟨rfl, ⟨a2, c2, fa, hT, hfa⟩, hb⟩
    refine ⟨rfl, ⟨a2, c2, max n (m - 1), fa, hT, by omega, fun j => ?_, fun _ => rfl, fun h => absurd h hr⟩, hb⟩
    unfold ext
    by_cases hj : j < max n (m - 1)
    · rw [if_pos hj, hfa j]; rfl
    · rw [if_neg hj]
      unfold acc
      rw [if_neg (by omega)]
      show 0 = if j < n then f j else 0
      rw [if_neg (by omega)]

set_option maxHeartbeats 400000 in
theorem cat_lt (g n c j : Nat) (f : Nat → Int) (hj : j < n) (w : World) (hR : Row w g .i64 f n) :
    Calls Yba.prog 18 #[.slice (some ⟨g, 0, none⟩) n c, .int .i64 j] w fun e w' => e = .returned (.int .i64 (f j)) ∧ w' = w := by
  have c0 := hR.1 j hj
  have hj' : (j : Int) < n := by omega
  clear hR
  go_enter Yba.func18, Yba.ntmps18
  go_wp2
  go_ret
  exact ⟨rfl, rfl⟩
set_option maxHeartbeats 400000 in
theorem cat_ge (a : Option Addr) (n c j : Nat) (hj : ¬ j < n) (w : World) :
    Calls Yba.prog 18 #[.slice a n c, .int .i64 j] w fun e w' => e = .returned (.int .i64 0) ∧ w' = w := by
  have hj' : ¬ (j : Int) < n := by omega
  go_enter Yba.func18, Yba.ntmps18
  go_wp2
  go_ret
  exact ⟨rfl, rfl⟩
theorem cat_any (T Dd : Nat) (v : Value) (n j : Nat) (f : Nat → Int) (w : World) (h : NS w T Dd v n f) :
    Calls Yba.prog 18 #[v, .int .i64 j] w fun e w' => e = .returned (.int .i64 (ext n f j)) ∧ w' = w := by
  rcases h with ⟨rfl, rfl⟩ | ⟨g, c, rfl, _, _, hR⟩
  · exact cat_ge none 0 0 j (by omega) w
  · by_cases hj : j < n
    · rw [ext_same hj]; exact cat_lt g n c j f hj w hR
    · have e : ext n f j = 0 := by simp [ext, hj]
      rw [e]; exact cat_ge _ n c j hj w

/-- The two boxes laid behind the clones: a tally. -/
theorem tally_new {w wc wn : World} {a' : Option Addr} {m cc : Nat} {cl : Nat → Int} {a2 : Option Addr} {n c2 : Nat} {f : Nat → Int} {runs : Int} {x0 x1 x2 x6 x7 x8 x9 : Value}
    (h1 : Cloned .i32 w.heap.size wc a' m cc cl) (hn : Cloned .i64 (wc.alloc (.cells #[.slice none 0 0, .slice a' m cc] 49)).heap.size wn a2 n c2 f) (hb : Below (wc.alloc (.cells #[.slice none 0 0, .slice a' m cc] 49)).heap.size (wc.alloc (.cells #[.slice none 0 0, .slice a' m cc] 49)) wn) :
    Tally (wn.alloc (.cells #[x0, x1, x2, .slice a2 n c2, .pointer (some ⟨wc.heap.size, 0, none⟩), .int .i64 runs, x6, x7, x8, x9] 59)) wn.heap.size wc.heap.size (.slice a2 n c2) (.slice a' m cc) n m f cl runs := by
  have hT := Blk.new wn 59 #[x0, x1, x2, .slice a2 n c2, .pointer (some ⟨wc.heap.size, 0, none⟩), .int .i64 runs, x6, x7, x8, x9]
  have hs := hb.size
  simp only [World.size_alloc] at hs hn
  have hD := ((Blk.new wc 49 #[.slice none 0 0, .slice a' m cc]).below hb (by simp)).alloc (.cells #[x0, x1, x2, .slice a2 n c2, .pointer (some ⟨wc.heap.size, 0, none⟩), .int .i64 runs, x6, x7, x8, x9] 59)
  refine ⟨⟨hT.cell 3, hT.cell 4, hT.cell 5⟩, hT.frozen, hT.lt, by omega, hD.cell 1, ?_, ?_⟩
  · rcases hn with ⟨rfl, rfl, rfl⟩ | ⟨g, rfl, hg, hR⟩
    · exact .inl ⟨rfl, rfl⟩
    · exact .inr ⟨g, c2, rfl, by omega, by have := hR.2.2; omega, hR.alloc _⟩
  · rcases h1 with ⟨rfl, rfl, rfl⟩ | ⟨g, rfl, hg, hR⟩
    · exact .inl ⟨rfl, rfl⟩
    · exact .inr ⟨g, cc, rfl, hR.2.2, ((hR.alloc _).below hb (by have := hR.2.2; simp; omega)).alloc _⟩

end Go.Proofs.Ybulkbfdo
