import Derived.Test.YbulkbfcmFmtLeaf
namespace Go.Proofs.YbulkbfcmFmt
open Go.RowKit
set_option linter.unusedSimpArgs false

theorem mul64_small (x y M : Nat) (h : x * y = M) (hM : M ≤ 1000000000000000) (hx : x ≤ 1000000000000000) (hy : y ≤ 1000000000000000) (w : World) :
    Calls Ybaf.prog 17 #[.int .u64 x, .int .u64 y] w fun e w' => e = .returned (.tuple #[.int .u64 0, .int .u64 M]) ∧ w' = w := by
  have := mul64_any x y (by omega) (by omega) w
  rw [h] at this
  have e1 : M / 18446744073709551616 = 0 := by omega
  have e2 : M % 18446744073709551616 = M := by omega
  rw [e1, e2] at this
  exact this

set_option maxHeartbeats 400000 in
theorem shift_core (c : Int) (n Pw M : Nat) (h1 : -1000000000000000 ≤ c) (h2 : c ≤ 1000000000000000) (hn : n ≤ 6) (hP : Pw ≤ 1000000) (hM : Hid (c.natAbs * Pw = M)) (hM' : M ≤ 1000000000000000)
    (w : World) (hp : w.cell? ⟨2, n, none⟩ = some (.int .u64 Pw)) :
    Calls Ybaf.prog 16 #[.int .i64 c, .int .i64 n] w fun e w' => e = .returned (.tuple #[.int .i64 (if c < 0 then -(M : Int) else M), .nilIface]) ∧ ∃ k, w' = w.drewN k := by
  have hn' : (n : Int) < 20 := by omega
  go_enter Ybaf.func16, Ybaf.ntmps16
  go_wp2
  go_quiet (first | (go_at_call 18; exact Calls.quiet_of_same (mag_any _ (by omega) (by omega) _)) | (go_at_call 17; exact Calls.quiet_of_same (mul64_small _ _ _ hM.out (by omega) (by omega) (by omega) _)))
  go_wp2
  all_goals (go_ret2; exact ⟨rfl, nq, rfl⟩)

/-- The table of powers as the walk wants it. -/
def Tab (w : World) : Prop := ∀ j : Nat, j ≤ 6 → w.cell? ⟨2, j, none⟩ = some (.int .u64 ((10 ^ j : Nat) : Int))

theorem Tab.below {B : Nat} {w w' : World} (hT : Tab w) (hB : 2 < B) (h : Below B w w') : Tab w' := fun j hj => (h.cell (p := ⟨2, j, none⟩) hB).trans (hT j hj)

theorem pow_leN (n : Nat) (h : n ≤ 6) : 1 ≤ 10 ^ n ∧ 10 ^ n ≤ 1000000 := by
  match n, h with
  | 0, _ | 1, _ | 2, _ | 3, _ | 4, _ | 5, _ | 6, _ => decide

theorem shift_any (c : Int) (n : Nat) (R : Int) (hR : R = c * 10 ^ n) (h1 : -1000000000000000 ≤ c) (h2 : c ≤ 1000000000000000) (hn : n ≤ 6) (r1 : -1000000000000000 ≤ R) (r2 : R ≤ 1000000000000000) (w : World) (hT : Tab w) :
    Calls Ybaf.prog 16 #[.int .i64 c, .int .i64 n] w fun e w' => e = .returned (.tuple #[.int .i64 R, .nilIface]) ∧ ∃ k, w' = w.drewN k := by
  have hb := pow_leN n hn
  have hA : c.natAbs * 10 ^ n = R.natAbs := by rw [hR, Int.natAbs_mul, Int.natAbs_pow]; rfl
  refine (shift_core c n (10 ^ n) R.natAbs h1 h2 hn hb.2 hA (by omega) w (hT n hn)).mono ?_
  rintro e w' ⟨rfl, hw⟩
  refine ⟨?_, hw⟩
  have e2 : (if c < 0 then -((R.natAbs : Nat) : Int) else (R.natAbs : Int)) = R := by
    have hp : (0 : Int) < 10 ^ n := by have := pow_le n hn; omega
    split
    · rename_i hc
      have : R < 0 := by rw [hR]; exact Int.mul_neg_of_neg_of_pos hc hp
      omega
    · rename_i hc
      have : 0 ≤ R := by rw [hR]; exact Int.mul_nonneg (by omega) (by omega)
      omega
  rw [e2]

theorem shift_int (c m : Int) (n : Nat) (R : Int) (hm : m = (n : Int)) (hR : R = c * 10 ^ n) (h1 : -1000000000000000 ≤ c) (h2 : c ≤ 1000000000000000) (hn : n ≤ 6) (r1 : -1000000000000000 ≤ R) (r2 : R ≤ 1000000000000000) (w : World) (hT : Tab w) :
    Calls Ybaf.prog 16 #[.int .i64 c, .int .i64 m] w fun e w' => e = .returned (.tuple #[.int .i64 R, .nilIface]) ∧ ∃ k, w' = w.drewN k := by
  subst hm; exact shift_any c n R hR h1 h2 hn r1 r2 w hT

set_option maxHeartbeats 400000 in
theorem rescale_any (c : Int) (s t n : Nat) (R : Int) (hst : Hid (n = t - s)) (hR : Hid (R = c * 10 ^ n)) (h1 : -1000000000000000 ≤ c) (h2 : c ≤ 1000000000000000) (hs : s ≤ t) (ht : t ≤ 6) (r1 : -1000000000000000 ≤ R) (r2 : R ≤ 1000000000000000)
    (w : World) (hT : Tab w) (hw : 2 < w.heap.size) :
    Calls Ybaf.prog 15 #[.agg #[.int .i64 c, .int .u8 s], .int .i64 t] w fun e w' => e = .returned (.tuple #[.agg #[.int .i64 R, .int .u8 t], .nilIface]) ∧ Below w.heap.size w w' := by
  have k1 : decide ((t : Int) < 0) = false := by simp
  have k2 : decide (18 < (t : Int)) = false := by simp; omega
  have k3 : ¬ t < s := by omega
  go_enter Ybaf.func15, Ybaf.ntmps15
  go_wp2_with (go_at_call 16; refine (shift_int _ _ n R (by have := hst.out; omega) hR.out h1 h2 (by have := hst.out; omega) r1 r2 _ (hT.below hw (((Below.refl _ _).alloc (Nat.le_refl _) _).alloc (by simp) _))).mono ?_; rintro e w' ⟨rfl, k, rfl⟩)
  exact bodyPost_ret (v := .tuple #[.agg #[.int .i64 R, .int .u8 t], .nilIface]) (by simp [results, Ybaf.results15, go_sem]) rfl
    ⟨rfl, ((below_drewN (((Below.refl _ _).alloc (Nat.le_refl _) _).alloc (by simp) _) k).setCell (by simp) _).setCell (by simp) _⟩

theorem bcell {W w1 : World} (hb : Below W.heap.size W w1) : (∀ b o, b < W.heap.size → w1.cell? ⟨b, o, none⟩ = W.cell? ⟨b, o, none⟩) ∧ (∀ b o, b < W.heap.size → w1.frozen? ⟨b, o, none⟩ = W.frozen? ⟨b, o, none⟩) :=
  ⟨fun b o h => hb.cell (p := ⟨b, o, none⟩) h, fun b o h => hb.frozen (p := ⟨b, o, none⟩) h⟩

theorem bel2 (w : World) (a b : Obj) : Below w.heap.size w ((w.alloc a).alloc b) := ((Below.refl _ _).alloc (Nat.le_refl _) _).alloc (by simp) _
theorem bel3 (w : World) (a b c : Obj) : Below w.heap.size w (((w.alloc a).alloc b).alloc c) := (bel2 w a b).alloc (by simp; omega) _
theorem bel4 (w : World) (a b c d : Obj) : Below w.heap.size w ((((w.alloc a).alloc b).alloc c).alloc d) := (bel3 w a b c).alloc (by simp; omega) _

/-- Behind a call that keeps what was there: the four boxes that align has laid. -/
theorem boxes4 {w w1 : World} {a0 a1 b0 b1 c0 c1 d0 d1 : Value} (hb : Below ((((w.alloc (.cells #[a0, a1] 26)).alloc (.cells #[b0, b1] 26)).alloc (.cells #[c0, c1] 26)).alloc (.cells #[d0, d1] 26)).heap.size ((((w.alloc (.cells #[a0, a1] 26)).alloc (.cells #[b0, b1] 26)).alloc (.cells #[c0, c1] 26)).alloc (.cells #[d0, d1] 26)) w1) :
    (w1.cell? ⟨w.heap.size, 0, none⟩ = some a0 ∧ w1.cell? ⟨w.heap.size, 1, none⟩ = some a1 ∧ w1.cell? ⟨w.heap.size + 1, 0, none⟩ = some b0 ∧ w1.cell? ⟨w.heap.size + 1, 1, none⟩ = some b1 ∧
      w1.cell? ⟨w.heap.size + 1 + 1, 0, none⟩ = some c0 ∧ w1.cell? ⟨w.heap.size + 1 + 1, 1, none⟩ = some c1 ∧ w1.cell? ⟨w.heap.size + 1 + 1 + 1, 0, none⟩ = some d0 ∧ w1.cell? ⟨w.heap.size + 1 + 1 + 1, 1, none⟩ = some d1) ∧
    (∀ o, w1.frozen? ⟨w.heap.size, o, none⟩ = false) ∧ (∀ o, w1.frozen? ⟨w.heap.size + 1, o, none⟩ = false) ∧ (∀ o, w1.frozen? ⟨w.heap.size + 1 + 1, o, none⟩ = false) ∧ (∀ o, w1.frozen? ⟨w.heap.size + 1 + 1 + 1, o, none⟩ = false) := by
  obtain ⟨hc, hf⟩ := bcell hb
  simp only [World.size_alloc] at hc hf
  refine ⟨⟨?_, ?_, ?_, ?_, ?_, ?_, ?_, ?_⟩, fun o => ?_, fun o => ?_, fun o => ?_, fun o => ?_⟩
  all_goals first | rw [hc _ _ (by omega)] | rw [hf _ _ (by omega)]
  all_goals repeat first | rw [World.cell?_alloc_past _ _ _ (by simp only [World.size_alloc]; omega)] | rw [World.frozen?_alloc_past _ _ _ (by simp only [World.size_alloc]; omega)]
  all_goals first | (rw [World.cell?_alloc_at _ _ _ _ (by simp only [World.size_alloc])]; rfl) | rw [World.frozen?_alloc_at _ _ _ _ (by simp only [World.size_alloc])]

set_option maxHeartbeats 400000 in
theorem align_same (c d : Int) (s : Int) (w : World) :
    Calls Ybaf.prog 14 #[.agg #[.int .i64 c, .int .u8 s], .agg #[.int .i64 d, .int .u8 s]] w fun e w' => e = .returned (.tuple #[.agg #[.int .i64 c, .int .u8 s], .agg #[.int .i64 d, .int .u8 s], .nilIface]) ∧ Below w.heap.size w w' := by
  go_enter Ybaf.func14, Ybaf.ntmps14
  go_wp2_with fail
  go_region
  go_wp2
  exact bodyPost_ret (v := .tuple #[.agg #[.int .i64 c, .int .u8 s], .agg #[.int .i64 d, .int .u8 s], .nilIface]) (by simp [results, Ybaf.results14, go_sem]) rfl ⟨rfl, (bel4 _ _ _ _ _).drew⟩

set_option maxHeartbeats 400000 in
theorem align_any (c d : Int) (s t m n1 n2 : Nat) (R1 R2 : Int) (hn1 : Hid (n1 = m - s)) (hn2 : Hid (n2 = m - t)) (hm : Hid (m = max s t)) (hR1 : Hid (R1 = c * 10 ^ n1)) (hR2 : Hid (R2 = d * 10 ^ n2)) (h1 : -1000000000000000 ≤ c) (h2 : c ≤ 1000000000000000) (h3 : -1000000000000000 ≤ d) (h4 : d ≤ 1000000000000000) (hs : s ≤ 6) (ht : t ≤ 6) (r1 : -1000000000000000 ≤ R1) (r2 : R1 ≤ 1000000000000000) (r3 : -1000000000000000 ≤ R2) (r4 : R2 ≤ 1000000000000000)
    (w : World) (hT : Tab w) (hw : 2 < w.heap.size) :
    Calls Ybaf.prog 14 #[.agg #[.int .i64 c, .int .u8 s], .agg #[.int .i64 d, .int .u8 t]] w fun e w' => e = .returned (.tuple #[.agg #[.int .i64 R1, .int .u8 m], .agg #[.int .i64 R2, .int .u8 m], .nilIface]) ∧ Below w.heap.size w w' := by
  rcases Nat.lt_trichotomy s t with hlt | heq | hgt
  · have hc : (s : Int) < t := by omega
    obtain rfl : m = t := by have := hm.out; omega
    obtain rfl : R2 = d := by have h := hR2.out; have := hn2.out; rw [h, show n2 = 0 by omega]; simp
    go_enter Ybaf.func14, Ybaf.ntmps14
    go_wp2_with fail
    refine (rescale_any _ _ _ n1 R1 hn1 hR1 h1 h2 (by omega) ht r1 r2 _ (hT.below hw (bel4 _ _ _ _ _)) (by simp <;> omega)).mono ?_
    rintro e w1 ⟨rfl, hb⟩
    obtain ⟨⟨q0, q1, q2, q3, q4, q5, q6, q7⟩, f0, f1, f2, f3⟩ := boxes4 hb
    have hz := hb.size
    simp at hz
    clear hn1 hn2 hR1 hR2 hT hm
    go_wp2_with fail
    go_region
    go_wp2
    exact bodyPost_ret (v := .tuple #[.agg #[.int .i64 R1, .int .u8 m], .agg #[.int .i64 R2, .int .u8 m], .nilIface]) (by simp [results, Ybaf.results14, go_sem, q0, q1, q2, q3, q4, q5, q6, q7]) rfl
      ⟨rfl, (((((((bel4 _ _ _ _ _).trans (hb.mono (by simp <;> omega))).setCell (by simp) _).setCell (by simp) _).setCell (by simp <;> omega) _).setCell (by simp <;> omega) _).setCell (by simp <;> omega) _).setCell (by simp <;> omega) _ |>.drew⟩
  · subst heq
    obtain rfl : m = s := by have := hm.out; omega
    obtain rfl : R2 = d := by have h := hR2.out; have := hn2.out; rw [h, show n2 = 0 by omega]; simp
    obtain rfl : R1 = c := by have h := hR1.out; have := hn1.out; rw [h, show n1 = 0 by omega]; simp
    exact align_same R1 R2 m w
  · have hc : (t : Int) < s := by omega
    have hc' : ¬ (s : Int) < t := by omega
    obtain rfl : m = s := by have := hm.out; omega
    obtain rfl : R1 = c := by have h := hR1.out; have := hn1.out; rw [h, show n1 = 0 by omega]; simp
    go_enter Ybaf.func14, Ybaf.ntmps14
    go_wp2_with fail
    refine (rescale_any _ _ _ n2 R2 hn2 hR2 h3 h4 (by omega) hs r3 r4 _ (hT.below hw (bel4 _ _ _ _ _)) (by simp <;> omega)).mono ?_
    rintro e w1 ⟨rfl, hb⟩
    obtain ⟨⟨q0, q1, q2, q3, q4, q5, q6, q7⟩, f0, f1, f2, f3⟩ := boxes4 hb
    have hz := hb.size
    simp at hz
    clear hn1 hn2 hR1 hR2 hT hm
    go_wp2_with fail
    go_region
    go_wp2
    exact bodyPost_ret (v := .tuple #[.agg #[.int .i64 R1, .int .u8 m], .agg #[.int .i64 R2, .int .u8 m], .nilIface]) (by simp [results, Ybaf.results14, go_sem, q0, q1, q2, q3, q4, q5, q6, q7]) rfl
      ⟨rfl, (((((((bel4 _ _ _ _ _).trans (hb.mono (by simp <;> omega))).setCell (by simp) _).setCell (by simp) _).setCell (by simp <;> omega) _).setCell (by simp <;> omega) _).setCell (by simp <;> omega) _).setCell (by simp <;> omega) _ |>.drew⟩

/-- Behind a call that keeps what was there: the three boxes that Add has laid. -/
theorem boxes3 {w w1 : World} {a0 a1 b0 b1 c0 c1 : Value} (hb : Below (((w.alloc (.cells #[a0, a1] 26)).alloc (.cells #[b0, b1] 26)).alloc (.cells #[c0, c1] 26)).heap.size (((w.alloc (.cells #[a0, a1] 26)).alloc (.cells #[b0, b1] 26)).alloc (.cells #[c0, c1] 26)) w1) :
    (w1.cell? ⟨w.heap.size, 0, none⟩ = some a0 ∧ w1.cell? ⟨w.heap.size, 1, none⟩ = some a1 ∧ w1.cell? ⟨w.heap.size + 1, 0, none⟩ = some b0 ∧ w1.cell? ⟨w.heap.size + 1, 1, none⟩ = some b1 ∧
      w1.cell? ⟨w.heap.size + 1 + 1, 0, none⟩ = some c0 ∧ w1.cell? ⟨w.heap.size + 1 + 1, 1, none⟩ = some c1) ∧
    (∀ o, w1.frozen? ⟨w.heap.size, o, none⟩ = false) ∧ (∀ o, w1.frozen? ⟨w.heap.size + 1, o, none⟩ = false) ∧ (∀ o, w1.frozen? ⟨w.heap.size + 1 + 1, o, none⟩ = false) := by
  obtain ⟨hc, hf⟩ := bcell hb
  simp only [World.size_alloc] at hc hf
  refine ⟨⟨?_, ?_, ?_, ?_, ?_, ?_⟩, fun o => ?_, fun o => ?_, fun o => ?_⟩
  all_goals first | rw [hc _ _ (by omega)] | rw [hf _ _ (by omega)]
  all_goals repeat first | rw [World.cell?_alloc_past _ _ _ (by simp only [World.size_alloc]; omega)] | rw [World.frozen?_alloc_past _ _ _ (by simp only [World.size_alloc]; omega)]
  all_goals first | (rw [World.cell?_alloc_at _ _ _ _ (by simp only [World.size_alloc])]; rfl) | rw [World.frozen?_alloc_at _ _ _ _ (by simp only [World.size_alloc])]

def AlignSays (w : World) (c d : Int) (s t : Int) (R1 R2 m : Int) : Prop := ∀ W : World, Below w.heap.size w W →
    Calls Ybaf.prog 14 #[.agg #[.int .i64 c, .int .u8 s], .agg #[.int .i64 d, .int .u8 t]] W fun e w' => e = .returned (.tuple #[.agg #[.int .i64 R1, .int .u8 m], .agg #[.int .i64 R2, .int .u8 m], .nilIface]) ∧ Below W.heap.size W w'

theorem dec_no {p : Prop} [Decidable p] (h : ¬ p) : decide p = false := by simpa using h
theorem dec_yes {p : Prop} [Decidable p] (h : p) : decide p = true := by simpa using h

set_option maxHeartbeats 1000000 in
theorem add_ok (c d s t R1 R2 m : Int) (w : World) (H : AlignSays w c d s t R1 R2 m) (u1 : -9223372036854775807 ≤ R1 + R2) (u2 : R1 + R2 ≤ 9223372036854775807) :
    Calls Ybaf.prog 11 #[.agg #[.int .i64 c, .int .u8 s], .agg #[.int .i64 d, .int .u8 t]] w fun e w' => e = .returned (.tuple #[.agg #[.int .i64 (R1 + R2), .int .u8 m], .nilIface]) ∧ Below w.heap.size w w' := by
  have kS : (R1 + R2 == -9223372036854775808) = false := by simp; omega
  go_enter Ybaf.func11, Ybaf.ntmps11
  go_wp2_with fail
  refine (H _ (bel3 _ _ _ _)).mono ?_
  rintro e w1 ⟨rfl, hb⟩
  obtain ⟨⟨q0, q1, q2, q3, q4, q5⟩, f0, f1, f2⟩ := boxes3 hb
  have hz := hb.size
  simp at hz
  clear H
  by_cases g1 : 0 ≤ R1
  all_goals by_cases g2 : 0 ≤ R2
  all_goals by_cases g3 : 0 ≤ R1 + R2
  all_goals first | (exfalso; omega) | skip
  all_goals go_wp2
  all_goals
    exact bodyPost_ret (v := .tuple #[.agg #[.int .i64 (R1 + R2), .int .u8 m], .nilIface]) (by simp [results, Ybaf.results11, go_sem, q0, q1, q2, q3, q4, q5]) rfl
      ⟨rfl, (((((((bel3 _ _ _ _).trans (hb.mono (by simp <;> omega))).setCell (by simp) _).setCell (by simp) _).setCell (by simp <;> omega) _).setCell (by simp <;> omega) _).setCell (by simp <;> omega) _).setCell (by simp <;> omega) _⟩

end Go.Proofs.YbulkbfcmFmt
