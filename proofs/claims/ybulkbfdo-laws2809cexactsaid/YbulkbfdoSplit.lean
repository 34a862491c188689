import Derived.Test.YbulkbfdoTally
namespace Go.Proofs.Ybulkbfdo
open Go.RowKit
set_option linter.unusedSimpArgs false

theorem Tally.cells {w : World} {T Dd : Nat} {v cv : Value} {n m : Nat} {f cl : Nat → Int} {runs : Int} (h : Tally w T Dd v cv n m f cl runs) :
    w.cell? ⟨T, 3, none⟩ = some v ∧ w.cell? ⟨T, 4, none⟩ = some (.pointer (some ⟨Dd, 0, none⟩)) ∧ w.cell? ⟨T, 5, none⟩ = some (.int .i64 runs) ∧ w.frozen? ⟨T, 5, none⟩ = false ∧ T < w.heap.size ∧ Dd < T := ⟨h.1.1, h.1.2.1, h.1.2.2, h.2.1 5, h.2.2.1, h.2.2.2.1⟩

set_option maxRecDepth 100000 in
set_option maxHeartbeats 1000000 in
theorem split_core (a0 : Option Addr) (n cap0 : Nat) (f : Nat → Int) (a1 : Option Addr) (m cap1 : Nat) (cl : Nat → Int) (x y : Int) (hn : n ≤ 1024) (hm : m ≤ 1025) (hf : ∀ j, wrap64 (f j) = f j) (w : World) (h0 : Arg .i64 w a0 n cap0 f) (h1 : Arg .i32 w a1 m cap1 cl) :
    Calls Yba.prog 6 #[.slice a0 n cap0, .slice a1 m cap1, .int .i64 x, .int .i64 y] w fun e w' => e = .returned (.bool true) ∧ Below w.heap.size w w' := by
  have H0 : Hid (Arg .i64 w a0 n cap0 f) := h0
  have H1 : Hid (Arg .i32 w a1 m cap1 cl) := h1
  have HF : Hid (∀ j, wrap64 (f j) = f j) := hf
  have hn' : ¬ 1024 < (n : Int) := by omega
  have hm' : ¬ 1025 < (m : Int) := by omega
  have dn : decide (1024 < (n : Int)) = false := by simpa using hn'
  have dm : decide (1025 < (m : Int)) = false := by simpa using hm'
  clear h0 h1 hf
  go_enter Yba.func6, Yba.ntmps6
  go_wp2_with fail
  refine (clone32_any a1 m cap1 cl hm _ H1.out).mono ?_
  rintro e w1 ⟨b1, c1, rfl, -, hC1, hb1⟩
  have HC1 : Hid (Cloned .i32 w.heap.size w1 b1 m c1 cl) := hC1
  clear hC1
  go_wp2_with fail
  have hB1 : Below w.heap.size w (w1.alloc (.cells #[.slice none 0 0, .slice b1 m c1] 49)) := hb1.alloc hb1.size _
  refine (clone64_any a0 n cap0 f (by omega) _ (H0.out.below hB1)).mono ?_
  rintro e w2 ⟨b2, c2, rfl, -, hC2, hb2⟩
  have HT0 := fun x0 x1 x2 x6 x7 x8 x9 => tally_new (x0 := x0) (x1 := x1) (x2 := x2) (x6 := x6) (x7 := x7) (x8 := x8) (x9 := x9) (runs := x) HC1.out hC2 hb2
  have HTH : Hid (∀ x0 x1 x2 x6 x7 x8 x9 : Value, Tally (w2.alloc (.cells #[x0, x1, x2, .slice b2 n c2, .pointer (some ⟨w1.heap.size, 0, none⟩), .int .i64 x, x6, x7, x8, x9] 59)) w2.heap.size w1.heap.size (.slice b2 n c2) (.slice b1 m c1) n m f cl x) := HT0
  have hB2 : Below w.heap.size w w2 := hB1.trans (hb2.mono (by simp; have := hb1.size; omega))
  have hz1 := hb1.size
  clear HT0 hC2 hb2 hb1
  go_wp2_with fail
  refine (sum_any w2.heap.size w1.heap.size b2 n c2 b1 m c1 f cl x hn hm (ext_fits n f HF.out) _ (HTH.out _ _ _ _ _ _ _)).mono ?_
  rintro e w3 ⟨rfl, ⟨a3, c3, n3, f3, hT3, hn3, hf3, -, -⟩, hb3⟩
  obtain ⟨t3, t4, t5, tf5, hTs, hDs⟩ := hT3.cells
  have HT3 : Hid (Tally w3 w2.heap.size w1.heap.size (.slice a3 n3 c3) (.slice b1 m c1) n3 m f3 cl 0) := hT3
  have HF3 : Hid (∀ j, ext n3 f3 j = acc x cl (ext n f) (m - 1) j) := hf3
  have hB3 : Below w.heap.size w w3 := (hB2.alloc hB2.size _).trans (hb3.mono (by omega))
  clear hT3 hf3 hb3 HTH t3 t4
  go_wp2_with fail
  refine (sum_any w2.heap.size w1.heap.size a3 n3 c3 b1 m c1 f3 cl y hn3 hm (fun j => by rw [HF3.out j]; exact acc_fits _ _ _ _ (ext_fits n f HF.out) j) _ (HT3.out.done y)).mono ?_
  rintro e w5 ⟨rfl, ⟨a4, c4, n4, f4, hT4, hn4, hf4, -, -⟩, hb5⟩
  have HT4 : Hid (Tally w5 w2.heap.size w1.heap.size (.slice a4 n4 c4) (.slice b1 m c1) n4 m f4 cl 0) := hT4
  have HF4 : Hid (∀ j, ext n4 f4 j = acc y cl (ext n3 f3) (m - 1) j) := hf4
  have hB5 : Below w.heap.size w w5 := (hB3.setCell (by show w.heap.size ≤ w2.heap.size; omega) _).trans (hb5.mono (by omega))
  clear hT4 hf4 hb5 t5 tf5 HT3
  go_wp2_with fail
  refine (clone32_any a1 m cap1 cl hm _ (H1.out.below hB5)).mono ?_
  rintro e w6 ⟨b6, c6, rfl, -, hC6, hb6⟩
  have HC6 : Hid (Cloned .i32 w5.heap.size w6 b6 m c6 cl) := hC6
  have hz6 := hb6.size
  have hz5 := hB5.size
  clear hC6
  go_wp2_with fail
  have hB6 : Below w5.heap.size w5 (w6.alloc (.cells #[.slice none 0 0, .slice b6 m c6] 49)) := hb6.alloc hb6.size _
  have hB6' : Below w.heap.size w (w6.alloc (.cells #[.slice none 0 0, .slice b6 m c6] 49)) := hB5.trans (hB6.mono hz5)
  refine (clone64_any a0 n cap0 f (by omega) _ (H0.out.below hB6')).mono ?_
  rintro e w7 ⟨b7, c7, rfl, -, hC7, hb7⟩
  have HT7 := fun x0 x1 x2 x6 x7 x8 x9 => tally_new (x0 := x0) (x1 := x1) (x2 := x2) (x6 := x6) (x7 := x7) (x8 := x8) (x9 := x9) (runs := wrap64 (x + y)) HC6.out hC7 hb7
  have HTH : Hid (∀ x0 x1 x2 x6 x7 x8 x9 : Value, Tally (w7.alloc (.cells #[x0, x1, x2, .slice b7 n c7, .pointer (some ⟨w6.heap.size, 0, none⟩), .int .i64 (wrap64 (x + y)), x6, x7, x8, x9] 59)) w7.heap.size w6.heap.size (.slice b7 n c7) (.slice b6 m c6) n m f cl (wrap64 (x + y))) := HT7
  have hB7 : Below w5.heap.size w5 w7 := hB6.trans (hb7.mono (by simp; omega))
  clear HT7 hC7 hb7 hb6 hB6 hB6'
  go_wp2_with fail
  refine (sum_any w7.heap.size w6.heap.size b7 n c7 b6 m c6 f cl (wrap64 (x + y)) hn hm (ext_fits n f HF.out) _ (HTH.out _ _ _ _ _ _ _)).mono ?_
  rintro e w9 ⟨rfl, ⟨a8, c8, n8, f8, hT8, hn8, hf8, -, -⟩, hb9⟩
  have hB9' : Below w5.heap.size w5 w9 := (hB7.alloc hB7.size _).trans (hb9.mono (by omega))
  have hB9 : Below w.heap.size w w9 := hB5.trans (hB9'.mono hz5)
  have hT9 := HT4.out.below hB9'
  have HEQ : Hid (∀ j, ext n4 f4 j = ext n8 f8 j) := fun j => by
    rw [HF4.out j, hf8 j, show ext n3 f3 = acc x cl (ext n f) (m - 1) from funext HF3.out]
    exact acc_split x y cl (ext n f) (m - 1) j
  obtain ⟨t3, -, t5, -, -, -⟩ := hT9.cells
  obtain ⟨s3, -, s5, -, -, -⟩ := hT8.cells
  have HN4 : Hid (NS w9 w2.heap.size w1.heap.size (.slice a4 n4 c4) n4 f4) := hT9.2.2.2.2.2.1
  have HN8 : Hid (NS w9 w7.heap.size w6.heap.size (.slice a8 n8 c8) n8 f8) := hT8.2.2.2.2.2.1
  clear hT9 hT8 hf8 hb9 hB9' hB7 HTH HC6 HC1 HF4 HF3 HT4 H0 H1 HF hB1 hB2 hB3 hB5
  by_cases hc : n4 < n8
  · have hc' : (n4 : Int) < n8 := by omega
    go_wp2_with fail
    go_loopw [14] (fun iv wx => ∃ k : Nat, k ≤ n8 ∧ iv = .int .i64 k ∧ wx.cell? ⟨w2.heap.size, 3, none⟩ = some (.slice a4 n4 c4) ∧ wx.cell? ⟨w7.heap.size, 3, none⟩ = some (.slice a8 n8 c8) ∧ Hid (NS wx w2.heap.size w1.heap.size (.slice a4 n4 c4) n4 f4) ∧ Hid (NS wx w7.heap.size w6.heap.size (.slice a8 n8 c8) n8 f8) ∧ Below w.heap.size w wx) (fun iv _ => n8 - (intOf iv).toNat)
    case atStart => exact ⟨0, Nat.zero_le _, rfl, t3, s3, HN4, HN8, hB9⟩
    case round =>
      clear t3 s3 t5 s5 HN4 HN8
      obtain ⟨k, hk, rfl, t3, s3, HN4, HN8, hB10⟩ := hrel
      by_cases hlt : k < n8
      · have k1 := fun (q : Nat) => cat_any w2.heap.size w1.heap.size (.slice a4 n4 c4) n4 k f4 (wr.drewN q) HN4.out
        have k2 := fun (q : Nat) => cat_any w7.heap.size w6.heap.size (.slice a8 n8 c8) n8 k f8 (wr.drewN q) HN8.out
        rw [HEQ.out k] at k1
        have K1 : Hid (∀ q : Nat, Calls Yba.prog 18 #[.slice a4 n4 c4, .int .i64 k] (wr.drewN q) fun e w' => e = .returned (.int .i64 (ext n8 f8 k)) ∧ w' = wr.drewN q) := k1
        have K2 : Hid (∀ q : Nat, Calls Yba.prog 18 #[.slice a8 n8 c8, .int .i64 k] (wr.drewN q) fun e w' => e = .returned (.int .i64 (ext n8 f8 k)) ∧ w' = wr.drewN q) := k2
        clear k1 k2
        go_wp2_with fail
        go_quiet (first | (go_at_call_of 18 (Value.slice a4 n4 c4); exact Calls.quiet_of_same (K1.out _)) | (go_at_call_of 18 (Value.slice a8 n8 c8); exact Calls.quiet_of_same (K2.out _)))
        go_wp2
        go_roundw
        case rel => exact ⟨k + 1, by omega, by go_num, t3, s3, HN4, HN8, below_drewN hB10 _⟩
        case measure => simp [intOf]; omega
      · go_wp2
        go_ret
        exact ⟨rfl, hB10⟩
  · have hc' : ¬ (n4 : Int) < n8 := by omega
    go_wp2_with fail
    go_loopw [14] (fun iv wx => ∃ k : Nat, k ≤ n4 ∧ iv = .int .i64 k ∧ wx.cell? ⟨w2.heap.size, 3, none⟩ = some (.slice a4 n4 c4) ∧ wx.cell? ⟨w7.heap.size, 3, none⟩ = some (.slice a8 n8 c8) ∧ Hid (NS wx w2.heap.size w1.heap.size (.slice a4 n4 c4) n4 f4) ∧ Hid (NS wx w7.heap.size w6.heap.size (.slice a8 n8 c8) n8 f8) ∧ Below w.heap.size w wx) (fun iv _ => n4 - (intOf iv).toNat)
    case atStart => exact ⟨0, Nat.zero_le _, rfl, t3, s3, HN4, HN8, hB9⟩
    case round =>
      clear t3 s3 t5 s5 HN4 HN8
      obtain ⟨k, hk, rfl, t3, s3, HN4, HN8, hB10⟩ := hrel
      by_cases hlt : k < n4
      · have k1 := fun (q : Nat) => cat_any w2.heap.size w1.heap.size (.slice a4 n4 c4) n4 k f4 (wr.drewN q) HN4.out
        have k2 := fun (q : Nat) => cat_any w7.heap.size w6.heap.size (.slice a8 n8 c8) n8 k f8 (wr.drewN q) HN8.out
        rw [HEQ.out k] at k1
        have K1 : Hid (∀ q : Nat, Calls Yba.prog 18 #[.slice a4 n4 c4, .int .i64 k] (wr.drewN q) fun e w' => e = .returned (.int .i64 (ext n8 f8 k)) ∧ w' = wr.drewN q) := k1
        have K2 : Hid (∀ q : Nat, Calls Yba.prog 18 #[.slice a8 n8 c8, .int .i64 k] (wr.drewN q) fun e w' => e = .returned (.int .i64 (ext n8 f8 k)) ∧ w' = wr.drewN q) := k2
        clear k1 k2
        go_wp2_with fail
        go_quiet (first | (go_at_call_of 18 (Value.slice a4 n4 c4); exact Calls.quiet_of_same (K1.out _)) | (go_at_call_of 18 (Value.slice a8 n8 c8); exact Calls.quiet_of_same (K2.out _)))
        go_wp2
        go_roundw
        case rel => exact ⟨k + 1, by omega, by go_num, t3, s3, HN4, HN8, below_drewN hB10 _⟩
        case measure => simp [intOf]; omega
      · go_wp2
        go_ret
        exact ⟨rfl, hB10⟩

end Go.Proofs.Ybulkbfdo
