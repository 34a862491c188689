import Derived.Test.YbulkbfdoEqual
import Derived.Test.YbulkbfdoSplit
import Derived.Lib.SliceRun
namespace Go.Proofs.Ybulkbfdo
open Go.RowKit
set_option linter.unusedSimpArgs false

theorem CS.cells {w : World} {Dd : Nat} {a : Option Addr} {m c : Nat} {f : Nat → Int} (h : CS w Dd (.slice a m c) m f) : Cells .i32 w a m f := fun j hj => by
  rcases h with ⟨_, h⟩ | ⟨g, c', e, _, hR⟩
  · omega
  · simp only [Value.slice.injEq] at e
    exact ⟨g, 0, e.1, hR.2.2, by simpa using hR.1 j hj⟩

set_option maxRecDepth 100000 in
set_option maxHeartbeats 1000000 in
theorem exact_core (a0 : Option Addr) (n cap0 : Nat) (f : Nat → Int) (a1 : Option Addr) (m cap1 : Nat) (cl : Nat → Int) (runs : Int) (hn : n ≤ 1024) (hm : m ≤ 1025) (hf : ∀ j, wrap64 (f j) = f j) (w : World) (h0 : Arg .i64 w a0 n cap0 f) (h1 : Arg .i32 w a1 m cap1 cl) :
    Calls Yba.prog 5 #[.slice a0 n cap0, .slice a1 m cap1, .int .i64 runs] w fun e w' => e = .returned (.bool true) ∧ Below w.heap.size w w' := by
  have H0 : Hid (Arg .i64 w a0 n cap0 f) := h0
  have H1 : Hid (Arg .i32 w a1 m cap1 cl) := h1
  have HF : Hid (∀ j, wrap64 (f j) = f j) := hf
  have hn' : ¬ 1024 < (n : Int) := by omega
  have hm' : ¬ 1025 < (m : Int) := by omega
  have dn : decide (1024 < (n : Int)) = false := by simpa using hn'
  have dm : decide (1025 < (m : Int)) = false := by simpa using hm'
  clear h0 h1 hf
  go_enter Yba.func5, Yba.ntmps5
  go_wp2_with fail
  refine (clone64_any a0 n cap0 f (by omega) _ H0.out).mono ?_
  rintro e wa ⟨b0, c0, rfl, hNa, hCa, hba⟩
  have HCa : Hid (Cloned .i64 w.heap.size wa b0 n c0 f) := hCa
  clear hCa
  go_wp2_with fail
  refine (clone32_any a1 m cap1 cl hm _ (H1.out.below hba)).mono ?_
  rintro e w1 ⟨b1, c1, rfl, -, hC1, hb1⟩
  have HC1 : Hid (Cloned .i32 wa.heap.size w1 b1 m c1 cl) := hC1
  have hza := hba.size
  clear hC1
  go_wp2_with fail
  have hB1a : Below wa.heap.size wa (w1.alloc (.cells #[.slice none 0 0, .slice b1 m c1] 49)) := hb1.alloc hb1.size _
  have hB1 : Below w.heap.size w (w1.alloc (.cells #[.slice none 0 0, .slice b1 m c1] 49)) := hba.trans (hB1a.mono hza)
  refine (clone64_any a0 n cap0 f (by omega) _ (H0.out.below hB1)).mono ?_
  rintro e w2 ⟨b2, c2, rfl, hNb, hC2, hb2⟩
  have HT0 := fun x0 x1 x2 x6 x7 x8 x9 => tally_new (x0 := x0) (x1 := x1) (x2 := x2) (x6 := x6) (x7 := x7) (x8 := x8) (x9 := x9) (runs := runs) HC1.out hC2 hb2
  have HTH : Hid (∀ x0 x1 x2 x6 x7 x8 x9 : Value, Tally (w2.alloc (.cells #[x0, x1, x2, .slice b2 n c2, .pointer (some ⟨w1.heap.size, 0, none⟩), .int .i64 runs, x6, x7, x8, x9] 59)) w2.heap.size w1.heap.size (.slice b2 n c2) (.slice b1 m c1) n m f cl runs) := HT0
  have hz1 := hb1.size
  have hB2a : Below wa.heap.size wa w2 := hB1a.trans (hb2.mono (by simp; omega))
  clear HT0 hC2 hb2 hb1
  go_wp2_with fail
  refine (sum_any w2.heap.size w1.heap.size b2 n c2 b1 m c1 f cl runs hn hm (ext_fits n f HF.out) _ (HTH.out _ _ _ _ _ _ _)).mono ?_
  rintro e w3 ⟨rfl, ⟨a3, c3, n3, f3, hT3, hn3, hf3, hr1, hr0⟩, hb3⟩
  obtain ⟨t3, t4, t5, tf5, hTs, hDs⟩ := hT3.cells
  have hB3a : Below wa.heap.size wa w3 := (hB2a.alloc hB2a.size _).trans (hb3.mono (by omega))
  have hB3 : Below w.heap.size w w3 := hba.trans (hB3a.mono hza)
  have C0 : Hid (Cells .i64 w3 b0 n f) := HCa.out.cells.below (hB3a)
  have C1 : Hid (Cells .i32 w3 b1 m cl) := hT3.2.2.2.2.2.2.cells
  have C3 : Hid (Cells .i64 w3 a3 n3 f3) := hT3.2.2.2.2.2.1.cells
  have CA : Hid (Cells .i32 w3 a1 m cl) := H1.out.cells.below hB3
  have HF3 : Hid (∀ j, ext n3 f3 j = acc runs cl (ext n f) (m - 1) j) := hf3
  have HR1 : Hid (runs ≠ 0 → n3 = max n (m - 1)) := hr1
  have HR0 : Hid (runs = 0 → a3 = b2 ∧ n3 = n) := hr0
  have HN : Hid (b2.isNone = b0.isNone) := hNb.trans hNa.symm
  have P := fun (wx : World) => ptr_neq wx ⟨w1.heap.size, 0, none⟩
  clear hf3 hr1 hr0 hNa hNb hT3 HTH hb3 hB3a hB1a hB1 hB2a HCa HC1 hba
  go_wp2_with fail
  refine (equal32 b1 m c1 a1 cap1 cl hm w3 C1.out CA.out).mono ?_
  rintro e w4 ⟨rfl, q4, hq4⟩
  have hb4 : Below w3.heap.size w3 w4 := by rw [hq4]; exact below_drewN (Below.refl _ _) _
  replace C0 : Hid (Cells .i64 w4 b0 n f) := C0.out.below hb4
  replace C1 : Hid (Cells .i32 w4 b1 m cl) := C1.out.below hb4
  replace C3 : Hid (Cells .i64 w4 a3 n3 f3) := C3.out.below hb4
  replace t3 := cell_later hb4 t3
  replace t4 := cell_later hb4 t4
  replace t5 := cell_later hb4 t5
  have hB4 : Below w.heap.size w w4 := hB3.trans (hb4.mono hB3.size)
  clear hb4 hq4 CA hB3 tf5 P
  by_cases hr : runs = 0
  · obtain ⟨ea, en⟩ := HR0.out hr
    subst hr
    subst ea
    subst en
    have C3' : Cells .i64 w4 a3 n3 f := C3.out.congr fun j hj => by
      have h1 := HF3.out j
      rw [ext_same hj, acc_zero _ _ _ _ (ext_fits n3 f HF.out j), ext_same hj] at h1
      exact h1
    go_wp2_with fail
    refine (equal64 a3 n3 c3 b0 c0 f (by omega) _ C3' C0.out).mono ?_
    rintro e w5 ⟨rfl, q5, hq5⟩
    have t3' : w5.cell? ⟨w2.heap.size, 3, none⟩ = some (.slice a3 n3 c3) := by rw [hq5]; simpa using t3
    have hB5 : Below w.heap.size w w5 := by rw [hq5]; exact below_drewN hB4 _
    clear hq5 t3 C3' C3 C0 C1
    have N1 := fun (wx : World) => Lib.run_eql_slice_nil (P := Yba.prog) wx 44 2 a3 n3 c3 0 0 Yba.underlying44
    have N2 := fun (wx : World) => Lib.run_eql_slice_nil (P := Yba.prog) wx 44 2 b0 n3 c0 0 0 Yba.underlying44
    rw [← HN.out] at N2
    cases hx : a3.isNone
    · rw [hx] at N1 N2
      go_wp2_with fail
      go_ret
      exact ⟨rfl, hB5⟩
    · rw [hx] at N1 N2
      go_wp2_with fail
      go_ret
      exact ⟨rfl, hB5⟩
  · have en := HR1.out hr
    have hr' : (runs == 0) = false := by simpa using hr
    clear hr
    by_cases hc : n < m - 1
    · have hc' : (n : Int) < (m : Int) - 1 := by omega
      obtain rfl : m = n3 + 1 := by omega
      have hc3 : n < n3 := by omega
      clear en
      go_wp2_with fail
      go_loopw [13] (fun iv wx => ∃ k : Nat, k ≤ n3 ∧ iv = .int .i64 k ∧ ∃ q, wx = w4.drewN q) (fun iv _ => n3 - (intOf iv).toNat)
      case atStart => exact ⟨0, Nat.zero_le _, rfl, 0, rfl⟩
      case round =>
        obtain ⟨k, hk, rfl, q, rfl⟩ := hrel
        by_cases hlt : k < n3
        · obtain ⟨b, o, ha, -, k3⟩ := C3.out k hlt
          have hv := HF3.out k
          rw [ext_same hlt] at hv
          rw [hv] at k3
          clear hv
          have hlt' : (k : Int) < n3 := by omega
          subst ha
          go_wp2_with fail
          refine (cat_cells b0 n c0 k f (w4.drewN q) (by simpa [Cells] using C0.out)).mono ?_
          rintro e wb ⟨rfl, rfl⟩
          by_cases hk1 : k < (n3 + 1 - 1)
          · obtain ⟨b, o, ha, -, k1⟩ := C1.out k (by omega)
            obtain ⟨b', o', ha', -, k2⟩ := C1.out (k + 1) (by omega)
            subst ha
            cases ha'
            have k1' : (k : Int) + 1 < ((n3 + 1 - 1) : Nat) + 1 := by omega
            simp only [acc, stepV] at k3
            rw [if_pos (show k < (n3 + 1 - 1) from hk1)] at k3
            go_wp2_with fail
            go_quiet (fail)
            go_wp2_with fail
            go_roundw
            case rel => exact ⟨k + 1, by omega, by go_num, _, rfl⟩
            case measure => simp [intOf]; omega
          · omega
        · go_wp2
          go_ret
          exact ⟨rfl, below_drewN hB4 _⟩
    · have hc' : ¬ (n : Int) < (m : Int) - 1 := by omega
      obtain rfl : n3 = n := by omega
      clear en
      go_wp2_with fail
      go_loopw [13] (fun iv wx => ∃ k : Nat, k ≤ n3 ∧ iv = .int .i64 k ∧ ∃ q, wx = w4.drewN q) (fun iv _ => n3 - (intOf iv).toNat)
      case atStart => exact ⟨0, Nat.zero_le _, rfl, 0, rfl⟩
      case round =>
        obtain ⟨k, hk, rfl, q, rfl⟩ := hrel
        by_cases hlt : k < n3
        · obtain ⟨b, o, ha, -, k3⟩ := C3.out k hlt
          have hv := HF3.out k
          rw [ext_same hlt] at hv
          rw [hv] at k3
          clear hv
          have hlt' : (k : Int) < n3 := by omega
          subst ha
          go_wp2_with fail
          refine (cat_cells b0 n3 c0 k f (w4.drewN q) (by simpa [Cells] using C0.out)).mono ?_
          rintro e wb ⟨rfl, rfl⟩
          by_cases hk1 : k < (m - 1)
          · obtain ⟨b, o, ha, -, k1⟩ := C1.out k (by omega)
            obtain ⟨b', o', ha', -, k2⟩ := C1.out (k + 1) (by omega)
            subst ha
            cases ha'
            have k1' : (k : Int) + 1 < ((m - 1) : Nat) + 1 := by omega
            simp only [acc, stepV] at k3
            rw [if_pos (show k < (m - 1) from hk1)] at k3
            go_wp2_with fail
            go_quiet (fail)
            go_wp2_with fail
            go_roundw
            case rel => exact ⟨k + 1, by omega, by go_num, _, rfl⟩
            case measure => simp [intOf]; omega
          · simp only [acc] at k3
            rw [if_neg (show ¬ k < (m - 1) from hk1)] at k3
            have hk1' : ¬ (k : Int) < (m : Int) - 1 := by omega
            go_wp2_with fail
            go_roundw
            case rel => exact ⟨k + 1, by omega, by go_num, _, rfl⟩
            case measure => simp [intOf]; omega
        · go_wp2
          go_ret
          exact ⟨rfl, below_drewN hB4 _⟩

end Go.Proofs.Ybulkbfdo
