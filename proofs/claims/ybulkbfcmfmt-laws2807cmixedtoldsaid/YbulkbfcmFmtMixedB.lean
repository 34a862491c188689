import Derived.Test.YbulkbfcmFmtMixed
namespace Go.Proofs.YbulkbfcmFmt
open Go.RowKit
set_option linter.unusedSimpArgs false
set_option linter.unusedVariables false

set_option maxHeartbeats 400000 in
theorem mixed_noscales (st ss : Int) (s0 : Nat) (hst : -32768 ≤ st ∧ st ≤ 32767) (hss : 0 ≤ ss ∧ ss ≤ 255) (hs0 : ss % 7 = (s0 : Int)) (b2 o2 n cap2 : Nat) (hn : n ≤ 1024) (c : Nat → Int) (hc : ∀ k, -32768 ≤ c k ∧ c k ≤ 32767)
    (a3 : Option Addr) (len3 cap3 : Nat) (hl0 : len3 ≤ 0) (z : Nat → Int) (hz : ∀ k, 0 ≤ z k ∧ z k ≤ 255) (t : Nat → Nat) (hzt : ∀ k, k < len3 → z k % 7 = (t k : Int)) (hzf : ∀ k, ¬ k < len3 → t k = 0) (w : World)
    (hT : Tab w) (hw : 2 < w.heap.size) (cell2 : ∀ k, k < n → b2 < w.heap.size ∧ w.cell? ⟨b2, o2 + k, none⟩ = some (.int .i16 (c k))) :
    Calls Ybaf.prog 4 #[.int .i16 st, .int .u8 ss, .slice (some ⟨b2, o2, none⟩) n cap2, .slice a3 len3 cap3] w fun e w' => e = .returned (.bool true) ∧ Below w.heap.size w w' := by
  obtain ⟨hs1, hs2⟩ := hst
  obtain ⟨hss1, hss2⟩ := hss
  have ht6 : ∀ k, t k ≤ 6 := fun k => by
    by_cases h : k < len3
    · have := hzt k h; have := hz k; omega
    · have := hzf k h; omega
  have h06 : s0 ≤ 6 := by omega
  have HC : Hid (∀ k, -32768 ≤ c k ∧ c k ≤ 32767) := hc
  have HZ : Hid (∀ k, 0 ≤ z k ∧ z k ≤ 255) := hz
  have HZT : Hid (∀ k, k < len3 → z k % 7 = (t k : Int)) := hzt
  have HZF : Hid (∀ k, ¬ k < len3 → t k = 0) := hzf
  have C2 : Hid (∀ k, k < n → b2 < w.heap.size ∧ w.cell? ⟨b2, o2 + k, none⟩ = some (.int .i16 (c k))) := cell2
  have H6 : Hid (∀ k, t k ≤ 6) := ht6
  have HS0 : Hid (ss % 7 = (s0 : Int)) := hs0
  clear hc hz hzt hzf cell2 ht6 hs0
  have m1 := mk_ints n hn
  have m2 := mk_lots n hn
  have hn' : (n : Int) ≤ 1024 := by omega
  go_enter Ybaf.func4, Ybaf.ntmps4
  go_wp2
  go_loopw [10, 36] (fun m i wr => ∃ k : Nat, k ≤ n ∧ i = .int .i64 k ∧ m = .int .i64 (Mix.scaleAt s0 t k) ∧ Inv w n c t k wr) (fun _ i _ => n - (intOf i).toNat)
  case atStart => exact ⟨0, Nat.zero_le _, rfl, by rw [HS0.out]; rfl, inv_start w n c t⟩
  case round =>
    obtain ⟨k, hk, rfl, rfl, hI⟩ := hrel
    by_cases hlt : k < n
    · obtain ⟨hb2, q2⟩ := C2.out k hlt
      have hII : Hid (Inv w n c t k wr) := hI
      obtain ⟨h1, h2, h3, h4, f0, f1, hz, hb⟩ := hI
      have q2' := (hb.cell (p := ⟨b2, o2 + k, none⟩) hb2).trans q2
      obtain ⟨hc1, hc2⟩ := HC.out k
      have ht6 := H6.out k
      have hm6 := Mix.scale_le s0 t h06 H6.out k
      obtain ⟨v, g0⟩ := h2 k hlt
      obtain ⟨v0, g1⟩ := h4 (k * 3) (by omega)
      obtain ⟨v1, g2⟩ := h4 (k * 3 + 1) (by omega)
      obtain ⟨v2, g3⟩ := h4 (k * 3 + 2) (by omega)
      have f0k := f0 k
      have f1a := f1 (k * 3)
      have f1b := f1 (k * 3 + 1)
      have f1c := f1 (k * 3 + 2)
      have hz0 : w.heap.size < wr.heap.size := by omega
      have hz1 : w.heap.size + 1 < wr.heap.size := by omega
      clear h1 h2 h3 h4 f0 f1 q2
      by_cases h3 : k < len3
      · exfalso; omega
      · have htk := HZF.out k h3
        have HTK : Hid (t k = 0) := htk
        clear htk
        go_wp2_with (go_at_call 6; refine (new_any _ _ (by omega) (by omega) (by omega) _).mono ?_; rintro e w' ⟨rfl, rfl⟩)
        go_roundw
        case rel =>
          have hst := inv_alloc (inv_step hII.out hlt) (.cells #[.int .i64 (c k), .int .u8 (t k)] 26)
          rw [HTK.out] at hst
          exact ⟨k + 1, by omega, by go_num, by simp only [Mix.scaleAt]; rw [Nat.max_eq_left (by rw [HTK.out]; omega)], hst⟩
        case measure => simp [intOf]; omega
    · obtain rfl : k = n := by omega
      obtain ⟨m, hm⟩ : ∃ m, m = Mix.scaleAt s0 t k := ⟨_, rfl⟩
      obtain ⟨p, hp⟩ : ∃ p : Int, p = 10 ^ (m - s0) := ⟨_, rfl⟩
      have hm6 : m ≤ 6 := by rw [hm]; exact Mix.scale_le s0 t h06 H6.out k
      have hsm : s0 ≤ m := by rw [hm]; exact (Mix.scale_ge s0 t k).1
      have htm : Hid (∀ j, j < k → t j ≤ m) := by rw [hm]; exact (Mix.scale_ge s0 t k).2
      have hsm' : ss % 7 ≤ m := by have := HS0.out; omega
      have hp' := Mix.pow_bd (m - s0) (by omega)
      rw [← hp] at hp'
      obtain ⟨hp1, hp2⟩ := hp'
      obtain ⟨pr1, pr2⟩ := Mix.abs_mul_le (a := st) (b := p) (A := 32768) (B := 1000000) (by omega) (by omega) (by omega) hp2 (by decide)
      have pr1' : -32768000000 ≤ st * p := by omega
      have pr2' : st * p ≤ 32768000000 := by omega
      clear pr1 pr2
      have HM : Hid (m = Mix.scaleAt s0 t k) := hm
      have HP : Hid (p = 10 ^ (m - s0)) := hp
      rw [← hm]
      clear hm hp
      go_wp2_with (go_at_call 9; refine (pow_var _ p (m - s0) (by have := HS0.out; omega) (by omega) HP.out _).mono ?_; rintro e w' ⟨rfl, rfl⟩)
      go_loop [16, 78] (fun x i => ∃ (j : Nat) (X : Int), j ≤ k ∧ i = .int .i64 j ∧ x = .int .i64 X ∧ Hid (X = Mix.totAt m st s0 c t j)) (fun _ i => k - (intOf i).toNat)
      case atStart => exact ⟨0, _, Nat.zero_le _, rfl, rfl, by rw [HP.out]; rfl⟩
      case round =>
        obtain ⟨j, X, hj, rfl, rfl, hX⟩ := hrel
        have hXb := Mix.tot_bd m hm6 st s0 c t (by omega) (fun k => by have := HC.out k; omega) j
        rw [← hX.out] at hXb
        obtain ⟨hX1, hX2⟩ := hXb
        by_cases hlt : j < k
        · obtain ⟨hb2, q2⟩ := C2.out j hlt
          have q2' := (hI.2.2.2.2.2.2.2.cell (p := ⟨b2, o2 + j, none⟩) hb2).trans q2
          have qs := hI.1 j hlt
          have htj := htm.out j hlt
          have htj' : (t j : Int) ≤ m := by omega
          obtain ⟨hc1, hc2⟩ := HC.out j
          obtain ⟨q, hq⟩ : ∃ q : Int, q = 10 ^ (m - t j) := ⟨_, rfl⟩
          have hq' := Mix.pow_bd (m - t j) (by omega)
          rw [← hq] at hq'
          obtain ⟨hq1, hq2⟩ := hq'
          obtain ⟨pr1, pr2⟩ := Mix.abs_mul_le (a := c j) (b := q) (A := 32768) (B := 1000000) (by omega) (by omega) (by omega) hq2 (by decide)
          have qr1' : -32768000000 ≤ c j * q := by omega
          have qr2' : c j * q ≤ 32768000000 := by omega
          have HQ : Hid (q = 10 ^ (m - t j)) := hq
          clear pr1 pr2 hq q2 
          go_wp2_with (go_at_call 9; refine (pow_var _ q (m - t j) (by omega) (by omega) HQ.out _).mono ?_; rintro e w2 ⟨rfl, rfl⟩)
          go_round
          case rel => exact ⟨j + 1, X + c j * q, by omega, by go_num, by go_num, by have h1 := hX.out; have h2 := HQ.out; rw [h1, h2]; rfl⟩
          case measure => simp [intOf]; omega
        · obtain rfl : j = k := by omega
          have hII : Hid (Inv w j c t j w') := hI
          have hbb := hI.2.2.2.2.2.2.2
          have hzz := hI.2.2.2.2.2.2.1
          clear hI
          go_wp2_with (go_at_call 6; refine (new_any _ _ (by omega) (by omega) (by omega) _).mono ?_; rintro e w2 ⟨rfl, rfl⟩)
          refine (shares_at (w.heap.size + 1) j hn c (fun k => (t k : Int)) (fun k => Mix.sumAt st s0 c t k) (fun k => (Mix.scaleAt s0 t k : Int)) st (ss % 7) X m rfl HS0.out.symm (by have h1 := hX.out; have h2 := HM.out; rw [h1, h2]; exact Mix.sum_eq st s0 c t j) (by have h2 := HM.out; rw [h2]) _ (inv_lots (inv_alloc hII.out _))
            (fun k hk => mix_says st s0 c t k (by omega) h06 H6.out (by omega) (fun k => by have := HC.out k; omega) _ (hT.below hw (hbb.alloc (by omega) _)) (by simp; omega))).mono ?_
          rintro e w3 ⟨rfl, hb3⟩
          have hz3 := hb3.size
          simp only [World.size_alloc] at hz3
          have hbw : Below w.heap.size w w3 := (hbb.alloc (by omega) _).trans (hb3.mono (by simp; omega))
          have hX3 : -9223372036854775807 ≤ X := by omega
          clear HC HZ HZT HZF C2 H6 HS0 htm HM hII hX hT hbb hzz hb3 HP hX1 hX2 pr1' pr2'
          go_wp2_with fail
          go_region_with (go_at_call 6; refine (new_any _ _ (by omega) (by omega) (by omega) _).mono ?_; rintro e w4 ⟨rfl, rfl⟩)
          all_goals go_wp2
          all_goals go_ret
          all_goals have hwz := hbw.size
          all_goals exact ⟨rfl, ((hbw.alloc hwz _).alloc (by simp; omega) _).drew⟩


set_option maxHeartbeats 400000 in
theorem mixed_nocoefs (st ss : Int) (s0 : Nat) (hst : -32768 ≤ st ∧ st ≤ 32767) (hss : 0 ≤ ss ∧ ss ≤ 255) (hs0 : ss % 7 = (s0 : Int)) (a2 : Option Addr) (n cap2 : Nat) (hn0 : n ≤ 0) (hn : n ≤ 1024) (c : Nat → Int) (hc : ∀ k, -32768 ≤ c k ∧ c k ≤ 32767)
    (a3 : Option Addr) (len3 cap3 : Nat) (z : Nat → Int) (hz : ∀ k, 0 ≤ z k ∧ z k ≤ 255) (t : Nat → Nat) (hzt : ∀ k, k < len3 → z k % 7 = (t k : Int)) (hzf : ∀ k, ¬ k < len3 → t k = 0) (w : World)
    (hT : Tab w) (hw : 2 < w.heap.size) :
    Calls Ybaf.prog 4 #[.int .i16 st, .int .u8 ss, .slice a2 n cap2, .slice a3 len3 cap3] w fun e w' => e = .returned (.bool true) ∧ Below w.heap.size w w' := by
  obtain ⟨hs1, hs2⟩ := hst
  obtain ⟨hss1, hss2⟩ := hss
  have ht6 : ∀ k, t k ≤ 6 := fun k => by
    by_cases h : k < len3
    · have := hzt k h; have := hz k; omega
    · have := hzf k h; omega
  have h06 : s0 ≤ 6 := by omega
  have HC : Hid (∀ k, -32768 ≤ c k ∧ c k ≤ 32767) := hc
  have HZ : Hid (∀ k, 0 ≤ z k ∧ z k ≤ 255) := hz
  have HZT : Hid (∀ k, k < len3 → z k % 7 = (t k : Int)) := hzt
  have HZF : Hid (∀ k, ¬ k < len3 → t k = 0) := hzf
  have H6 : Hid (∀ k, t k ≤ 6) := ht6
  have HS0 : Hid (ss % 7 = (s0 : Int)) := hs0
  clear hc hz hzt hzf ht6 hs0
  have m1 := mk_ints n hn
  have m2 := mk_lots n hn
  have hn' : (n : Int) ≤ 1024 := by omega
  go_enter Ybaf.func4, Ybaf.ntmps4
  go_wp2
  go_loopw [10, 36] (fun m i wr => ∃ k : Nat, k ≤ n ∧ i = .int .i64 k ∧ m = .int .i64 (Mix.scaleAt s0 t k) ∧ Inv w n c t k wr) (fun _ i _ => n - (intOf i).toNat)
  case atStart => exact ⟨0, Nat.zero_le _, rfl, by rw [HS0.out]; rfl, inv_start w n c t⟩
  case round =>
    obtain ⟨k, hk, rfl, rfl, hI⟩ := hrel
    by_cases hlt : k < n
    · exfalso; omega
    · obtain rfl : k = n := by omega
      obtain ⟨m, hm⟩ : ∃ m, m = Mix.scaleAt s0 t k := ⟨_, rfl⟩
      obtain ⟨p, hp⟩ : ∃ p : Int, p = 10 ^ (m - s0) := ⟨_, rfl⟩
      have hm6 : m ≤ 6 := by rw [hm]; exact Mix.scale_le s0 t h06 H6.out k
      have hsm : s0 ≤ m := by rw [hm]; exact (Mix.scale_ge s0 t k).1
      have htm : Hid (∀ j, j < k → t j ≤ m) := by rw [hm]; exact (Mix.scale_ge s0 t k).2
      have hsm' : ss % 7 ≤ m := by have := HS0.out; omega
      have hp' := Mix.pow_bd (m - s0) (by omega)
      rw [← hp] at hp'
      obtain ⟨hp1, hp2⟩ := hp'
      obtain ⟨pr1, pr2⟩ := Mix.abs_mul_le (a := st) (b := p) (A := 32768) (B := 1000000) (by omega) (by omega) (by omega) hp2 (by decide)
      have pr1' : -32768000000 ≤ st * p := by omega
      have pr2' : st * p ≤ 32768000000 := by omega
      clear pr1 pr2
      have HM : Hid (m = Mix.scaleAt s0 t k) := hm
      have HP : Hid (p = 10 ^ (m - s0)) := hp
      rw [← hm]
      clear hm hp
      go_wp2_with (go_at_call 9; refine (pow_var _ p (m - s0) (by have := HS0.out; omega) (by omega) HP.out _).mono ?_; rintro e w' ⟨rfl, rfl⟩)
      go_loop [16, 78] (fun x i => ∃ (j : Nat) (X : Int), j ≤ k ∧ i = .int .i64 j ∧ x = .int .i64 X ∧ Hid (X = Mix.totAt m st s0 c t j)) (fun _ i => k - (intOf i).toNat)
      case atStart => exact ⟨0, _, Nat.zero_le _, rfl, rfl, by rw [HP.out]; rfl⟩
      case round =>
        obtain ⟨j, X, hj, rfl, rfl, hX⟩ := hrel
        have hXb := Mix.tot_bd m hm6 st s0 c t (by omega) (fun k => by have := HC.out k; omega) j
        rw [← hX.out] at hXb
        obtain ⟨hX1, hX2⟩ := hXb
        by_cases hlt : j < k
        · exfalso; omega
        · obtain rfl : j = k := by omega
          have hII : Hid (Inv w j c t j w') := hI
          have hbb := hI.2.2.2.2.2.2.2
          have hzz := hI.2.2.2.2.2.2.1
          clear hI
          go_wp2_with (go_at_call 6; refine (new_any _ _ (by omega) (by omega) (by omega) _).mono ?_; rintro e w2 ⟨rfl, rfl⟩)
          refine (shares_at (w.heap.size + 1) j hn c (fun k => (t k : Int)) (fun k => Mix.sumAt st s0 c t k) (fun k => (Mix.scaleAt s0 t k : Int)) st (ss % 7) X m rfl HS0.out.symm (by have h1 := hX.out; have h2 := HM.out; rw [h1, h2]; exact Mix.sum_eq st s0 c t j) (by have h2 := HM.out; rw [h2]) _ (inv_lots (inv_alloc hII.out _))
            (fun k hk => mix_says st s0 c t k (by omega) h06 H6.out (by omega) (fun k => by have := HC.out k; omega) _ (hT.below hw (hbb.alloc (by omega) _)) (by simp; omega))).mono ?_
          rintro e w3 ⟨rfl, hb3⟩
          have hz3 := hb3.size
          simp only [World.size_alloc] at hz3
          have hbw : Below w.heap.size w w3 := (hbb.alloc (by omega) _).trans (hb3.mono (by simp; omega))
          have hX3 : -9223372036854775807 ≤ X := by omega
          clear HC HZ HZT HZF H6 HS0 htm HM hII hX hT hbb hzz hb3 HP hX1 hX2 pr1' pr2'
          go_wp2_with fail
          go_region_with (go_at_call 6; refine (new_any _ _ (by omega) (by omega) (by omega) _).mono ?_; rintro e w4 ⟨rfl, rfl⟩)
          all_goals go_wp2
          all_goals go_ret
          all_goals have hwz := hbw.size
          all_goals exact ⟨rfl, ((hbw.alloc hwz _).alloc (by simp; omega) _).drew⟩


end Go.Proofs.YbulkbfcmFmt
