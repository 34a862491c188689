import Derived.Test.YbulkbfcmFmtShares
import Derived.Test.YbulkbfcmFmtPlain
import Derived.Deep.OwnRows
import Derived.Deep.RegionWith
namespace Go.Proofs.YbulkbfcmFmt
open Go.RowKit
set_option linter.unusedSimpArgs false

theorem mix_says (st : Int) (s0 : Nat) (c : Nat → Int) (t : Nat → Nat) (k : Nat) (hk : k < 1024) (h0 : s0 ≤ 6) (ht : ∀ k, t k ≤ 6) (hs : -32768 ≤ st ∧ st ≤ 32768) (hc : ∀ k, -32768 ≤ c k ∧ c k ≤ 32768)
    (w : World) (hT : Tab w) (hw : 2 < w.heap.size) :
    AddSays w (Mix.sumAt st s0 c t k) (c k) (Mix.scaleAt s0 t k) (t k) (Mix.sumAt st s0 c t (k + 1)) (Mix.scaleAt s0 t (k + 1)) := by
  intro W hB
  have hm := Mix.scale_le s0 t h0 ht (k + 1)
  have hmk := Mix.scale_le s0 t h0 ht k
  have mm := Mix.scale_mono s0 t k
  have e1 := Mix.sum_tot st s0 c t (Mix.scaleAt s0 t (k + 1)) k mm.1
  have b1 := Mix.tot_bd (Mix.scaleAt s0 t (k + 1)) hm st s0 c t hs hc k
  have b2 := Mix.tot_bd (Mix.scaleAt s0 t k) hmk st s0 c t hs hc k
  rw [← Mix.sum_eq] at b2
  rw [← e1] at b1
  have p := Mix.pow_bd (Mix.scaleAt s0 t (k + 1) - t k) (by omega)
  have b3 := Mix.abs_mul_le (A := 32768) (B := 1000000) (hc k).1 (hc k).2 (by omega) p.2 (by decide)
  have h1 := (hc k).1
  have h2 := (hc k).2
  have hz := hB.size
  refine add_ok _ _ _ _ (Mix.sumAt st s0 c t k * 10 ^ (Mix.scaleAt s0 t (k + 1) - Mix.scaleAt s0 t k)) (c k * 10 ^ (Mix.scaleAt s0 t (k + 1) - t k)) _ W ?_ (by omega) (by omega)
  intro W2 hB2
  have hz2 := hB2.size
  exact align_any _ _ _ _ _ (Mix.scaleAt s0 t (k + 1) - Mix.scaleAt s0 t k) (Mix.scaleAt s0 t (k + 1) - t k) _ _ rfl rfl rfl rfl rfl (by omega) (by omega) (by omega) (by omega) hmk (ht k) (by omega) (by omega) (by omega) (by omega) W2
    ((hT.below hw hB).below (by omega) hB2) (by omega)

theorem Ybaf.info3 : (Ybaf.prog.info? 3).map (fun i => (i.zero, i.size, i.bytes)) = some (some (.int .i64 0), 1, 8) := by kernel_rfl
theorem Ybaf.info29 : (Ybaf.prog.info? 29).map (fun i => (i.zero, i.size, i.bytes)) = some (some (.agg #[.int .i64 0, .int .i64 0, .int .u8 0]), 3, 24) := by kernel_rfl

/-- What make lays: n zero ints; n zero lots. -/
def zInts (n : Nat) : Array Value := madeCells #[.int .i64 0] n
def zLots (n : Nat) : Array Value := madeCells #[.int .i64 0, .int .i64 0, .int .u8 0] (n * 3)

theorem mk_ints (n : Nat) (hn : n ≤ 1024) (w : World) : (Instr.makeSlice 39 (.int .i64 (n : Int)) (.int .i64 (n : Int))).run Ybaf.prog w = .ok (.slice (some ⟨w.heap.size, 0, none⟩) n n) (w.alloc (.cells (zInts n) 3)) := by
  obtain ⟨i, hi, hz0, hz1, hz2⟩ := info_parts Ybaf.info3
  have h := run_make (P := Ybaf.prog) w 39 3 i (.int .i64 0) Ybaf.underlying39 hi hz0 .i64 .i64 n n (by omega) (Int.le_refl _) (by rw [hz2]; omega) (by omega)
  simpa [hz1, zInts, Value.cells] using h
theorem mk_lots (n : Nat) (hn : n ≤ 1024) (w : World) : (Instr.makeSlice 24 (.int .i64 (n : Int)) (.int .i64 (n : Int))).run Ybaf.prog w = .ok (.slice (some ⟨w.heap.size, 0, none⟩) n n) (w.alloc (.cells (zLots n) 29)) := by
  obtain ⟨i, hi, hz0, hz1, hz2⟩ := info_parts Ybaf.info29
  have h := run_make (P := Ybaf.prog) w 24 29 i (.agg #[.int .i64 0, .int .i64 0, .int .u8 0]) Ybaf.underlying24 hi hz0 .i64 .i64 n n (by omega) (Int.le_refl _) (by rw [hz2]; omega) (by omega)
  simpa [hz1, zLots, Value.cells] using h
theorem zInts_at (n j : Nat) (h : j < n) : ∃ v, (zInts n)[j]? = some v := ⟨_, Array.getElem?_eq_getElem (by simp [zInts, size_madeCells, h])⟩
theorem zLots_at (n j : Nat) (h : j < n * 3) : ∃ v, (zLots n)[j]? = some v := ⟨_, Array.getElem?_eq_getElem (by simp [zLots, size_madeCells, h])⟩

theorem pow_var (x p : Int) (m : Nat) (hx : x = (m : Int)) (hm : m ≤ 6) (hp : p = 10 ^ m) (w : World) : Calls Ybaf.prog 9 #[.int .i64 x] w fun e w' => e = .returned (.int .i64 p) ∧ w' = w := by
  subst hx hp; exact pow_any m hm w

theorem shares_at (b n : Nat) (hn : n ≤ 1024) (C T S M : Nat → Int) (S0 M0 Sn Mn : Int) (e1 : S 0 = S0) (e2 : M 0 = M0) (e3 : S n = Sn) (e4 : M n = Mn) (w : World) (hL : Lots w b n C T) (H : ∀ k, k < n → AddSays w (S k) (C k) (M k) (T k) (S (k + 1)) (M (k + 1))) :
    Calls Ybaf.prog 7 #[.agg #[.int .i64 S0, .int .u8 M0], .slice (some ⟨b, 0, none⟩) n n] w fun e w' => e = .returned (.tuple #[.agg #[.int .i64 Sn, .int .u8 Mn], .nilIface]) ∧ Below w.heap.size w w' := by
  subst e1 e2 e3 e4; exact shares_ok b n hn C T S M w hL H

/-- What loop 1 has laid behind k rounds: the scales in one row, the lots in another. -/
def Inv (w : World) (n : Nat) (c : Nat → Int) (t : Nat → Nat) (k : Nat) (wr : World) : Prop :=
  (∀ j, j < k → wr.cell? ⟨w.heap.size, j, none⟩ = some (.int .i64 (t j))) ∧ (∀ j, j < n → ∃ v, wr.cell? ⟨w.heap.size, j, none⟩ = some v) ∧
  (∀ j, j < k → wr.cell? ⟨w.heap.size + 1, j * 3, none⟩ = some (.int .i64 j) ∧ wr.cell? ⟨w.heap.size + 1, j * 3 + 1, none⟩ = some (.int .i64 (c j)) ∧ wr.cell? ⟨w.heap.size + 1, j * 3 + 2, none⟩ = some (.int .u8 (t j))) ∧
  (∀ j, j < n * 3 → ∃ v, wr.cell? ⟨w.heap.size + 1, j, none⟩ = some v) ∧
  (∀ o, wr.frozen? ⟨w.heap.size, o, none⟩ = false) ∧ (∀ o, wr.frozen? ⟨w.heap.size + 1, o, none⟩ = false) ∧ w.heap.size + 2 ≤ wr.heap.size ∧ Below w.heap.size w wr

theorem inv_start (w : World) (n : Nat) (c : Nat → Int) (t : Nat → Nat) : Inv w n c t 0 ((w.alloc (.cells (zInts n) 3)).alloc (.cells (zLots n) 29)) := by
  refine ⟨fun j hj => by omega, fun j hj => ?_, fun j hj => by omega, fun j hj => ?_, fun o => ?_, fun o => ?_, by simp, bel2 _ _ _⟩
  · rw [World.cell?_alloc_past _ _ _ (by simp), World.cell?_alloc_at _ _ _ _ rfl]; exact zInts_at n j hj
  · rw [World.cell?_alloc_at _ _ _ _ (by simp)]; exact zLots_at n j hj
  · rw [World.frozen?_alloc_past _ _ _ (by simp), World.frozen?_alloc_at _ _ _ _ rfl]
  · rw [World.frozen?_alloc_at _ _ _ _ (by simp)]

theorem sc_same {w : World} {a : Addr} {v u : Value} (h : w.cell? a = some u) : (w.setCell a v).cell? a = some v := World.cell?_setCell_same w a v h
theorem sc_other {w : World} {a b : Addr} {v : Value} (h : a ≠ b) : (w.setCell a v).cell? b = w.cell? b := World.cell?_setCell_other w a b v h

theorem cell_set {w : World} {a q : Addr} {x v : Value} (h : w.cell? q = some v) : ∃ v', (w.setCell a x).cell? q = some v' := by
  by_cases e : a = q
  · subst e; exact ⟨x, sc_same h⟩
  · exact ⟨v, by rw [sc_other e]; exact h⟩

theorem inv_alloc {w wr : World} {n : Nat} {c : Nat → Int} {t : Nat → Nat} {k : Nat} (h : Inv w n c t k wr) (o : Obj) : Inv w n c t k (wr.alloc o) := by
  obtain ⟨h1, h2, h3, h4, f0, f1, hz, hb⟩ := h
  have P0 : ∀ j, (wr.alloc o).cell? ⟨w.heap.size, j, none⟩ = wr.cell? ⟨w.heap.size, j, none⟩ := fun j => World.cell?_alloc_past _ _ _ (by omega)
  have P1 : ∀ j, (wr.alloc o).cell? ⟨w.heap.size + 1, j, none⟩ = wr.cell? ⟨w.heap.size + 1, j, none⟩ := fun j => World.cell?_alloc_past _ _ _ (by omega)
  have P2 : ∀ j, (wr.alloc o).frozen? ⟨w.heap.size, j, none⟩ = wr.frozen? ⟨w.heap.size, j, none⟩ := fun j => World.frozen?_alloc_past _ _ _ (by omega)
  have P3 : ∀ j, (wr.alloc o).frozen? ⟨w.heap.size + 1, j, none⟩ = wr.frozen? ⟨w.heap.size + 1, j, none⟩ := fun j => World.frozen?_alloc_past _ _ _ (by omega)
  simp only [Inv, P0, P1, P2, P3]
  exact ⟨h1, h2, h3, h4, f0, f1, by simp; omega, hb.alloc (by omega) _⟩

theorem inv_step {w wr : World} {n : Nat} {c : Nat → Int} {t : Nat → Nat} {k : Nat} (h : Inv w n c t k wr) (hk : k < n) :
    Inv w n c t (k + 1) ((((wr.setCell ⟨w.heap.size, k, none⟩ (.int .i64 (t k))).setCell ⟨w.heap.size + 1, k * 3, none⟩ (.int .i64 k)).setCell ⟨w.heap.size + 1, k * 3 + 1, none⟩ (.int .i64 (c k))).setCell ⟨w.heap.size + 1, k * 3 + 2, none⟩ (.int .u8 (t k))) := by
  obtain ⟨h1, h2, h3, h4, f0, f1, hz, hb⟩ := h
  have P0 : ∀ j, (wr.setCell ⟨w.heap.size, k, none⟩ (.int .i64 (t k))).cell? ⟨w.heap.size + 1, j, none⟩ = wr.cell? ⟨w.heap.size + 1, j, none⟩ := fun j => sc_other (by simp)
  refine ⟨fun j hj => ?_, fun j hj => ?_, fun j hj => ?_, fun j hj => ?_, fun o => ?_, fun o => ?_, ?_, ?_⟩
  · rw [sc_other (by simp), sc_other (by simp), sc_other (by simp)]
    by_cases e : j = k
    · subst e; obtain ⟨v, hv⟩ := h2 j hk; exact sc_same hv
    · rw [sc_other (by simp <;> omega)]; exact h1 j (by omega)
  · obtain ⟨_, hv⟩ := h2 j hj
    obtain ⟨_, hv⟩ := cell_set (a := ⟨w.heap.size, k, none⟩) (x := .int .i64 (t k)) hv
    obtain ⟨_, hv⟩ := cell_set (a := ⟨w.heap.size + 1, k * 3, none⟩) (x := .int .i64 k) hv
    obtain ⟨_, hv⟩ := cell_set (a := ⟨w.heap.size + 1, k * 3 + 1, none⟩) (x := .int .i64 (c k)) hv
    exact cell_set hv
  · by_cases e : j = k
    · subst e
      obtain ⟨v0, hv0⟩ := h4 (j * 3) (by omega)
      obtain ⟨v1, hv1⟩ := h4 (j * 3 + 1) (by omega)
      obtain ⟨v2, hv2⟩ := h4 (j * 3 + 2) (by omega)
      rw [← P0] at hv0 hv1 hv2
      refine ⟨?_, ?_, ?_⟩
      · rw [sc_other (by simp), sc_other (by simp)]; exact sc_same hv0
      · rw [sc_other (by simp)]
        exact sc_same (u := v1) (by rw [sc_other (by simp)]; exact hv1)
      · exact sc_same (u := v2) (by rw [sc_other (by simp), sc_other (by simp)]; exact hv2)
    · have hh := h3 j (by omega)
      refine ⟨?_, ?_, ?_⟩
      all_goals rw [sc_other (by simp <;> omega), sc_other (by simp <;> omega), sc_other (by simp <;> omega), P0]
      · exact hh.1
      · exact hh.2.1
      · exact hh.2.2
  · obtain ⟨_, hv⟩ := h4 j hj
    obtain ⟨_, hv⟩ := cell_set (a := ⟨w.heap.size, k, none⟩) (x := .int .i64 (t k)) hv
    obtain ⟨_, hv⟩ := cell_set (a := ⟨w.heap.size + 1, k * 3, none⟩) (x := .int .i64 k) hv
    obtain ⟨_, hv⟩ := cell_set (a := ⟨w.heap.size + 1, k * 3 + 1, none⟩) (x := .int .i64 (c k)) hv
    exact cell_set hv
  · simpa only [World.frozen?_setCell] using f0 o
  · simpa only [World.frozen?_setCell] using f1 o
  · simpa using hz
  · exact (((hb.setCell (by simp) _).setCell (by simp) _).setCell (by simp) _).setCell (by simp) _

theorem inv_lots {w wr : World} {n : Nat} {c : Nat → Int} {t : Nat → Nat} (h : Inv w n c t n wr) : Lots wr (w.heap.size + 1) n c (fun k => (t k : Int)) := by
  obtain ⟨h1, h2, h3, h4, f0, f1, hz, hb⟩ := h
  exact ⟨by omega, fun k hk => ⟨⟨k, (h3 k hk).1⟩, (h3 k hk).2⟩⟩

set_option maxHeartbeats 400000 in
theorem mixed_core (st ss : Int) (s0 : Nat) (hst : -32768 ≤ st ∧ st ≤ 32767) (hss : 0 ≤ ss ∧ ss ≤ 255) (hs0 : ss % 7 = (s0 : Int)) (b2 o2 n cap2 : Nat) (hn : n ≤ 1024) (c : Nat → Int) (hc : ∀ k, -32768 ≤ c k ∧ c k ≤ 32767)
    (b3 o3 len3 cap3 : Nat) (z : Nat → Int) (hz : ∀ k, 0 ≤ z k ∧ z k ≤ 255) (t : Nat → Nat) (hzt : ∀ k, k < len3 → z k % 7 = (t k : Int)) (hzf : ∀ k, ¬ k < len3 → t k = 0) (w : World)
    (hT : Tab w) (hw : 2 < w.heap.size) (cell2 : ∀ k, k < n → b2 < w.heap.size ∧ w.cell? ⟨b2, o2 + k, none⟩ = some (.int .i16 (c k))) (cell3 : ∀ k, k < len3 → b3 < w.heap.size ∧ w.cell? ⟨b3, o3 + k, none⟩ = some (.int .u8 (z k))) :
    Calls Ybaf.prog 4 #[.int .i16 st, .int .u8 ss, .slice (some ⟨b2, o2, none⟩) n cap2, .slice (some ⟨b3, o3, none⟩) len3 cap3] w fun e w' => e = .returned (.bool true) ∧ Below w.heap.size w w' := by
  obtain ⟨hs1, hs2⟩ := hst
  obtain ⟨hss1, hss2⟩ := hss
  have ht6 : ∀ k, t k ≤ 6 := fun k => by
    by_cases h : k < len3
    · have := hzt k h; have := hz k; omega
    · have := hzf k h; omega
  have h06 : s0 ≤ 6 := by omega
  have HC : Hid (∀ k, -32768 ≤ c k ∧ c k ≤ 32767) := hc
  have HZ : Hid (∀ k, 0 ≤ z k ∧ z k ≤ 255) := hz
  have HZT : Hid (∀ k, k < len3 → z k % 7 = (t k : Int)) := hzt
  have HZF : Hid (∀ k, ¬ k < len3 → t k = 0) := hzf
  have C2 : Hid (∀ k, k < n → b2 < w.heap.size ∧ w.cell? ⟨b2, o2 + k, none⟩ = some (.int .i16 (c k))) := cell2
  have C3 : Hid (∀ k, k < len3 → b3 < w.heap.size ∧ w.cell? ⟨b3, o3 + k, none⟩ = some (.int .u8 (z k))) := cell3
  have H6 : Hid (∀ k, t k ≤ 6) := ht6
  have HS0 : Hid (ss % 7 = (s0 : Int)) := hs0
  clear hc hz hzt hzf cell2 cell3 ht6 hs0
  have m1 := mk_ints n hn
  have m2 := mk_lots n hn
  have hn' : (n : Int) ≤ 1024 := by omega
  go_enter Ybaf.func4, Ybaf.ntmps4
  go_wp2
  go_loopw [10, 36] (fun m i wr => ∃ k : Nat, k ≤ n ∧ i = .int .i64 k ∧ m = .int .i64 (Mix.scaleAt s0 t k) ∧ Inv w n c t k wr) (fun _ i _ => n - (intOf i).toNat)
  case atStart => exact ⟨0, Nat.zero_le _, rfl, by rw [HS0.out]; rfl, inv_start w n c t⟩
  case round =>
    obtain ⟨k, hk, rfl, rfl, hI⟩ := hrel
    by_cases hlt : k < n
    · obtain ⟨hb2, q2⟩ := C2.out k hlt
      have hII : Hid (Inv w n c t k wr) := hI
      obtain ⟨h1, h2, h3, h4, f0, f1, hz, hb⟩ := hI
      have q2' := (hb.cell (p := ⟨b2, o2 + k, none⟩) hb2).trans q2
      obtain ⟨hc1, hc2⟩ := HC.out k
      have ht6 := H6.out k
      have hm6 := Mix.scale_le s0 t h06 H6.out k
      obtain ⟨v, g0⟩ := h2 k hlt
      obtain ⟨v0, g1⟩ := h4 (k * 3) (by omega)
      obtain ⟨v1, g2⟩ := h4 (k * 3 + 1) (by omega)
      obtain ⟨v2, g3⟩ := h4 (k * 3 + 2) (by omega)
      have f0k := f0 k
      have f1a := f1 (k * 3)
      have f1b := f1 (k * 3 + 1)
      have f1c := f1 (k * 3 + 2)
      have hz0 : w.heap.size < wr.heap.size := by omega
      have hz1 : w.heap.size + 1 < wr.heap.size := by omega
      clear h1 h2 h3 h4 f0 f1 q2
      by_cases h3 : k < len3
      · obtain ⟨hb3, q3⟩ := C3.out k h3
        have q3' := (hb.cell (p := ⟨b3, o3 + k, none⟩) hb3).trans q3
        clear q3
        obtain ⟨hz2, hz3⟩ := HZ.out k
        have hzk := HZT.out k h3
        by_cases h4 : Mix.scaleAt s0 t k < t k
        · have h4' : (Mix.scaleAt s0 t k : Int) < t k := by omega
          go_wp2_with (go_at_call 6; refine (new_any _ _ (by omega) (by omega) (by omega) _).mono ?_; rintro e w' ⟨rfl, rfl⟩)
          go_roundw
          case rel => exact ⟨k + 1, by omega, by go_num, by simp only [Mix.scaleAt]; rw [Nat.max_eq_right (by omega)], inv_alloc (inv_step hII.out hlt) _⟩
          case measure => simp [intOf]; omega
        · have h4' : ¬ (Mix.scaleAt s0 t k : Int) < t k := by omega
          go_wp2_with (go_at_call 6; refine (new_any _ _ (by omega) (by omega) (by omega) _).mono ?_; rintro e w' ⟨rfl, rfl⟩)
          go_roundw
          case rel => exact ⟨k + 1, by omega, by go_num, by simp only [Mix.scaleAt]; rw [Nat.max_eq_left (by omega)], inv_alloc (inv_step hII.out hlt) _⟩
          case measure => simp [intOf]; omega
      · have htk := HZF.out k h3
        have HTK : Hid (t k = 0) := htk
        clear htk
        go_wp2_with (go_at_call 6; refine (new_any _ _ (by omega) (by omega) (by omega) _).mono ?_; rintro e w' ⟨rfl, rfl⟩)
        go_roundw
        case rel =>
          have hst := inv_alloc (inv_step hII.out hlt) (.cells #[.int .i64 (c k), .int .u8 (t k)] 26)
          rw [HTK.out] at hst
          exact ⟨k + 1, by omega, by go_num, by simp only [Mix.scaleAt]; rw [Nat.max_eq_left (by rw [HTK.out]; omega)], hst⟩
        case measure => simp [intOf]; omega
    · obtain rfl : k = n := by omega
      obtain ⟨m, hm⟩ : ∃ m, m = Mix.scaleAt s0 t k := ⟨_, rfl⟩
      obtain ⟨p, hp⟩ : ∃ p : Int, p = 10 ^ (m - s0) := ⟨_, rfl⟩
      have hm6 : m ≤ 6 := by rw [hm]; exact Mix.scale_le s0 t h06 H6.out k
      have hsm : s0 ≤ m := by rw [hm]; exact (Mix.scale_ge s0 t k).1
      have htm : Hid (∀ j, j < k → t j ≤ m) := by rw [hm]; exact (Mix.scale_ge s0 t k).2
      have hsm' : ss % 7 ≤ m := by have := HS0.out; omega
      have hp' := Mix.pow_bd (m - s0) (by omega)
      rw [← hp] at hp'
      obtain ⟨hp1, hp2⟩ := hp'
      obtain ⟨pr1, pr2⟩ := Mix.abs_mul_le (a := st) (b := p) (A := 32768) (B := 1000000) (by omega) (by omega) (by omega) hp2 (by decide)
      have pr1' : -32768000000 ≤ st * p := by omega
      have pr2' : st * p ≤ 32768000000 := by omega
      clear pr1 pr2
      have HM : Hid (m = Mix.scaleAt s0 t k) := hm
      have HP : Hid (p = 10 ^ (m - s0)) := hp
      rw [← hm]
      clear hm hp
      go_wp2_with (go_at_call 9; refine (pow_var _ p (m - s0) (by have := HS0.out; omega) (by omega) HP.out _).mono ?_; rintro e w' ⟨rfl, rfl⟩)
      go_loop [16, 78] (fun x i => ∃ (j : Nat) (X : Int), j ≤ k ∧ i = .int .i64 j ∧ x = .int .i64 X ∧ Hid (X = Mix.totAt m st s0 c t j)) (fun _ i => k - (intOf i).toNat)
      case atStart => exact ⟨0, _, Nat.zero_le _, rfl, rfl, by rw [HP.out]; rfl⟩
      case round =>
        obtain ⟨j, X, hj, rfl, rfl, hX⟩ := hrel
        have hXb := Mix.tot_bd m hm6 st s0 c t (by omega) (fun k => by have := HC.out k; omega) j
        rw [← hX.out] at hXb
        obtain ⟨hX1, hX2⟩ := hXb
        by_cases hlt : j < k
        · obtain ⟨hb2, q2⟩ := C2.out j hlt
          have q2' := (hI.2.2.2.2.2.2.2.cell (p := ⟨b2, o2 + j, none⟩) hb2).trans q2
          have qs := hI.1 j hlt
          have htj := htm.out j hlt
          have htj' : (t j : Int) ≤ m := by omega
          obtain ⟨hc1, hc2⟩ := HC.out j
          obtain ⟨q, hq⟩ : ∃ q : Int, q = 10 ^ (m - t j) := ⟨_, rfl⟩
          have hq' := Mix.pow_bd (m - t j) (by omega)
          rw [← hq] at hq'
          obtain ⟨hq1, hq2⟩ := hq'
          obtain ⟨pr1, pr2⟩ := Mix.abs_mul_le (a := c j) (b := q) (A := 32768) (B := 1000000) (by omega) (by omega) (by omega) hq2 (by decide)
          have qr1' : -32768000000 ≤ c j * q := by omega
          have qr2' : c j * q ≤ 32768000000 := by omega
          have HQ : Hid (q = 10 ^ (m - t j)) := hq
          clear pr1 pr2 hq q2 
          go_wp2_with (go_at_call 9; refine (pow_var _ q (m - t j) (by omega) (by omega) HQ.out _).mono ?_; rintro e w2 ⟨rfl, rfl⟩)
          go_round
          case rel => exact ⟨j + 1, X + c j * q, by omega, by go_num, by go_num, by have h1 := hX.out; have h2 := HQ.out; rw [h1, h2]; rfl⟩
          case measure => simp [intOf]; omega
        · obtain rfl : j = k := by omega
          have hII : Hid (Inv w j c t j w') := hI
          have hbb := hI.2.2.2.2.2.2.2
          have hzz := hI.2.2.2.2.2.2.1
          clear hI
          go_wp2_with (go_at_call 6; refine (new_any _ _ (by omega) (by omega) (by omega) _).mono ?_; rintro e w2 ⟨rfl, rfl⟩)
          refine (shares_at (w.heap.size + 1) j hn c (fun k => (t k : Int)) (fun k => Mix.sumAt st s0 c t k) (fun k => (Mix.scaleAt s0 t k : Int)) st (ss % 7) X m rfl HS0.out.symm (by have h1 := hX.out; have h2 := HM.out; rw [h1, h2]; exact Mix.sum_eq st s0 c t j) (by have h2 := HM.out; rw [h2]) _ (inv_lots (inv_alloc hII.out _))
            (fun k hk => mix_says st s0 c t k (by omega) h06 H6.out (by omega) (fun k => by have := HC.out k; omega) _ (hT.below hw (hbb.alloc (by omega) _)) (by simp; omega))).mono ?_
          rintro e w3 ⟨rfl, hb3⟩
          have hz3 := hb3.size
          simp only [World.size_alloc] at hz3
          have hbw : Below w.heap.size w w3 := (hbb.alloc (by omega) _).trans (hb3.mono (by simp; omega))
          have hX3 : -9223372036854775807 ≤ X := by omega
          clear HC HZ HZT HZF C3 C2 H6 HS0 htm HM hII hX hT hbb hzz hb3 HP hX1 hX2 pr1' pr2'
          go_wp2_with fail
          go_region_with (go_at_call 6; refine (new_any _ _ (by omega) (by omega) (by omega) _).mono ?_; rintro e w4 ⟨rfl, rfl⟩)
          all_goals go_wp2
          all_goals go_ret
          all_goals have hwz := hbw.size
          all_goals exact ⟨rfl, ((hbw.alloc hwz _).alloc (by simp; omega) _).drew⟩

end Go.Proofs.YbulkbfcmFmt
