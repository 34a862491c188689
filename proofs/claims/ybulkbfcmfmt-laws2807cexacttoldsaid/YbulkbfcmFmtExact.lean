import Derived.Test.YbulkbfcmFmtOver
import Derived.Deep.OwnRows
import Derived.Deep.RegionWith
import Derived.Deep.RegionHeld3
namespace Go.Proofs.YbulkbfcmFmt
open Go.RowKit
set_option linter.unusedSimpArgs false

theorem Ybaf.info2 : (Ybaf.prog.info? 2).map (fun i => (i.zero, i.size, i.bytes)) = some (some (.int .i64 0), 1, 8) := by kernel_rfl
theorem Ybaf.info29e : (Ybaf.prog.info? 29).map (fun i => (i.zero, i.size, i.bytes)) = some (some (.agg #[.int .i64 0, .int .i64 0, .int .u8 0]), 3, 24) := by kernel_rfl

def zVals (n : Nat) : Array Value := madeCells #[.int .i64 0] n
def zLotsE (n : Nat) : Array Value := madeCells #[.int .i64 0, .int .i64 0, .int .u8 0] (n * 3)

theorem mk_vals (n : Nat) (hn : n ≤ 1024) (w : World) : (Instr.makeSlice 22 (.int .i64 (n : Int)) (.int .i64 (n : Int))).run Ybaf.prog w = .ok (.slice (some ⟨w.heap.size, 0, none⟩) n n) (w.alloc (.cells (zVals n) 2)) := by
  obtain ⟨i, hi, hz0, hz1, hz2⟩ := info_parts Ybaf.info2
  have h := run_make (P := Ybaf.prog) w 22 2 i (.int .i64 0) Ybaf.underlying22 hi hz0 .i64 .i64 n n (by omega) (Int.le_refl _) (by rw [hz2]; omega) (by omega)
  simpa [hz1, zVals, Value.cells] using h
theorem mk_lotsE (n : Nat) (hn : n ≤ 1024) (w : World) : (Instr.makeSlice 24 (.int .i64 (n : Int)) (.int .i64 (n : Int))).run Ybaf.prog w = .ok (.slice (some ⟨w.heap.size, 0, none⟩) n n) (w.alloc (.cells (zLotsE n) 29)) := by
  obtain ⟨i, hi, hz0, hz1, hz2⟩ := info_parts Ybaf.info29e
  have h := run_make (P := Ybaf.prog) w 24 29 i (.agg #[.int .i64 0, .int .i64 0, .int .u8 0]) Ybaf.underlying24 hi hz0 .i64 .i64 n n (by omega) (Int.le_refl _) (by rw [hz2]; omega) (by omega)
  simpa [hz1, zLotsE, Value.cells] using h

theorem zVals_at (n j : Nat) (h : j < n) : ∃ v, (zVals n)[j]? = some v := ⟨_, Array.getElem?_eq_getElem (by simp [zVals, size_madeCells, h])⟩
theorem zLotsE_at (n j : Nat) (h : j < n * 3) : ∃ v, (zLotsE n)[j]? = some v := ⟨_, Array.getElem?_eq_getElem (by simp [zLotsE, size_madeCells, h])⟩

theorem sc_same {w : World} {a : Addr} {v u : Value} (h : w.cell? a = some u) : (w.setCell a v).cell? a = some v := World.cell?_setCell_same w a v h
theorem sc_other {w : World} {a b : Addr} {v : Value} (h : a ≠ b) : (w.setCell a v).cell? b = w.cell? b := World.cell?_setCell_other w a b v h
theorem cell_set {w : World} {a q : Addr} {x v : Value} (h : w.cell? q = some v) : ∃ v', (w.setCell a x).cell? q = some v' := by
  by_cases e : a = q
  · subst e; exact ⟨x, sc_same h⟩
  · exact ⟨v, by rw [sc_other e]; exact h⟩

/-! ### Plain: the running sums -/
def pre (st : Int) (V : Nat → Int) : Nat → Int
  | 0 => st
  | k + 1 => pre st V k + V k

def Fits (x : Int) : Prop := -9223372036854775807 ≤ x ∧ x ≤ 9223372036854775807

theorem pre_cases (st : Int) (V : Nat → Int) (h0 : Fits st) : ∀ n : Nat, (∀ k, k ≤ n → Fits (pre st V k)) ∨ ∃ j, j < n ∧ (∀ k, k ≤ j → Fits (pre st V k)) ∧ ¬ Fits (pre st V (j + 1))
  | 0 => .inl fun k hk => by obtain rfl : k = 0 := by omega
                             exact h0
  | n + 1 => by
    rcases pre_cases st V h0 n with h | ⟨j, hj, h1, h2⟩
    · by_cases e : Fits (pre st V (n + 1))
      · refine .inl fun k hk => ?_
        by_cases ek : k = n + 1
        · subst ek; exact e
        · exact h k (by omega)
      · exact .inr ⟨n, by omega, h, e⟩
    · exact .inr ⟨j, by omega, h1, h2⟩

def fixI (x : Int) : Int := if x = -9223372036854775808 then 9223372036854775807 else x
theorem fix_fits (y : Int) : Fits (fixI (wrap64 y)) := by
  have h1 : -9223372036854775808 ≤ wrap64 y ∧ wrap64 y ≤ 9223372036854775807 := by unfold wrap64; omega
  unfold Fits fixI
  split <;> omega
theorem fix_var (x V : Int) (h : V = fixI x) (w : World) : Calls Ybaf.prog 5 #[.int .i64 x] w fun e w' => e = .returned (.int .i64 V) ∧ w' = w := by
  subst h; exact fix_any x w

theorem exact_says (s : Int) (st : Int) (V : Nat → Int) (w : World) (k : Nat) (h : Fits (pre st V (k + 1))) : AddSays w (pre st V k) (V k) s s (pre st V (k + 1)) s := by
  intro W hB
  exact add_ok _ _ _ _ _ _ _ W (fun W2 _ => align_same _ _ _ W2) h.1 h.2

theorem exact_fails (s : Int) (st : Int) (V : Nat → Int) (a : Addr) (w : World) (hE : w.cell? ⟨0, 0, none⟩ = some (.iface 71 (.pointer (some a)))) (k : Nat) (h0 : Fits (pre st V k)) (hV : Fits (V k)) (h : ¬ Fits (pre st V (k + 1))) : AddFails w (pre st V k) (V k) s s a := by
  intro W hB
  have h' : ¬ Fits (pre st V k + V k) := h
  have hs : pre st V k + V k < -9223372036854775807 ∨ 9223372036854775807 < pre st V k + V k := by unfold Fits at h'; omega
  exact add_over _ _ _ W a (cell_later hB hE) h0.1 h0.2 hV.1 hV.2 hs

/-! ### What loop 1 has laid -/
def InvE (w : World) (n : Nat) (V : Nat → Int) (s : Int) (k : Nat) (wr : World) : Prop :=
  (∀ j, j < k → wr.cell? ⟨w.heap.size + 1, j, none⟩ = some (.int .i64 (V j))) ∧ (∀ j, j < n → ∃ v, wr.cell? ⟨w.heap.size + 1, j, none⟩ = some v) ∧
  (∀ j, j < k → wr.cell? ⟨w.heap.size, j * 3, none⟩ = some (.int .i64 j) ∧ wr.cell? ⟨w.heap.size, j * 3 + 1, none⟩ = some (.int .i64 (V j)) ∧ wr.cell? ⟨w.heap.size, j * 3 + 2, none⟩ = some (.int .u8 s)) ∧
  (∀ j, j < n * 3 → ∃ v, wr.cell? ⟨w.heap.size, j, none⟩ = some v) ∧
  (∀ o, wr.frozen? ⟨w.heap.size, o, none⟩ = false) ∧ (∀ o, wr.frozen? ⟨w.heap.size + 1, o, none⟩ = false) ∧ w.heap.size + 2 ≤ wr.heap.size ∧ Below w.heap.size w wr

theorem invE_start (w : World) (n : Nat) (V : Nat → Int) (s : Int) : InvE w n V s 0 ((w.alloc (.cells (zLotsE n) 29)).alloc (.cells (zVals n) 2)) := by
  refine ⟨fun j hj => by omega, fun j hj => ?_, fun j hj => by omega, fun j hj => ?_, fun o => ?_, fun o => ?_, by simp, bel2 _ _ _⟩
  · rw [World.cell?_alloc_at _ _ _ _ (by simp)]; exact zVals_at n j hj
  · rw [World.cell?_alloc_past _ _ _ (by simp), World.cell?_alloc_at _ _ _ _ rfl]; exact zLotsE_at n j hj
  · rw [World.frozen?_alloc_past _ _ _ (by simp), World.frozen?_alloc_at _ _ _ _ rfl]
  · rw [World.frozen?_alloc_at _ _ _ _ (by simp)]

theorem invE_below {w wr w' : World} {n : Nat} {V : Nat → Int} {s : Int} {k : Nat} (h : InvE w n V s k wr) (hb' : Below wr.heap.size wr w') : InvE w n V s k w' := by
  obtain ⟨h1, h2, h3, h4, f0, f1, hz, hb⟩ := h
  have P0 : ∀ j, w'.cell? ⟨w.heap.size, j, none⟩ = wr.cell? ⟨w.heap.size, j, none⟩ := fun j => hb'.cell (p := ⟨w.heap.size, j, none⟩) (by show w.heap.size < wr.heap.size; omega)
  have P1 : ∀ j, w'.cell? ⟨w.heap.size + 1, j, none⟩ = wr.cell? ⟨w.heap.size + 1, j, none⟩ := fun j => hb'.cell (p := ⟨w.heap.size + 1, j, none⟩) (by show w.heap.size + 1 < wr.heap.size; omega)
  have P2 : ∀ j, w'.frozen? ⟨w.heap.size, j, none⟩ = wr.frozen? ⟨w.heap.size, j, none⟩ := fun j => hb'.frozen (p := ⟨w.heap.size, j, none⟩) (by show w.heap.size < wr.heap.size; omega)
  have P3 : ∀ j, w'.frozen? ⟨w.heap.size + 1, j, none⟩ = wr.frozen? ⟨w.heap.size + 1, j, none⟩ := fun j => hb'.frozen (p := ⟨w.heap.size + 1, j, none⟩) (by show w.heap.size + 1 < wr.heap.size; omega)
  simp only [InvE, P0, P1, P2, P3]
  have := hb'.size
  exact ⟨h1, h2, h3, h4, f0, f1, by omega, hb.trans (hb'.mono (by omega))⟩

theorem invE_step {w wr : World} {n : Nat} {V : Nat → Int} {s : Int} {k : Nat} (h : InvE w n V s k wr) (hk : k < n) :
    InvE w n V s (k + 1) ((((wr.setCell ⟨w.heap.size + 1, k, none⟩ (.int .i64 (V k))).setCell ⟨w.heap.size, k * 3, none⟩ (.int .i64 k)).setCell ⟨w.heap.size, k * 3 + 1, none⟩ (.int .i64 (V k))).setCell ⟨w.heap.size, k * 3 + 2, none⟩ (.int .u8 s)) := by
  obtain ⟨h1, h2, h3, h4, f0, f1, hz, hb⟩ := h
  have P0 : ∀ j, (wr.setCell ⟨w.heap.size + 1, k, none⟩ (.int .i64 (V k))).cell? ⟨w.heap.size, j, none⟩ = wr.cell? ⟨w.heap.size, j, none⟩ := fun j => sc_other (by simp)
  refine ⟨fun j hj => ?_, fun j hj => ?_, fun j hj => ?_, fun j hj => ?_, fun o => ?_, fun o => ?_, ?_, ?_⟩
  · rw [sc_other (by simp), sc_other (by simp), sc_other (by simp)]
    by_cases e : j = k
    · subst e; obtain ⟨v, hv⟩ := h2 j hk; exact sc_same hv
    · rw [sc_other (by simp <;> omega)]; exact h1 j (by omega)
  · obtain ⟨_, hv⟩ := h2 j hj
    obtain ⟨_, hv⟩ := cell_set (a := ⟨w.heap.size + 1, k, none⟩) (x := .int .i64 (V k)) hv
    obtain ⟨_, hv⟩ := cell_set (a := ⟨w.heap.size, k * 3, none⟩) (x := .int .i64 k) hv
    obtain ⟨_, hv⟩ := cell_set (a := ⟨w.heap.size, k * 3 + 1, none⟩) (x := .int .i64 (V k)) hv
    exact cell_set hv
  · by_cases e : j = k
    · subst e
      obtain ⟨v0, hv0⟩ := h4 (j * 3) (by omega)
      obtain ⟨v1, hv1⟩ := h4 (j * 3 + 1) (by omega)
      obtain ⟨v2, hv2⟩ := h4 (j * 3 + 2) (by omega)
      rw [← P0] at hv0 hv1 hv2
      refine ⟨?_, ?_, ?_⟩
      · rw [sc_other (by simp), sc_other (by simp)]; exact sc_same hv0
      · rw [sc_other (by simp)]
        exact sc_same (u := v1) (by rw [sc_other (by simp)]; exact hv1)
      · exact sc_same (u := v2) (by rw [sc_other (by simp), sc_other (by simp)]; exact hv2)
    · have hh := h3 j (by omega)
      refine ⟨?_, ?_, ?_⟩
      all_goals rw [sc_other (by simp <;> omega), sc_other (by simp <;> omega), sc_other (by simp <;> omega), P0]
      · exact hh.1
      · exact hh.2.1
      · exact hh.2.2
  · obtain ⟨_, hv⟩ := h4 j hj
    obtain ⟨_, hv⟩ := cell_set (a := ⟨w.heap.size + 1, k, none⟩) (x := .int .i64 (V k)) hv
    obtain ⟨_, hv⟩ := cell_set (a := ⟨w.heap.size, k * 3, none⟩) (x := .int .i64 k) hv
    obtain ⟨_, hv⟩ := cell_set (a := ⟨w.heap.size, k * 3 + 1, none⟩) (x := .int .i64 (V k)) hv
    exact cell_set hv
  · simpa only [World.frozen?_setCell] using f0 o
  · simpa only [World.frozen?_setCell] using f1 o
  · simpa using hz
  · exact (((hb.setCell (by simp) _).setCell (by simp) _).setCell (by simp) _).setCell (by simp) _

theorem invE_lots {w wr : World} {n : Nat} {V : Nat → Int} {s : Int} (h : InvE w n V s n wr) : Lots wr w.heap.size n V (fun _ => s) := by
  obtain ⟨h1, h2, h3, h4, f0, f1, hz, hb⟩ := h
  exact ⟨by omega, fun k hk => ⟨⟨k, (h3 k hk).1⟩, (h3 k hk).2⟩⟩

theorem sharesE_ok (b n : Nat) (hn : n ≤ 1024) (V0 : Int) (V : Nat → Int) (s : Int) (X : Int) (hX : pre V0 V n = X) (w : World) (hL : Lots w b n V (fun _ => s)) (h : ∀ k, k ≤ n → Fits (pre V0 V k)) :
    Calls Ybaf.prog 7 #[.agg #[.int .i64 V0, .int .u8 s], .slice (some ⟨b, 0, none⟩) n n] w fun e w' => e = .returned (.tuple #[.agg #[.int .i64 X, .int .u8 s], .nilIface]) ∧ Below w.heap.size w w' := by
  subst hX
  exact shares_ok b n hn V (fun _ => s) (pre V0 V) (fun _ => s) w hL (fun k hk => exact_says s V0 V w k (h (k + 1) (by omega)))

theorem sharesE_over (b n j : Nat) (hn : n ≤ 1024) (hj : j < n) (V0 : Int) (V : Nat → Int) (s : Int) (a : Addr) (w : World) (hE : w.cell? ⟨0, 0, none⟩ = some (.iface 71 (.pointer (some a)))) (hL : Lots w b n V (fun _ => s)) (h : ∀ k, k ≤ j → Fits (pre V0 V k)) (hV : Fits (V j)) (hN : ¬ Fits (pre V0 V (j + 1))) :
    Calls Ybaf.prog 7 #[.agg #[.int .i64 V0, .int .u8 s], .slice (some ⟨b, 0, none⟩) n n] w fun e w' => e = .returned (.tuple #[.agg #[.int .i64 0, .int .u8 0], .iface 71 (.pointer (some a))]) ∧ Below w.heap.size w w' :=
  shares_over b n j hn hj a V (fun _ => s) (pre V0 V) (fun _ => s) w hL (fun k hk => exact_says s V0 V w k (h (k + 1) (by omega))) (exact_fails s V0 V a w hE j (h j (Nat.le_refl _)) hV hN)

theorem bel1 (w : World) (a : Obj) : Below w.heap.size w (w.alloc a) := (Below.refl _ _).alloc (Nat.le_refl _) _

set_option maxHeartbeats 2000000 in
theorem exact_core (st sc sh : Int) (V0 : Int) (V c : Nat → Int) (b2 o2 n cap2 : Nat) (hn : n ≤ 1024) (hsc : 0 ≤ sc) (hsc' : sc ≤ 255) (hsh : 0 ≤ sh) (hsh' : sh ≤ 255) (hV0 : V0 = fixI (wrap64 (st * 2 ^ (sh % 64).toNat))) (hV : ∀ k, V k = fixI (wrap64 (c k * 2 ^ (sh % 64).toNat)))
    (w : World) (cell2 : ∀ k, k < n → b2 < w.heap.size ∧ w.cell? ⟨b2, o2 + k, none⟩ = some (.int .i64 (c k))) (a : Addr) (hE : w.cell? ⟨0, 0, none⟩ = some (.iface 71 (.pointer (some a)))) :
    Calls Ybaf.prog 3 #[.int .i64 st, .int .u8 sc, .slice (some ⟨b2, o2, none⟩) n cap2, .int .u8 sh] w fun e w' => e = .returned (.bool true) ∧ Below w.heap.size w w' := by
  have m1 := mk_vals n hn
  have m2 := mk_lotsE n hn
  have hn' : (n : Int) ≤ 1024 := by omega
  have C2 : Hid (∀ k, k < n → b2 < w.heap.size ∧ w.cell? ⟨b2, o2 + k, none⟩ = some (.int .i64 (c k))) := cell2
  have HV : Hid (∀ k, V k = fixI (wrap64 (c k * 2 ^ (sh % 64).toNat))) := hV
  have HV0 : Hid (V0 = fixI (wrap64 (st * 2 ^ (sh % 64).toNat))) := hV0
  have hF0 : Fits V0 := by rw [hV0]; exact fix_fits _
  have hFV : Hid (∀ k, Fits (V k)) := fun k => by rw [hV k]; exact fix_fits _
  have HE : Hid (w.cell? ⟨0, 0, none⟩ = some (.iface 71 (.pointer (some a)))) := hE
  have hw0 : 0 < w.heap.size := World.block_lt_of_cell? _ _ hE
  clear cell2 hV hV0 hE
  obtain ⟨g1, g2⟩ := hF0
  go_enter Ybaf.func3, Ybaf.ntmps3
  go_wp2_with (go_at_call 5; refine (fix_var _ V0 HV0.out _).mono ?_; rintro e w' ⟨rfl, rfl⟩)
  go_loopw [44] (fun i wr => ∃ k : Nat, k ≤ n ∧ i = .int .i64 k ∧ InvE w' n V (sc % 19) k wr) (fun i _ => n - (intOf i).toNat)
  case atStart => exact ⟨0, Nat.zero_le _, rfl, invE_start _ n V _⟩
  case round =>
    obtain ⟨k, hk, rfl, hI⟩ := hrel
    by_cases hlt : k < n
    · obtain ⟨hb2, q2⟩ := C2.out k hlt
      have hII : Hid (InvE w' n V (sc % 19) k wr) := hI
      obtain ⟨h1, h2, h3, h4, f0, f1, hz, hb⟩ := hI
      have q2' := (hb.cell (p := ⟨b2, o2 + k, none⟩) hb2).trans q2
      obtain ⟨v, g0⟩ := h2 k hlt
      obtain ⟨v0, g1⟩ := h4 (k * 3) (by omega)
      obtain ⟨v1, g2⟩ := h4 (k * 3 + 1) (by omega)
      obtain ⟨v2, g3⟩ := h4 (k * 3 + 2) (by omega)
      have f0k := f1 k
      have f1a := f0 (k * 3)
      have f1b := f0 (k * 3 + 1)
      have f1c := f0 (k * 3 + 2)
      have hz0 : w'.heap.size < wr.heap.size := by omega
      have hz1 : w'.heap.size + 1 < wr.heap.size := by omega
      obtain ⟨hVk1, hVk2⟩ := hFV.out k
      clear h1 h2 h3 h4 f0 f1 q2
      go_wp2_with (first | (go_at_call 5; refine (fix_var _ (V k) (HV.out k) _).mono ?_; rintro e w2 ⟨rfl, rfl⟩) | (go_at_call 6; refine (new_any _ _ (by omega) (by omega) (by omega) _).mono ?_; rintro e w2 ⟨rfl, rfl⟩))
      go_roundw
      case rel =>
        exact ⟨k + 1, by omega, by go_num, invE_below (invE_step hII.out hlt) (bel1 _ _)⟩
      case measure => simp [intOf]; omega
    · obtain rfl : k = n := by omega
      have hII : Hid (InvE w' k V (sc % 19) k wr) := hI
      have hbb := hI.2.2.2.2.2.2.2
      have hzz := hI.2.2.2.2.2.2.1
      clear hI m1 m2 C2 HV HV0
      rcases pre_cases V0 V ⟨g1, g2⟩ k with hA | ⟨jj, hj, hB1, hB2⟩
      · have HA : Hid (∀ j, j ≤ k → Fits (pre V0 V j)) := hA
        obtain ⟨X, hX⟩ : ∃ X, pre V0 V k = X := ⟨_, rfl⟩
        have hXf := hA k (Nat.le_refl _)
        rw [hX] at hXf
        obtain ⟨hX1, hX2⟩ := hXf
        have HX : Hid (pre V0 V k = X) := hX
        clear hA hX
        go_wp2_with (go_at_call 6; refine (new_any _ _ (by omega) (by omega) (by omega) _).mono ?_; rintro e w2 ⟨rfl, rfl⟩)
        refine (sharesE_ok w'.heap.size k hn V0 V (sc % 19) X HX.out _ (invE_lots (invE_below hII.out (bel1 _ _))) HA.out).mono ?_
        rintro e w3 ⟨rfl, hb3⟩
        have hI3 : Hid (InvE w' k V (sc % 19) k w3) := invE_below (invE_below hII.out (bel1 _ _)) hb3
        have hbw : Below w'.heap.size w' w3 := hI3.out.2.2.2.2.2.2.2
        have hz3 : w'.heap.size + 2 ≤ w3.heap.size := hI3.out.2.2.2.2.2.2.1
        clear hb3 hII hbb hzz HE
        go_wp2_with fail
        go_loopw [76] (fun i wq => ∃ j : Nat, j ≤ k ∧ i = .int .i64 j ∧ Below (w3.alloc (.cells #[.int .i64 X, .int .u8 (sc % 19)] 26)).heap.size (w3.alloc (.cells #[.int .i64 X, .int .u8 (sc % 19)] 26)) wq) (fun i _ => k - (intOf i).toNat)
        case atStart => exact ⟨0, Nat.zero_le _, rfl, Below.refl _ _⟩
        case round =>
          obtain ⟨j, hj, rfl, hq⟩ := hrel
          have hI4 := invE_below (invE_below hI3.out (bel1 _ (.cells #[.int .i64 X, .int .u8 (sc % 19)] 26))) hq
          by_cases hlt : j < k
          · have c0 := hI4.1 j hlt
            obtain ⟨c1, c2, c3⟩ := hI4.2.2.1 j hlt
            obtain ⟨hVk1, hVk2⟩ := hFV.out j
            have hzq := hq.size
            simp only [World.size_alloc] at hzq
            have hq' := hq
            have HQ : Hid (Below (w3.alloc (.cells #[.int .i64 X, .int .u8 (sc % 19)] 26)).heap.size (w3.alloc (.cells #[.int .i64 X, .int .u8 (sc % 19)] 26)) wr) := hq
            have hz0 : w'.heap.size < wr.heap.size := by omega
            have hz1 : w'.heap.size + 1 < wr.heap.size := by omega
            clear hI4 hI3 hFV HA HX hq hq'
            go_wp2_with fail
            go_region_held3 (fun wq => wq.cell? ⟨w'.heap.size, j * 3, none⟩ = some (.int .i64 j) ∧ wq.cell? ⟨w'.heap.size, j * 3 + 1, none⟩ = some (.int .i64 (V j)) ∧ wq.cell? ⟨w'.heap.size, j * 3 + 2, none⟩ = some (.int .u8 (sc % 19)) ∧ wq.cell? ⟨w'.heap.size + 1, j, none⟩ = some (.int .i64 (V j))) (simp [go_sem, World.cell?_alloc_past, c0, c1, c2, c3, hz0, hz1])
              (first | (go_at_call 6; refine (new_any _ _ (by omega) (by omega) (by omega) _).mono ?_; rintro e w5 ⟨rfl, rfl⟩))
            go_wp2
            go_roundw
            case rel => exact ⟨j + 1, by omega, by go_num, (HQ.out.alloc HQ.out.size _).drew⟩
            case measure => simp [intOf]; omega
          · obtain rfl : j = k := by omega
            have gc0 := (hq.cell (p := ⟨w3.heap.size, 0, none⟩) (by simp)).trans (World.cell?_alloc_at _ _ _ _ rfl)
            have gc1 := (hq.cell (p := ⟨w3.heap.size, 1, none⟩) (by simp)).trans (World.cell?_alloc_at _ _ _ _ rfl)
            simp at gc0 gc1
            have hbq : Below w'.heap.size w' wr := hI4.2.2.2.2.2.2.2
            have hvals : Hid (∀ i, i < j → wr.cell? ⟨w'.heap.size + 1, i, none⟩ = some (.int .i64 (V i))) := hI4.1
            have hz9 : w3.heap.size < wr.heap.size := by have := hq.size; simp only [World.size_alloc] at this; omega
            clear hI4 hI3 hq
            go_wp2_with fail
            go_loop [20, 21, 104] (fun x b i => ∃ q : Nat, q ≤ j ∧ i = .int .i64 q ∧ b = .bool true ∧ ∃ Y : Int, x = .int .i64 Y ∧ Hid (Y = pre V0 V q)) (fun _ _ i => j - (intOf i).toNat)
            case atStart => exact ⟨0, Nat.zero_le _, rfl, rfl, _, rfl, rfl⟩
            case round =>
              obtain ⟨q, hq, rfl, rfl, Y, rfl, hY⟩ := hrel
              by_cases hlt : q < j
              · have cv := hvals.out q hlt
                obtain ⟨hVk1, hVk2⟩ := hFV.out q
                have hF1 := HA.out (q + 1) (by omega)
                have hF0 := HA.out q (by omega)
                obtain ⟨hs1, hs2⟩ : Fits (Y + V q) := by rw [hY.out]; exact hF1
                obtain ⟨hs3, hs4⟩ : Fits Y := by rw [hY.out]; exact hF0
                by_cases hp : 0 < V q
                · have t1 : ¬ 9223372036854775807 - V q < Y := by omega
                  go_wp2
                  go_round
                  case rel => exact ⟨q + 1, by omega, by go_num, rfl, _, rfl, by have := hY.out; rw [this]; rfl⟩
                  case measure => simp [intOf]; omega
                · by_cases hg : V q < 0
                  · have t1 : ¬ Y < -9223372036854775807 - V q := by omega
                    go_wp2
                    go_round
                    case rel => exact ⟨q + 1, by omega, by go_num, rfl, _, rfl, by have := hY.out; rw [this]; rfl⟩
                    case measure => simp [intOf]; omega
                  · go_wp2
                    go_round
                    case rel => exact ⟨q + 1, by omega, by go_num, rfl, _, rfl, by have := hY.out; rw [this]; rfl⟩
                    case measure => simp [intOf]; omega
              · obtain rfl : q = j := by omega
                obtain rfl : Y = X := by rw [hY.out]; exact HX.out
                clear hvals HA HX hFV hY
                go_wp2_with fail
                go_region_held3 (fun wq => wq.cell? ⟨w3.heap.size, 0, none⟩ = some (.int .i64 Y) ∧ wq.cell? ⟨w3.heap.size, 1, none⟩ = some (.int .u8 (sc % 19))) (simp [go_sem, World.cell?_alloc_past, gc0, gc1, hz9])
                  (first | (go_at_call 6; refine (new_any _ _ (by omega) (by omega) (by omega) _).mono ?_; rintro e w5 ⟨rfl, rfl⟩))
                go_wp2
                go_ret
                have hwz := hbq.size
                exact ⟨rfl, (hbq.alloc hwz _).drew⟩
      · have HA : Hid (∀ j, j ≤ jj → Fits (pre V0 V j)) := hB1
        have HB : Hid (¬ Fits (pre V0 V (jj + 1))) := hB2
        clear hB1 hB2
        go_wp2_with (go_at_call 6; refine (new_any _ _ (by omega) (by omega) (by omega) _).mono ?_; rintro e w2 ⟨rfl, rfl⟩)
        refine (sharesE_over w'.heap.size k jj hn hj V0 V (sc % 19) a _ (cell_later (hbb.alloc (by omega) _) HE.out) (invE_lots (invE_below hII.out (bel1 _ _))) HA.out (hFV.out jj) HB.out).mono ?_
        rintro e w3 ⟨rfl, hb3⟩
        have hI3 : Hid (InvE w' k V (sc % 19) k w3) := invE_below (invE_below hII.out (bel1 _ _)) hb3
        have hbw : Below w'.heap.size w' w3 := hI3.out.2.2.2.2.2.2.2
        have hz3 : w'.heap.size + 2 ≤ w3.heap.size := hI3.out.2.2.2.2.2.2.1
        have hE9 : Hid (w3.cell? ⟨0, 0, none⟩ = some (.iface 71 (.pointer (some a)))) := cell_later hbw HE.out
        clear hb3 hII hbb hzz HE
        go_wp2_with fail
        go_loopw [76] (fun i wq => ∃ j : Nat, j ≤ k ∧ i = .int .i64 j ∧ Below (w3.alloc (.cells #[.int .i64 0, .int .u8 0] 26)).heap.size (w3.alloc (.cells #[.int .i64 0, .int .u8 0] 26)) wq) (fun i _ => k - (intOf i).toNat)
        case atStart => exact ⟨0, Nat.zero_le _, rfl, Below.refl _ _⟩
        case round =>
          obtain ⟨j, hjk, rfl, hq⟩ := hrel
          have hI4 := invE_below (invE_below hI3.out (bel1 _ (.cells #[.int .i64 0, .int .u8 0] 26))) hq
          by_cases hlt : j < k
          · have c0 := hI4.1 j hlt
            obtain ⟨c1, c2, c3⟩ := hI4.2.2.1 j hlt
            obtain ⟨hVk1, hVk2⟩ := hFV.out j
            have hzq := hq.size
            simp only [World.size_alloc] at hzq
            have hq' := hq
            have HQ : Hid (Below (w3.alloc (.cells #[.int .i64 0, .int .u8 0] 26)).heap.size (w3.alloc (.cells #[.int .i64 0, .int .u8 0] 26)) wr) := hq
            have hz0 : w'.heap.size < wr.heap.size := by omega
            have hz1 : w'.heap.size + 1 < wr.heap.size := by omega
            clear hI4 hI3 hFV HA HB hq hq' hE9
            go_wp2_with fail
            go_region_held3 (fun wq => wq.cell? ⟨w'.heap.size, j * 3, none⟩ = some (.int .i64 j) ∧ wq.cell? ⟨w'.heap.size, j * 3 + 1, none⟩ = some (.int .i64 (V j)) ∧ wq.cell? ⟨w'.heap.size, j * 3 + 2, none⟩ = some (.int .u8 (sc % 19)) ∧ wq.cell? ⟨w'.heap.size + 1, j, none⟩ = some (.int .i64 (V j))) (simp [go_sem, World.cell?_alloc_past, c0, c1, c2, c3, hz0, hz1])
              (first | (go_at_call 6; refine (new_any _ _ (by omega) (by omega) (by omega) _).mono ?_; rintro e w5 ⟨rfl, rfl⟩))
            go_wp2
            go_roundw
            case rel => exact ⟨j + 1, by omega, by go_num, (HQ.out.alloc HQ.out.size _).drew⟩
            case measure => simp [intOf]; omega
          · obtain rfl : j = k := by omega
            have gc0 := (hq.cell (p := ⟨w3.heap.size, 0, none⟩) (by simp)).trans (World.cell?_alloc_at _ _ _ _ rfl)
            have gc1 := (hq.cell (p := ⟨w3.heap.size, 1, none⟩) (by simp)).trans (World.cell?_alloc_at _ _ _ _ rfl)
            simp at gc0 gc1
            have hbq : Below w'.heap.size w' wr := hI4.2.2.2.2.2.2.2
            have hvals : Hid (∀ i, i < j → wr.cell? ⟨w'.heap.size + 1, i, none⟩ = some (.int .i64 (V i))) := hI4.1
            have hw3 : 0 < w3.heap.size := by omega
            have hE8 := (hq.cell (p := ⟨0, 0, none⟩) (by simp)).trans ((World.cell?_alloc_past _ _ _ hw3).trans hE9.out)
            have hz9 : w3.heap.size < wr.heap.size := by have := hq.size; simp only [World.size_alloc] at this; omega
            clear hI4 hI3 hq
            go_wp2_with fail
            go_loop [20, 21, 104] (fun x b i => ∃ q : Nat, q ≤ jj ∧ i = .int .i64 q ∧ b = .bool true ∧ ∃ Y : Int, x = .int .i64 Y ∧ Hid (Y = pre V0 V q)) (fun _ _ i => j - (intOf i).toNat)
            case atStart => exact ⟨0, Nat.zero_le _, rfl, rfl, _, rfl, rfl⟩
            case round =>
              obtain ⟨q, hq, rfl, rfl, Y, rfl, hY⟩ := hrel
              have hqj : q < j := by omega
              have cv := hvals.out q hqj
              obtain ⟨hVk1, hVk2⟩ := hFV.out q
              have hF0 := HA.out q (by omega)
              obtain ⟨hs3, hs4⟩ : Fits Y := by rw [hY.out]; exact hF0
              by_cases hlt : q < jj
              · have hF1 := HA.out (q + 1) (by omega)
                obtain ⟨hs1, hs2⟩ : Fits (Y + V q) := by rw [hY.out]; exact hF1
                by_cases hp : 0 < V q
                · have t1 : ¬ 9223372036854775807 - V q < Y := by omega
                  go_wp2
                  go_round
                  case rel => exact ⟨q + 1, by omega, by go_num, rfl, _, rfl, by have := hY.out; rw [this]; rfl⟩
                  case measure => simp [intOf]; omega
                · by_cases hg : V q < 0
                  · have t1 : ¬ Y < -9223372036854775807 - V q := by omega
                    go_wp2
                    go_round
                    case rel => exact ⟨q + 1, by omega, by go_num, rfl, _, rfl, by have := hY.out; rw [this]; rfl⟩
                    case measure => simp [intOf]; omega
                  · go_wp2
                    go_round
                    case rel => exact ⟨q + 1, by omega, by go_num, rfl, _, rfl, by have := hY.out; rw [this]; rfl⟩
                    case measure => simp [intOf]; omega
              · obtain rfl : q = jj := by omega
                have hN : Y + V q < -9223372036854775807 ∨ 9223372036854775807 < Y + V q := by
                  have h1 : ¬ Fits (Y + V q) := by rw [hY.out]; exact HB.out
                  unfold Fits at h1; omega
                clear hvals HA HB hFV hY
                rcases hN with hN | hN
                · have hp : ¬ 0 < V q := by omega
                  have hg : V q < 0 := by omega
                  have t1 : Y < -9223372036854775807 - V q := by omega
                  go_wp2_with (go_at_call 8; refine (is_same _ _).mono ?_; rintro e w5 ⟨rfl, rfl⟩)
                  go_ret
                  exact ⟨rfl, hbq⟩
                · have hp : 0 < V q := by omega
                  have t1 : 9223372036854775807 - V q < Y := by omega
                  go_wp2_with (go_at_call 8; refine (is_same _ _).mono ?_; rintro e w5 ⟨rfl, rfl⟩)
                  go_ret
                  exact ⟨rfl, hbq⟩

end Go.Proofs.YbulkbfcmFmt
