import Derived.Test.YbulkbfdaGet
import Derived.Deep.DeepCutAuto
import Derived.Deep.CutBlock
import Derived.LaidEqlPtr
import Derived.Lib.Builder
namespace Go.Proofs.Ybulkbfda
open Go.RowKit
set_option linter.unusedSimpArgs false

theorem Yba.info26 : (Yba.prog.info? 26).map (fun i => (i.zero, i.size, i.bytes)) = some (some (.pointer none), 1, 8) := by kernel_rfl
theorem Yba.info29 : (Yba.prog.info? 29).map (·.size) = some 6 := by kernel_rfl
theorem Yba.info31 : (Yba.prog.info? 31).map (fun i => (i.zero, i.size, i.bytes)) = some (some (.agg #[.string ⟨#[]⟩, .int .i64 0, .pointer none, .bool false]), 4, 40) := by kernel_rfl
def zVals (n : Nat) : Array Value := madeCells #[.pointer none] n
def zEnts (n : Nat) : Array Value := madeCells #[.string ⟨#[]⟩, .int .i64 0, .pointer none, .bool false] (n * 4)
theorem mk_vals (n : Nat) (hn : n ≤ 1024) (w : World) : (Instr.makeSlice 24 (.int .i64 (n : Int)) (.int .i64 (n : Int))).run Yba.prog w = .ok (.slice (some ⟨w.heap.size, 0, none⟩) n n) (w.alloc (.cells (zVals n) 26)) := by
  obtain ⟨i, hi, hz0, hz1, hz2⟩ := info_parts Yba.info26
  have h := run_make (P := Yba.prog) w 24 26 i (.pointer none) Yba.underlying24 hi hz0 .i64 .i64 n n (by omega) (Int.le_refl _) (by rw [hz2]; omega) (by omega)
  simpa [hz1, zVals, Value.cells] using h
theorem mk_ents (n : Nat) (hn : n ≤ 1024) (w : World) : (Instr.makeSlice 25 (.int .i64 (n : Int)) (.int .i64 (n : Int))).run Yba.prog w = .ok (.slice (some ⟨w.heap.size, 0, none⟩) n n) (w.alloc (.cells (zEnts n) 31)) := by
  obtain ⟨i, hi, hz0, hz1, hz2⟩ := info_parts Yba.info31
  have h := run_make (P := Yba.prog) w 25 31 i (.agg #[.string ⟨#[]⟩, .int .i64 0, .pointer none, .bool false]) Yba.underlying25 hi hz0 .i64 .i64 n n (by omega) (Int.le_refl _) (by rw [hz2]; omega) (by omega)
  simpa [hz1, zEnts, Value.cells] using h
theorem zVals_at (n j : Nat) (h : j < n) : ∃ v, (zVals n)[j]? = some v := ⟨_, Array.getElem?_eq_getElem (by simp [zVals, size_madeCells, h])⟩
theorem zEnts_at (n j : Nat) (h : j < n * 4) : ∃ v, (zEnts n)[j]? = some v := ⟨_, Array.getElem?_eq_getElem (by simp [zEnts, size_madeCells, h])⟩

/-- What loop 1 has laid behind k rounds: the values' row, the entries' row; one new block a round. -/
def Inv (w : World) (n : Nat) (K : Nat → ByteArray) (L : Nat → Int) (k : Nat) (wr : World) : Prop :=
  (∀ j, j < k → wr.cell? ⟨w.heap.size, j, none⟩ = some (.pointer (some ⟨w.heap.size + 2 + j, 0, none⟩))) ∧ (∀ j, j < n → ∃ v, wr.cell? ⟨w.heap.size, j, none⟩ = some v) ∧
  (∀ j, j < k → wr.cell? ⟨w.heap.size + 1, j * 4, none⟩ = some (.string (K j)) ∧ wr.cell? ⟨w.heap.size + 1, j * 4 + 1, none⟩ = some (.int .i64 (L j)) ∧ wr.cell? ⟨w.heap.size + 1, j * 4 + 2, none⟩ = some (.pointer (some ⟨w.heap.size + 2 + j, 0, none⟩)) ∧ ∃ q, wr.cell? ⟨w.heap.size + 1, j * 4 + 3, none⟩ = some (.bool q)) ∧
  (∀ j, j < n * 4 → ∃ v, wr.cell? ⟨w.heap.size + 1, j, none⟩ = some v) ∧
  (∀ o, wr.frozen? ⟨w.heap.size, o, none⟩ = false) ∧ (∀ o, wr.frozen? ⟨w.heap.size + 1, o, none⟩ = false) ∧ wr.heap.size = w.heap.size + 2 + k ∧ Below w.heap.size w wr

theorem inv_start (w : World) (n : Nat) (K : Nat → ByteArray) (L : Nat → Int) : Inv w n K L 0 ((w.alloc (.cells (zVals n) 26)).alloc (.cells (zEnts n) 31)) := by
  refine ⟨fun j hj => by omega, fun j hj => ?_, fun j hj => by omega, fun j hj => ?_, fun o => ?_, fun o => ?_, by simp, bel2 _ _ _⟩
  · rw [World.cell?_alloc_past _ _ _ (by simp), World.cell?_alloc_at _ _ _ _ rfl]; exact zVals_at n j hj
  · rw [World.cell?_alloc_at _ _ _ _ (by simp)]; exact zEnts_at n j hj
  · rw [World.frozen?_alloc_past _ _ _ (by simp), World.frozen?_alloc_at _ _ _ _ rfl]
  · rw [World.frozen?_alloc_at _ _ _ _ (by simp)]

theorem inv_step {w wr : World} {n : Nat} {K : Nat → ByteArray} {L : Nat → Int} {k : Nat} (h : Inv w n K L k wr) (hk : k < n) (l : Int) (hl : L k = l) (o : Obj) :
    Inv w n K L (k + 1) ((((((wr.setCell ⟨w.heap.size, k, none⟩ (.pointer (some ⟨wr.heap.size, 0, none⟩))).setCell ⟨w.heap.size + 1, k * 4, none⟩ (.string (K k))).setCell ⟨w.heap.size + 1, k * 4 + 1, none⟩ (.int .i64 l)).setCell ⟨w.heap.size + 1, k * 4 + 2, none⟩ (.pointer (some ⟨wr.heap.size, 0, none⟩))).setCell ⟨w.heap.size + 1, k * 4 + 3, none⟩ (.bool false)).alloc o).drew := by
  subst hl
  obtain ⟨h1, h2, h3, h4, f0, f1, hz, hb⟩ := h
  have hz' : wr.heap.size = w.heap.size + 2 + k := hz
  rw [hz']
  obtain ⟨P, hP⟩ : ∃ P : Value, P = .pointer (some ⟨w.heap.size + 2 + k, 0, none⟩) := ⟨_, rfl⟩
  rw [← hP]
  obtain ⟨W1, hW1⟩ : ∃ W1, W1 = wr.setCell ⟨w.heap.size, k, none⟩ P := ⟨_, rfl⟩
  have P0 : ∀ j, W1.cell? ⟨w.heap.size + 1, j, none⟩ = wr.cell? ⟨w.heap.size + 1, j, none⟩ := fun j => by rw [hW1]; exact sc_other (by simp)
  rw [← hW1]
  obtain ⟨W2, hW2⟩ : ∃ W2, W2 = (((W1.setCell ⟨w.heap.size + 1, k * 4, none⟩ (.string (K k))).setCell ⟨w.heap.size + 1, k * 4 + 1, none⟩ (.int .i64 (L k))).setCell ⟨w.heap.size + 1, k * 4 + 2, none⟩ P).setCell ⟨w.heap.size + 1, k * 4 + 3, none⟩ (.bool false) := ⟨_, rfl⟩
  have Q0 : ∀ j, W2.cell? ⟨w.heap.size, j, none⟩ = W1.cell? ⟨w.heap.size, j, none⟩ := fun j => by rw [hW2, sc_other (by simp), sc_other (by simp), sc_other (by simp), sc_other (by simp)]
  have hs2 : W2.heap.size = wr.heap.size := by rw [hW2, hW1]; simp
  have C0 : ∀ j, (W2.alloc o).drew.cell? ⟨w.heap.size, j, none⟩ = W2.cell? ⟨w.heap.size, j, none⟩ := fun j => World.cell?_alloc_past _ _ _ (by omega)
  have C1 : ∀ j, (W2.alloc o).drew.cell? ⟨w.heap.size + 1, j, none⟩ = W2.cell? ⟨w.heap.size + 1, j, none⟩ := fun j => World.cell?_alloc_past _ _ _ (by omega)
  have D0 : ∀ j, (W2.alloc o).drew.frozen? ⟨w.heap.size, j, none⟩ = W2.frozen? ⟨w.heap.size, j, none⟩ := fun j => World.frozen?_alloc_past _ _ _ (by omega)
  have D1 : ∀ j, (W2.alloc o).drew.frozen? ⟨w.heap.size + 1, j, none⟩ = W2.frozen? ⟨w.heap.size + 1, j, none⟩ := fun j => World.frozen?_alloc_past _ _ _ (by omega)
  rw [← hW2]
  refine ⟨fun j hj => ?_, fun j hj => ?_, fun j hj => ?_, fun j hj => ?_, fun o => ?_, fun o => ?_, ?_, ?_⟩
  · rw [C0, Q0]
    by_cases e : j = k
    · subst e; obtain ⟨v, hv⟩ := h2 j hk; rw [hW1, ← hP]; exact sc_same hv
    · rw [hW1, sc_other (by simp <;> omega)]; exact h1 j (by omega)
  · rw [C0, Q0]; obtain ⟨_, hv⟩ := h2 j hj; rw [hW1]; exact cell_set hv
  · rw [C1, C1, C1, C1]
    by_cases e : j = k
    · subst e
      obtain ⟨v0, hv0⟩ := h4 (j * 4) (by omega)
      obtain ⟨v1, hv1⟩ := h4 (j * 4 + 1) (by omega)
      obtain ⟨v2, hv2⟩ := h4 (j * 4 + 2) (by omega)
      obtain ⟨v3, hv3⟩ := h4 (j * 4 + 3) (by omega)
      rw [← P0] at hv0 hv1 hv2 hv3
      rw [hW2, ← hP]
      refine ⟨?_, ?_, ?_, false, ?_⟩
      · rw [sc_other (by simp), sc_other (by simp), sc_other (by simp)]; exact sc_same hv0
      · rw [sc_other (by simp), sc_other (by simp)]
        exact sc_same (u := v1) (by rw [sc_other (by simp)]; exact hv1)
      · rw [sc_other (by simp)]
        exact sc_same (u := v2) (by rw [sc_other (by simp), sc_other (by simp)]; exact hv2)
      · exact sc_same (u := v3) (by rw [sc_other (by simp), sc_other (by simp), sc_other (by simp)]; exact hv3)
    · have hh := h3 j (by omega)
      have E : ∀ x, j * 4 ≤ x → x ≤ j * 4 + 3 → W2.cell? ⟨w.heap.size + 1, x, none⟩ = wr.cell? ⟨w.heap.size + 1, x, none⟩ := fun x hx1 hx2 => by
        rw [hW2, sc_other (by simp <;> omega), sc_other (by simp <;> omega), sc_other (by simp <;> omega), sc_other (by simp <;> omega), P0]
      rw [E _ (by omega) (by omega), E _ (by omega) (by omega), E _ (by omega) (by omega), E _ (by omega) (by omega)]
      exact hh
  · rw [C1]
    obtain ⟨_, hv⟩ := h4 j hj
    rw [← P0] at hv
    rw [hW2]
    obtain ⟨_, hv⟩ := cell_set (a := ⟨w.heap.size + 1, k * 4, none⟩) (x := .string (K k)) hv
    obtain ⟨_, hv⟩ := cell_set (a := ⟨w.heap.size + 1, k * 4 + 1, none⟩) (x := .int .i64 (L k)) hv
    obtain ⟨_, hv⟩ := cell_set (a := ⟨w.heap.size + 1, k * 4 + 2, none⟩) (x := P) hv
    exact cell_set hv
  · rw [D0, hW2, hW1]; simpa only [World.frozen?_setCell] using f0 o
  · rw [D1, hW2, hW1]; simpa only [World.frozen?_setCell] using f1 o
  · show (W2.alloc o).heap.size = _
    simp only [World.size_alloc]; omega
  · have hb1 : Below w.heap.size w W2 := by
      rw [hW2, hW1]
      exact ((((hb.setCell (by simp) _).setCell (by simp) _).setCell (by simp) _).setCell (by simp) _).setCell (by simp) _
    exact (hb1.alloc (by omega) _).drew

theorem inv_below {w wr w' : World} {n : Nat} {K : Nat → ByteArray} {L : Nat → Int} (h : Inv w n K L n wr) (hb' : Below wr.heap.size wr w') :
    (∀ j, j < n → w'.cell? ⟨w.heap.size, j, none⟩ = some (.pointer (some ⟨w.heap.size + 2 + j, 0, none⟩))) ∧ Ents w' (w.heap.size + 1) n K L (fun j => w.heap.size + 2 + j) ∧ Below w.heap.size w w' := by
  obtain ⟨h1, h2, h3, h4, f0, f1, hz, hb⟩ := h
  have hs := hb'.size
  refine ⟨fun j hj => (hb'.cell (p := ⟨w.heap.size, j, none⟩) (by show w.heap.size < wr.heap.size; omega)).trans (h1 j hj), ⟨by omega, fun k hk => ?_⟩, hb.trans (hb'.mono (by omega))⟩
  have P1 : ∀ j, w'.cell? ⟨w.heap.size + 1, j, none⟩ = wr.cell? ⟨w.heap.size + 1, j, none⟩ := fun j => hb'.cell (p := ⟨w.heap.size + 1, j, none⟩) (by show w.heap.size + 1 < wr.heap.size; omega)
  rw [P1, P1, P1, P1]
  exact h3 k hk

/-- What Get on the node nv gives, in the world wc. -/
def GetSays (n : Nat) (K : Nat → ByteArray) (L : Nat → Int) (V : Nat → Nat) (nv : Value) (mb : Bool) (wc : World) : Prop := ∀ key : ByteArray,
  ((mb = false ∨ ∀ i, i < n → ((K i).toList == key.toList) = false) → Calls Yba.prog 4 #[nv, .string key] wc fun e w' => e = .returned (.tuple #[.pointer none, .int .i64 0]) ∧ Below wc.heap.size wc w') ∧
  (mb = true → ∀ j, j < n → ((K j).toList == key.toList) = true → (∀ i, i < j → ((K i).toList == key.toList) = false) → Calls Yba.prog 4 #[nv, .string key] wc fun e w' => e = .returned (.tuple #[.pointer (some ⟨V j, 0, none⟩), .int .i64 (L j)]) ∧ Below wc.heap.size wc w')

theorem says_nil (n : Nat) (K : Nat → ByteArray) (L : Nat → Int) (V : Nat → Nat) (wc : World) : GetSays n K L V (.pointer none) false wc :=
  fun key => ⟨fun _ => get_nil key wc, fun h => by cases h⟩
theorem says_other (n : Nat) (K : Nat → ByteArray) (L : Nat → Int) (V : Nat → Nat) (w : World) (kd : Int) (hk : (kd != 2) = true) (a b c d e : Value) : GetSays n K L V (.pointer (some ⟨w.heap.size, 0, none⟩)) false (w.alloc (.cells #[.int .i64 kd, a, b, c, d, e] 29)) :=
  fun key => ⟨fun _ => get_other key _ kd _ (by rw [World.cell?_alloc_at _ _ _ _ rfl]; rfl) hk, fun h => by cases h⟩
theorem says_map (b n : Nat) (hn : n ≤ 1024) (K : Nat → ByteArray) (L : Nat → Int) (V : Nat → Nat) (w : World) (x1 x2 x3 x4 : Value) (hE : Ents w b n K L V) : GetSays n K L V (.pointer (some ⟨w.heap.size, 0, none⟩)) true (w.alloc (.cells #[.int .i64 2, x1, x2, x3, x4, .slice (some ⟨b, 0, none⟩) n n] 29)) := by
  have hE' : Ents (w.alloc (.cells #[.int .i64 2, x1, x2, x3, x4, .slice (some ⟨b, 0, none⟩) n n] 29)) b n K L V := by
    obtain ⟨hb, hE⟩ := hE
    refine ⟨by simp; omega, fun k hk => ?_⟩
    rw [World.cell?_alloc_past _ _ _ hb, World.cell?_alloc_past _ _ _ hb, World.cell?_alloc_past _ _ _ hb, World.cell?_alloc_past _ _ _ hb]
    exact hE k hk
  intro key
  refine ⟨fun h => ?_, fun _ j hj hit miss => ?_⟩
  · rcases h with h | h
    · cases h
    · exact get_miss key _ b n hn K L V _ (by rw [World.cell?_alloc_at _ _ _ _ rfl]; rfl) (by rw [World.cell?_alloc_at _ _ _ _ rfl]; rfl) hE' h
  · exact get_hit key _ b n j hn hj K L V _ (by rw [World.cell?_alloc_at _ _ _ _ rfl]; rfl) (by rw [World.cell?_alloc_at _ _ _ _ rfl]; rfl) hE' hit miss

theorem drewN_two (w : World) (m n : Nat) : (w.drewN m).drewN n = w.drewN (m + n) := by simp [World.drewN, Nat.add_assoc]
theorem ptr_neq (w : World) (a : Addr) : (binOp .neq 26 (.pointer (some a)) (.pointer (some a))).run Yba.prog w = .ok (.bool false) w := by
  obtain ⟨j, hj, _⟩ := Option.map_eq_some_iff.1 Yba.info29
  exact Lib.run_neq_ptr_same (P := Yba.prog) w a Yba.underlying26 hj
theorem ptr_eql (w : World) (a : Addr) : (binOp .eql 26 (.pointer (some a)) (.pointer (some a))).run Yba.prog w = .ok (.bool true) w := by
  obtain ⟨j, hj, _⟩ := Option.map_eq_some_iff.1 Yba.info29
  exact run_eql_ptr_same (P := Yba.prog) w a Yba.underlying26 hj

theorem first_cases (p : Nat → Bool) : ∀ n : Nat, (∀ i, i < n → p i = false) ∨ ∃ j, j < n ∧ p j = true ∧ ∀ i, i < j → p i = false
  | 0 => .inl fun i hi => by omega
  | n + 1 => by
    rcases first_cases p n with h | ⟨j, hj, h1, h2⟩
    · cases e : p n with
      | true => exact .inr ⟨n, by omega, e, h⟩
      | false =>
        refine .inl fun i hi => ?_
        by_cases ei : i = n
        · subst ei; exact e
        · exact h i (by omega)
    · exact .inr ⟨j, by omega, h1, h2⟩

set_option maxRecDepth 100000 in
set_option maxHeartbeats 4000000 in
theorem law_core (sel pick : Int) (other : ByteArray) (a1 : Option Addr) (n cap1 : Nat) (hn : n ≤ 1024) (K : Nat → ByteArray) (a2 : Option Addr) (len2 cap2 : Nat) (z : Nat → Int) (L : Nat → Int) (hLt : ∀ k, k < len2 → L k = z k) (hLf : ∀ k, ¬ k < len2 → L k = k)
    (hsel : 0 ≤ sel ∧ sel ≤ 255) (hpick : 0 ≤ pick ∧ pick ≤ 255) (w : World) (cell1 : ∀ k, k < n → ∃ b o, a1 = some ⟨b, o, none⟩ ∧ b < w.heap.size ∧ w.cell? ⟨b, o + k, none⟩ = some (.string (K k))) (cell2 : ∀ k, k < len2 → ∃ b o, a2 = some ⟨b, o, none⟩ ∧ b < w.heap.size ∧ w.cell? ⟨b, o + k, none⟩ = some (.int .i64 (z k))) :
    Calls Yba.prog 3 #[.int .u8 sel, .slice a1 n cap1, .slice a2 len2 cap2, .int .u8 pick, .string other] w fun e w' => e = .returned (.bool true) ∧ Below w.heap.size w w' := by
  obtain ⟨hs1, hs2⟩ := hsel
  obtain ⟨hp1, hp2⟩ := hpick
  have HLt : Hid (∀ k, k < len2 → L k = z k) := hLt
  have HLf : Hid (∀ k, ¬ k < len2 → L k = k) := hLf
  have C1 : Hid (∀ k, k < n → ∃ b o, a1 = some ⟨b, o, none⟩ ∧ b < w.heap.size ∧ w.cell? ⟨b, o + k, none⟩ = some (.string (K k))) := cell1
  have C2 : Hid (∀ k, k < len2 → ∃ b o, a2 = some ⟨b, o, none⟩ ∧ b < w.heap.size ∧ w.cell? ⟨b, o + k, none⟩ = some (.int .i64 (z k))) := cell2
  clear hLt hLf cell1 cell2
  have m1 := mk_vals n hn
  have m2 := mk_ents n hn
  have hn' : (n : Int) ≤ 1024 := by omega
  go_enter Yba.func3, Yba.ntmps3
  go_wp2
  go_loopw [13] (fun i wr => ∃ k : Nat, k ≤ n ∧ i = .int .i64 k ∧ Inv w n K L k wr) (fun i _ => n - (intOf i).toNat)
  case atStart => exact ⟨0, Nat.zero_le _, rfl, inv_start w n K L⟩
  case round =>
    obtain ⟨k, hk, rfl, hI⟩ := hrel
    by_cases hlt : k < n
    · have hII : Hid (Inv w n K L k wr) := hI
      obtain ⟨h1, h2, h3, h4, f0, f1, hz, hb⟩ := hI
      obtain ⟨b1, o1, ha1, hb1, q1⟩ := C1.out k hlt
      subst ha1
      have q1' := (hb.cell (p := ⟨b1, o1 + k, none⟩) hb1).trans q1
      obtain ⟨v, g0⟩ := h2 k hlt
      obtain ⟨v0, g1⟩ := h4 (k * 4) (by omega)
      obtain ⟨v1, g2⟩ := h4 (k * 4 + 1) (by omega)
      obtain ⟨v2, g3⟩ := h4 (k * 4 + 2) (by omega)
      obtain ⟨v3, g4⟩ := h4 (k * 4 + 3) (by omega)
      have f0k := f0 k
      have f1a := f1 (k * 4)
      have f1b := f1 (k * 4 + 1)
      have f1c := f1 (k * 4 + 2)
      have f1d := f1 (k * 4 + 3)
      have hz0 : w.heap.size < wr.heap.size := by omega
      have hz1 : w.heap.size + 1 < wr.heap.size := by omega
      have hzb : b1 < wr.heap.size := by omega
      have HZ : Hid (wr.heap.size = w.heap.size + 2 + k) := hz
      clear h1 h2 h3 h4 f0 f1 q1 hz
      by_cases hl : k < len2
      · obtain ⟨b2, o2, ha2, hb2, q2⟩ := C2.out k hl
        subst ha2
        have q2' := (hb.cell (p := ⟨b2, o2 + k, none⟩) hb2).trans q2
        have hzb2 : b2 < wr.heap.size := by omega
        clear q2
        go_wp2
        go_region
        go_wp2
        go_roundw
        case rel => exact ⟨k + 1, by omega, by go_num, inv_step hII.out hlt _ (HLt.out k hl) _⟩
        case measure => simp [intOf]; omega
      · go_wp2
        go_region
        go_wp2
        go_roundw
        case rel => exact ⟨k + 1, by omega, by go_num, inv_step hII.out hlt _ (HLf.out k hl) _⟩
        case measure => simp [intOf]; omega
    · obtain rfl : k = n := by omega
      have hII : Hid (Inv w k K L k wr) := hI
      have hE := (inv_below hI (Below.refl _ _)).2.1
      have HE : Hid (Ents wr (w.heap.size + 1) k K L (fun j => w.heap.size + 2 + j)) := hE
      have HNN : Hid (k ≤ 1024) := hn
      clear hI hE m1 m2 HLt HLf C2
      go_upto_block 2 with fail
      go_cut [15, 16] (fun nv mv wx => ∃ mb : Bool, mv = .bool mb ∧ Hid (GetSays k K L (fun j => w.heap.size + 2 + j) nv mb wx) ∧ Below wr.heap.size wr wx)
      case first =>
        by_cases e0 : sel % 6 = 0
        · have d0 : (sel % 6 == 0) = true := by simpa using e0
          clear e0
          go_wp2
          go_meet
          case rel => exact ⟨false, rfl, says_nil _ _ _ _ _, Below.refl _ _⟩
        · have d0 : (sel % 6 == 0) = false := by simpa using e0
          clear e0
          by_cases e1 : sel % 6 = 1
          · have d1 : (sel % 6 == 1) = true := by simpa using e1
            clear e1
            go_wp2
            go_meet
            case rel => exact ⟨false, rfl, says_other _ _ _ _ wr 0 (by decide) _ _ _ _ _, bel1 _ _⟩
          · have d1 : (sel % 6 == 1) = false := by simpa using e1
            clear e1
            by_cases e2 : sel % 6 = 2
            · have d2 : (sel % 6 == 2) = true := by simpa using e2
              clear e2
              go_wp2
              go_meet
              case rel => exact ⟨false, rfl, says_other _ _ _ _ wr 1 (by decide) _ _ _ _ _, bel1 _ _⟩
            · have d2 : (sel % 6 == 2) = false := by simpa using e2
              clear e2
              by_cases e3 : sel % 6 = 3
              · have d3 : (sel % 6 == 3) = true := by simpa using e3
                clear e3
                go_wp2
                go_meet
                case rel => exact ⟨false, rfl, says_other _ _ _ _ wr 7 (by decide) _ _ _ _ _, bel1 _ _⟩
              · have d3 : (sel % 6 == 3) = false := by simpa using e3
                clear e3
                go_wp2
                go_meet
                case rel => exact ⟨true, rfl, says_map _ _ HNN.out _ _ _ wr _ _ _ _ HE.out, bel1 _ _⟩
      case rest =>
        obtain ⟨mb, rfl, hG, hbx⟩ := hcut
        obtain ⟨ix, hix⟩ : ∃ ix : Nat, pick % ((k : Int) + 1) = (ix : Int) := ⟨(pick % ((k : Int) + 1)).toNat, by have := Int.emod_nonneg pick (show (k : Int) + 1 ≠ 0 by omega); omega⟩
        have HIX : Hid (pick % ((k : Int) + 1) = (ix : Int)) := hix
        have hbw := hII.out.2.2.2.2.2.2.2.trans (hbx.mono (by have := hII.out.2.2.2.2.2.2.1; omega))
        clear hix HE
        go_upto_if 100 with fail
        go_cut [17, 18] (fun kv _ wx => ∃ key : ByteArray, kv = .string key ∧ wx = wc)
        case first =>
          have hix := HIX.out
          clear HIX
          by_cases hlt2 : ix < k
          · obtain ⟨b1, o1, ha1, hb1, q1⟩ := C1.out ix hlt2
            subst ha1
            have c1 := (hbw.cell (p := ⟨b1, o1 + ix, none⟩) hb1).trans q1
            clear q1
            go_wp2
            go_meet
            case rel => exact ⟨_, rfl, rfl⟩
          · go_wp2
            go_meet
            case rel => exact ⟨_, rfl, rfl⟩
        case rest =>
          obtain ⟨key, rfl, hwc⟩ := hcut
          subst hwc
          clear HIX
          have pn := ptr_neq
          have pe := ptr_eql
          cases mb with
          | false =>
            have hget := (hG.out key).1 (.inl rfl)
            have HG : Hid (Calls Yba.prog 4 #[u15, .string key] wc fun e w' => e = .returned (.tuple #[.pointer none, .int .i64 0]) ∧ Below wc.heap.size wc w') := hget
            clear hget
            go_wp2_with fail
            refine HG.out.mono ?_
            rintro e w2 ⟨rfl, hb2⟩
            clear HG
            obtain ⟨hvals, hents, hbw2⟩ := inv_below hII.out (hbx.trans (hb2.mono hbx.size))
            have HV : Hid (∀ j, j < k → w2.cell? ⟨w.heap.size, j, none⟩ = some (.pointer (some ⟨w.heap.size + 2 + j, 0, none⟩))) := hvals
            have HEN : Hid (Ents w2 (w.heap.size + 1) k K L (fun j => w.heap.size + 2 + j)) := hents
            clear hvals hents hII hG hb2 hbx hbw
            go_wp2_with fail
            go_loopw [23] (fun i wx => ∃ q : Nat, q ≤ k ∧ i = .int .i64 q ∧ ∃ m, wx = w2.drewN m) (fun i _ => k - (intOf i).toNat)
            case atStart => exact ⟨0, Nat.zero_le _, rfl, 0, rfl⟩
            case round =>
              obtain ⟨q, hq, rfl, m, rfl⟩ := hrel
              by_cases hql : q < k
              · obtain ⟨e0, e1, e2, qq, e3⟩ := HEN.out.2 q hql
                have v0 := HV.out q hql
                obtain ⟨b1, o1, ha1, k0, q1⟩ := C1.out q hql
                cases ha1
                have k1 := (hbw2.cell (p := ⟨b1, o1 + q, none⟩) k0).trans q1
                clear q1
                go_wp2
                go_quiet (fail)
                go_wp2
                go_roundw
                case rel => exact ⟨q + 1, by omega, by go_num, _, rfl⟩
                case measure => simp [intOf]; omega
              · clear HV HEN C1
                go_wp2
                go_ret
                exact ⟨rfl, below_drewN hbw2 _⟩
          | true =>
            rcases first_cases (fun i => (K i).toList == key.toList) k with hmiss | ⟨j, hj, hit, hmiss⟩
            · have hget := (hG.out key).1 (.inr hmiss)
              have HM : Hid (∀ i, i < k → ((K i).toList == key.toList) = false) := hmiss
              have HG : Hid (Calls Yba.prog 4 #[u15, .string key] wc fun e w' => e = .returned (.tuple #[.pointer none, .int .i64 0]) ∧ Below wc.heap.size wc w') := hget
              clear hget hmiss
              go_wp2_with fail
              refine HG.out.mono ?_
              rintro e w2 ⟨rfl, hb2⟩
              clear HG
              obtain ⟨hvals, hents, hbw2⟩ := inv_below hII.out (hbx.trans (hb2.mono hbx.size))
              have HV : Hid (∀ j, j < k → w2.cell? ⟨w.heap.size, j, none⟩ = some (.pointer (some ⟨w.heap.size + 2 + j, 0, none⟩))) := hvals
              have HEN : Hid (Ents w2 (w.heap.size + 1) k K L (fun j => w.heap.size + 2 + j)) := hents
              clear hvals hents hII hG hb2 hbx hbw
              go_wp2_with fail
              go_loop [21, 22] (fun x i => ∃ q : Nat, q ≤ k ∧ i = .int .i64 q ∧ x = .int .i64 (-1)) (fun _ i => k - (intOf i).toNat)
              case atStart => exact ⟨0, Nat.zero_le _, rfl, rfl⟩
              case round =>
                obtain ⟨q, hq, rfl, rfl⟩ := hrel
                by_cases hql : q < k
                · obtain ⟨b1, o1, ha1, k0, q1⟩ := C1.out q hql
                  cases ha1
                  have k1 := (hbw2.cell (p := ⟨b1, o1 + q, none⟩) k0).trans q1
                  clear q1
                  have hm := HM.out q hql
                  go_wp2
                  go_round
                  case rel => exact ⟨q + 1, by omega, by go_num, rfl⟩
                  case measure => simp [intOf]; omega
                · clear HM
                  go_wp2_with fail
                  go_loopw [23] (fun i wx => ∃ q : Nat, q ≤ k ∧ i = .int .i64 q ∧ ∃ m, wx = w2.drewN m) (fun i _ => k - (intOf i).toNat)
                  case atStart => exact ⟨0, Nat.zero_le _, rfl, 0, rfl⟩
                  case round =>
                    obtain ⟨q, hq, rfl, m, rfl⟩ := hrel
                    by_cases hql : q < k
                    · obtain ⟨e0, e1, e2, qq, e3⟩ := HEN.out.2 q hql
                      have v0 := HV.out q hql
                      obtain ⟨b1, o1, ha1, k0, q1⟩ := C1.out q hql
                      cases ha1
                      have k1 := (hbw2.cell (p := ⟨b1, o1 + q, none⟩) k0).trans q1
                      clear q1
                      go_wp2
                      go_quiet (fail)
                      go_wp2
                      go_roundw
                      case rel => exact ⟨q + 1, by omega, by go_num, _, rfl⟩
                      case measure => simp [intOf]; omega
                    · clear HV HEN C1
                      go_wp2
                      go_ret
                      exact ⟨rfl, below_drewN hbw2 _⟩
            · have hget := (hG.out key).2 rfl j hj hit hmiss
              have HM : Hid (∀ i, i < j → ((K i).toList == key.toList) = false) := hmiss
              have HI : Hid (((K j).toList == key.toList) = true) := hit
              have HG : Hid (Calls Yba.prog 4 #[u15, .string key] wc fun e w' => e = .returned (.tuple #[.pointer (some ⟨w.heap.size + 2 + j, 0, none⟩), .int .i64 (L j)]) ∧ Below wc.heap.size wc w') := hget
              clear hget hmiss hit
              go_wp2_with fail
              refine HG.out.mono ?_
              rintro e w2 ⟨rfl, hb2⟩
              clear HG
              obtain ⟨hvals, hents, hbw2⟩ := inv_below hII.out (hbx.trans (hb2.mono hbx.size))
              have HV : Hid (∀ j, j < k → w2.cell? ⟨w.heap.size, j, none⟩ = some (.pointer (some ⟨w.heap.size + 2 + j, 0, none⟩))) := hvals
              have HEN : Hid (Ents w2 (w.heap.size + 1) k K L (fun j => w.heap.size + 2 + j)) := hents
              clear hvals hents hII hG hb2 hbx hbw
              go_wp2_with fail
              go_loop [21, 22] (fun x i => ∃ q : Nat, q ≤ j ∧ i = .int .i64 q ∧ x = .int .i64 (-1)) (fun _ i => k - (intOf i).toNat)
              case atStart => exact ⟨0, Nat.zero_le _, rfl, rfl⟩
              case round =>
                obtain ⟨q, hq, rfl, rfl⟩ := hrel
                have hqk : q < k := by omega
                obtain ⟨b1, o1, ha1, k0, q1⟩ := C1.out q hqk
                cases ha1
                have k1 := (hbw2.cell (p := ⟨b1, o1 + q, none⟩) k0).trans q1
                clear q1
                by_cases hql : q < j
                · have hm := HM.out q hql
                  go_wp2
                  go_round
                  case rel => exact ⟨q + 1, by omega, by go_num, rfl⟩
                  case measure => simp [intOf]; omega
                · obtain rfl : q = j := by omega
                  have hm := HI.out
                  clear HM HI
                  go_wp2_with fail
                  go_loopw [23] (fun i wx => ∃ p : Nat, p ≤ k ∧ i = .int .i64 p ∧ ∃ m, wx = w2.drewN m) (fun i _ => k - (intOf i).toNat)
                  case atStart => exact ⟨0, Nat.zero_le _, rfl, 0, rfl⟩
                  case round =>
                    obtain ⟨p, hp, rfl, m, rfl⟩ := hrel
                    by_cases hpl : p < k
                    · obtain ⟨e0, e1, e2, qq, e3⟩ := HEN.out.2 p hpl
                      have v0 := HV.out p hpl
                      obtain ⟨b1, o1, ha1, k0, q1⟩ := C1.out p hpl
                      cases ha1
                      have k1 := (hbw2.cell (p := ⟨b1, o1 + p, none⟩) k0).trans q1
                      clear q1
                      go_wp2
                      go_quiet (fail)
                      go_wp2
                      go_roundw
                      case rel => exact ⟨p + 1, by omega, by go_num, _, rfl⟩
                      case measure => simp [intOf]; omega
                    · obtain ⟨e0, e1, e2, qq, e3⟩ := HEN.out.2 q hj
                      have v0 := HV.out q hj
                      clear HV HEN C1
                      go_wp2
                      go_ret
                      exact ⟨rfl, below_drewN hbw2 _⟩

end Go.Proofs.Ybulkbfda
