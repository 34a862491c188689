import Derived.Test.YbulkbfcmFmtShares
import Derived.LaidEql
import Derived.Stop.Asserts
import Derived.RowKitTokens
namespace Go.Proofs.YbulkbfcmFmt
open Go.RowKit Go.Extern.Stop Go.Stop Go.Extern
set_option linter.unusedSimpArgs false

/-- The model's entry for reflectlite's Comparable, under a name. -/
def cmpEntry : Array Value → Sem Value := Extern.ReflectliteType.method fun t => do Go.Extern.Rtype.noPackHeld "Comparable" t; pure (.bool (← typeInfo t).comparable)
theorem Ybaf.isTypeOf (v : Value) (w : World) : (Extern.ReflectliteType.typeOf #[.iface 71 v]).run Ybaf.prog w = .ok (.iface 52 (.agg #[.pointer (some ⟨3, 71, none⟩)])) w := by kernel_rfl
theorem Ybaf.isComparable (w : World) : (cmpEntry #[.agg #[.pointer (some ⟨3, 71, none⟩)]]).run Ybaf.prog w = .ok (.bool true) w := by kernel_rfl
theorem Ybaf.isComp : (Ybaf.prog.info? 71).map (·.comparable) = some true := by kernel_rfl

theorem Ybaf.isSize : (Ybaf.prog.info? 100).map (·.size) = some 1 := by kernel_rfl
theorem Ybaf.isMethodComparable (v : Value) (w : World) : (Go.method 217 52 v "Comparable").run Ybaf.prog w = .ok (39, v) w := by kernel_rfl

theorem wrap_hi (x : Int) (h1 : 9223372036854775807 < x) (h2 : x ≤ 18446744073709551614) : wrap64 x = x - 18446744073709551616 := by unfold wrap64; omega
theorem wrap_lo (x : Int) (h1 : x < -9223372036854775808) (h2 : -18446744073709551614 ≤ x) : wrap64 x = x + 18446744073709551616 := by unfold wrap64; omega

set_option maxHeartbeats 1000000 in
/-- Add where the sum does not fit: the zero Decimal, and what ErrRange holds. -/
theorem add_over_core (c d s X : Int) (w : World) (a : Addr) (hE : w.cell? ⟨0, 0, none⟩ = some (.iface 71 (.pointer (some a)))) (hX : wrap64 (c + d) = X)
    (hs : (0 ≤ c ∧ 0 ≤ d ∧ X < 0) ∨ (c < 0 ∧ d < 0 ∧ 0 ≤ X) ∨ (c < 0 ∧ d < 0 ∧ X < 0 ∧ (X == -9223372036854775808) = true)) :
    Calls Ybaf.prog 11 #[.agg #[.int .i64 c, .int .u8 s], .agg #[.int .i64 d, .int .u8 s]] w fun e w' => e = .returned (.tuple #[.agg #[.int .i64 0, .int .u8 0], .iface 71 (.pointer (some a))]) ∧ Below w.heap.size w w' := by
  have hw0 : 0 < w.heap.size := World.block_lt_of_cell? _ _ hE
  go_enter Ybaf.func11, Ybaf.ntmps11
  go_wp2_with fail
  refine (align_same _ _ _ _).mono ?_
  rintro e w1 ⟨rfl, hb⟩
  obtain ⟨⟨q0, q1, q2, q3, q4, q5⟩, f0, f1, f2⟩ := boxes3 hb
  have hz := hb.size
  simp at hz
  have hE1 := cell_later ((bel3 w (.cells #[.int .i64 c, .int .u8 s] 26) (.cells #[.int .i64 d, .int .u8 s] 26) (.cells #[.int .i64 0, .int .u8 0] 26)).trans (hb.mono (by simp <;> omega))) hE
  clear hE
  rcases hs with ⟨g1, g2, g3⟩ | ⟨g1, g2, g3⟩ | ⟨g1, g2, g3, g4⟩
  all_goals go_wp2
  all_goals go_region
  all_goals go_wp2
  all_goals
    exact bodyPost_ret (v := .tuple #[.agg #[.int .i64 0, .int .u8 0], .iface 71 (.pointer (some a))]) (by simp [results, Ybaf.results11, go_sem, q0, q1, q2, q3, q4, q5]) rfl
      ⟨rfl, (((((((bel3 _ _ _ _).trans (hb.mono (by simp <;> omega))).setCell (by simp) _).setCell (by simp) _).setCell (by simp <;> omega) _).setCell (by simp <;> omega) _).setCell (by simp <;> omega) _).setCell (by simp <;> omega) _ |>.drew⟩

theorem add_over (c d s : Int) (w : World) (a : Addr) (hE : w.cell? ⟨0, 0, none⟩ = some (.iface 71 (.pointer (some a)))) (h1 : -9223372036854775807 ≤ c) (h2 : c ≤ 9223372036854775807) (h3 : -9223372036854775807 ≤ d) (h4 : d ≤ 9223372036854775807)
    (hs : c + d < -9223372036854775807 ∨ 9223372036854775807 < c + d) :
    Calls Ybaf.prog 11 #[.agg #[.int .i64 c, .int .u8 s], .agg #[.int .i64 d, .int .u8 s]] w fun e w' => e = .returned (.tuple #[.agg #[.int .i64 0, .int .u8 0], .iface 71 (.pointer (some a))]) ∧ Below w.heap.size w w' := by
  rcases hs with hs | hs
  · by_cases e : c + d = -9223372036854775808
    · exact add_over_core c d s (-9223372036854775808) w a hE (by rw [e]; unfold wrap64; omega) (.inr (.inr ⟨by omega, by omega, by decide, by decide⟩))
    · exact add_over_core c d s _ w a hE (wrap_lo (c + d) (by omega) (by omega)) (.inr (.inl ⟨by omega, by omega, by omega⟩))
  · exact add_over_core c d s _ w a hE (wrap_hi (c + d) (by omega) (by omega)) (.inl ⟨by omega, by omega, by omega⟩)

set_option maxRecDepth 100000 in
set_option maxHeartbeats 400000 in
/-- errors.Is(x, x), x a pointer to an errors.errorString. -/
theorem is_same (a : Addr) (w : World) :
    Calls Ybaf.prog 8 #[.iface 71 (.pointer (some a)), .iface 71 (.pointer (some a))] w fun e w' => e = .returned (.bool true) ∧ w' = w := by
  obtain ⟨i, hi, hcmp⟩ := Option.map_eq_some_iff.1 Ybaf.isComp
  obtain ⟨j, hj, hjs⟩ := Option.map_eq_some_iff.1 Ybaf.isSize
  have h8 := @run_callFunc_extern Ybaf.prog 12 _ Extern.ReflectliteType.typeOf Ybaf.func12 (by kernel_rfl) (by kernel_rfl) (by kernel_rfl) (by kernel_rfl)
  have h32 := @run_callFunc_extern Ybaf.prog 39 _ cmpEntry Ybaf.func39 (by kernel_rfl) (by kernel_rfl) (by kernel_rfl) (by kernel_rfl)
  have tT := Ybaf.isTypeOf
  have cT := Ybaf.isComparable
  have mR := Ybaf.isMethodComparable
  have heq := run_eql_iface_ptr_same (P := Ybaf.prog) w a Ybaf.underlying31 Ybaf.underlying71 hi hcmp hj
  go_enter Ybaf.func8, Ybaf.ntmps8
  go_wp2
  refine wp_loop_rounds 1 ?_
  rw [rounds_succ]
  go_wp2
  go_ret
  exact ⟨rfl, rfl⟩

def AddFails (w : World) (c d s t : Int) (a : Addr) : Prop := ∀ W : World, Below w.heap.size w W →
    Calls Ybaf.prog 11 #[.agg #[.int .i64 c, .int .u8 s], .agg #[.int .i64 d, .int .u8 t]] W fun e w' => e = .returned (.tuple #[.agg #[.int .i64 0, .int .u8 0], .iface 71 (.pointer (some a))]) ∧ Below W.heap.size W w'

set_option maxHeartbeats 1000000 in
theorem shares_over (b n jj : Nat) (hn : n ≤ 1024) (hj : jj < n) (a : Addr) (C T S M : Nat → Int) (w : World) (hL : Lots w b n C T) (H : ∀ k, k < jj → AddSays w (S k) (C k) (M k) (T k) (S (k + 1)) (M (k + 1))) (HF : AddFails w (S jj) (C jj) (M jj) (T jj) a) :
    Calls Ybaf.prog 7 #[.agg #[.int .i64 (S 0), .int .u8 (M 0)], .slice (some ⟨b, 0, none⟩) n n] w fun e w' => e = .returned (.tuple #[.agg #[.int .i64 0, .int .u8 0], .iface 71 (.pointer (some a))]) ∧ Below w.heap.size w w' := by
  obtain ⟨hbw, hL⟩ := hL
  have HL : Hid (∀ k, k < n → (∃ r : Int, w.cell? ⟨b, k * 3, none⟩ = some (.int .i64 r)) ∧ w.cell? ⟨b, k * 3 + 1, none⟩ = some (.int .i64 (C k)) ∧ w.cell? ⟨b, k * 3 + 2, none⟩ = some (.int .u8 (T k))) := hL
  clear hL
  have HH : Hid (∀ k, k < jj → AddSays w (S k) (C k) (M k) (T k) (S (k + 1)) (M (k + 1))) := H
  clear H
  have HHF : Hid (AddFails w (S jj) (C jj) (M jj) (T jj) a) := HF
  clear HF
  go_enter Ybaf.func7, Ybaf.ntmps7
  go_wp2
  go_loopw [11] (fun i wr => ∃ k : Nat, k ≤ jj ∧ i = .int .i64 k ∧ wr.cell? ⟨w.heap.size, 0, none⟩ = some (.int .i64 (S k)) ∧ wr.cell? ⟨w.heap.size, 1, none⟩ = some (.int .u8 (M k)) ∧
      wr.cell? ⟨w.heap.size + 1, 0, none⟩ = some (.int .i64 0) ∧ wr.cell? ⟨w.heap.size + 1, 1, none⟩ = some (.int .u8 0) ∧ (∀ o, wr.frozen? ⟨w.heap.size, o, none⟩ = false) ∧ (∀ o, wr.frozen? ⟨w.heap.size + 1, o, none⟩ = false) ∧ w.heap.size + 2 ≤ wr.heap.size ∧ Below w.heap.size w wr)
    (fun i _ => n - (intOf i).toNat)
  case atStart => 
    refine ⟨0, Nat.zero_le _, rfl, ?_, ?_, ?_, ?_, ?_, ?_, ?_, bel2 _ _ _⟩
    all_goals first | (simp (disch := omega) [World.cell?_alloc_past, World.frozen?_alloc_past]; done) | (simp (disch := omega) [World.cell?_alloc_past, World.frozen?_alloc_past]; rfl)
  case round =>
    obtain ⟨k, hk, rfl, q0, q1, q2, q3, f0, f1, hz, hb⟩ := hrel
    have hkn : k < n := by omega
    by_cases hlt : k < jj
    · obtain ⟨⟨r, c0⟩, c1, c2⟩ := HL.out k hkn
      have c0' := (hb.cell (p := ⟨b, k * 3, none⟩) hbw).trans c0
      have c1' := (hb.cell (p := ⟨b, k * 3 + 1, none⟩) hbw).trans c1
      have c2' := (hb.cell (p := ⟨b, k * 3 + 2, none⟩) hbw).trans c2
      clear c0 c1 c2
      have hz0 : w.heap.size < wr.heap.size := by omega
      have hz1 : w.heap.size + 1 < wr.heap.size := by omega
      go_wp2_with fail
      refine (HH.out k hlt _ (hb.alloc (by omega) _)).mono ?_
      rintro e w1 ⟨rfl, hb1⟩
      have q0' := (hb1.cell (p := ⟨w.heap.size, 0, none⟩) (by simp; omega)).trans ((World.cell?_alloc_past _ _ _ hz0).trans q0)
      have q1' := (hb1.cell (p := ⟨w.heap.size, 1, none⟩) (by simp; omega)).trans ((World.cell?_alloc_past _ _ _ hz0).trans q1)
      have q2' := (hb1.cell (p := ⟨w.heap.size + 1, 0, none⟩) (by simp; omega)).trans ((World.cell?_alloc_past _ _ _ hz1).trans q2)
      have q3' := (hb1.cell (p := ⟨w.heap.size + 1, 1, none⟩) (by simp; omega)).trans ((World.cell?_alloc_past _ _ _ hz1).trans q3)
      have f0' : ∀ o, w1.frozen? ⟨w.heap.size, o, none⟩ = false := fun o => (hb1.frozen (p := ⟨w.heap.size, o, none⟩) (by simp; omega)).trans ((World.frozen?_alloc_past _ _ _ hz0).trans (f0 o))
      have f1' : ∀ o, w1.frozen? ⟨w.heap.size + 1, o, none⟩ = false := fun o => (hb1.frozen (p := ⟨w.heap.size + 1, o, none⟩) (by simp; omega)).trans ((World.frozen?_alloc_past _ _ _ hz1).trans (f1 o))
      have hz' := hb1.size
      simp only [World.size_alloc] at hz'
      clear q0 q1 q2 q3 f0 f1 c0' c1' c2'
      go_wp2
      go_roundw
      case rel =>
        refine ⟨k + 1, by omega, by go_num, ?_, ?_, ?_, ?_, ?_, ?_, ?_, (((hb.alloc (by omega) _).trans (hb1.mono (by simp; omega))).setCell (by simp) _).setCell (by simp) _⟩
        · simp [go_sem, q0', q1']
        · simp [go_sem, q0', q1']
        · simp [go_sem, q2']
        · simp [go_sem, q3']
        · intro o; simp [f0']
        · intro o; simp [f1']
        · simp; omega
      case measure => simp [intOf]; omega
    · obtain rfl : k = jj := by omega
      obtain ⟨⟨r, c0⟩, c1, c2⟩ := HL.out k hkn
      have c0' := (hb.cell (p := ⟨b, k * 3, none⟩) hbw).trans c0
      have c1' := (hb.cell (p := ⟨b, k * 3 + 1, none⟩) hbw).trans c1
      have c2' := (hb.cell (p := ⟨b, k * 3 + 2, none⟩) hbw).trans c2
      clear c0 c1 c2
      have hz0 : w.heap.size < wr.heap.size := by omega
      have hz1 : w.heap.size + 1 < wr.heap.size := by omega
      go_wp2_with fail
      refine (HHF.out _ (hb.alloc (by omega) _)).mono ?_
      rintro e w1 ⟨rfl, hb1⟩
      have q0' := (hb1.cell (p := ⟨w.heap.size, 0, none⟩) (by simp; omega)).trans ((World.cell?_alloc_past _ _ _ hz0).trans q0)
      have q1' := (hb1.cell (p := ⟨w.heap.size, 1, none⟩) (by simp; omega)).trans ((World.cell?_alloc_past _ _ _ hz0).trans q1)
      have q2' := (hb1.cell (p := ⟨w.heap.size + 1, 0, none⟩) (by simp; omega)).trans ((World.cell?_alloc_past _ _ _ hz1).trans q2)
      have q3' := (hb1.cell (p := ⟨w.heap.size + 1, 1, none⟩) (by simp; omega)).trans ((World.cell?_alloc_past _ _ _ hz1).trans q3)
      have f0' : ∀ o, w1.frozen? ⟨w.heap.size, o, none⟩ = false := fun o => (hb1.frozen (p := ⟨w.heap.size, o, none⟩) (by simp; omega)).trans ((World.frozen?_alloc_past _ _ _ hz0).trans (f0 o))
      have f1' : ∀ o, w1.frozen? ⟨w.heap.size + 1, o, none⟩ = false := fun o => (hb1.frozen (p := ⟨w.heap.size + 1, o, none⟩) (by simp; omega)).trans ((World.frozen?_alloc_past _ _ _ hz1).trans (f1 o))
      have hz' := hb1.size
      simp only [World.size_alloc] at hz'
      clear q0 q1 q2 q3 f0 f1 c0' c1' c2'
      go_wp2
      exact bodyPost_ret (v := .tuple #[.agg #[.int .i64 0, .int .u8 0], .iface 71 (.pointer (some a))]) (by simp [results, Ybaf.results7, go_sem, q0', q1', q2', q3']) rfl
        ⟨rfl, (((((hb.alloc (by omega) _).trans (hb1.mono (by simp; omega))).setCell (by simp) _).setCell (by simp) _).setCell (by simp) _).setCell (by simp) _⟩

end Go.Proofs.YbulkbfcmFmt
