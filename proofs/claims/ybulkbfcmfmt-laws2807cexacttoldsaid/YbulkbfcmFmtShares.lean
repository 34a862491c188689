import Derived.Test.YbulkbfcmFmtAdd
namespace Go.Proofs.YbulkbfcmFmt
open Go.RowKit
set_option linter.unusedSimpArgs false

def AddSays (w : World) (c d s t R m : Int) : Prop := ∀ W : World, Below w.heap.size w W →
    Calls Ybaf.prog 11 #[.agg #[.int .i64 c, .int .u8 s], .agg #[.int .i64 d, .int .u8 t]] W fun e w' => e = .returned (.tuple #[.agg #[.int .i64 R, .int .u8 m], .nilIface]) ∧ Below W.heap.size W w'

/-- The lots as they lie: three cells each. -/
def Lots (w : World) (b n : Nat) (C T : Nat → Int) : Prop := b < w.heap.size ∧ ∀ k, k < n → (∃ r : Int, w.cell? ⟨b, k * 3, none⟩ = some (.int .i64 r)) ∧ w.cell? ⟨b, k * 3 + 1, none⟩ = some (.int .i64 (C k)) ∧ w.cell? ⟨b, k * 3 + 2, none⟩ = some (.int .u8 (T k))

set_option maxHeartbeats 1000000 in
theorem shares_ok (b n : Nat) (hn : n ≤ 1024) (C T S M : Nat → Int) (w : World) (hL : Lots w b n C T) (H : ∀ k, k < n → AddSays w (S k) (C k) (M k) (T k) (S (k + 1)) (M (k + 1))) :
    Calls Ybaf.prog 7 #[.agg #[.int .i64 (S 0), .int .u8 (M 0)], .slice (some ⟨b, 0, none⟩) n n] w fun e w' => e = .returned (.tuple #[.agg #[.int .i64 (S n), .int .u8 (M n)], .nilIface]) ∧ Below w.heap.size w w' := by
  obtain ⟨hbw, hL⟩ := hL
  have HL : Hid (∀ k, k < n → (∃ r : Int, w.cell? ⟨b, k * 3, none⟩ = some (.int .i64 r)) ∧ w.cell? ⟨b, k * 3 + 1, none⟩ = some (.int .i64 (C k)) ∧ w.cell? ⟨b, k * 3 + 2, none⟩ = some (.int .u8 (T k))) := hL
  clear hL
  have HH : Hid (∀ k, k < n → AddSays w (S k) (C k) (M k) (T k) (S (k + 1)) (M (k + 1))) := H
  clear H
  go_enter Ybaf.func7, Ybaf.ntmps7
  go_wp2
  go_loopw [11] (fun i wr => ∃ k : Nat, k ≤ n ∧ i = .int .i64 k ∧ wr.cell? ⟨w.heap.size, 0, none⟩ = some (.int .i64 (S k)) ∧ wr.cell? ⟨w.heap.size, 1, none⟩ = some (.int .u8 (M k)) ∧
      wr.cell? ⟨w.heap.size + 1, 0, none⟩ = some (.int .i64 0) ∧ wr.cell? ⟨w.heap.size + 1, 1, none⟩ = some (.int .u8 0) ∧ (∀ o, wr.frozen? ⟨w.heap.size, o, none⟩ = false) ∧ (∀ o, wr.frozen? ⟨w.heap.size + 1, o, none⟩ = false) ∧ w.heap.size + 2 ≤ wr.heap.size ∧ Below w.heap.size w wr)
    (fun i _ => n - (intOf i).toNat)
  case atStart => 
    refine ⟨0, Nat.zero_le _, rfl, ?_, ?_, ?_, ?_, ?_, ?_, ?_, bel2 _ _ _⟩
    all_goals first | (simp (disch := omega) [World.cell?_alloc_past, World.frozen?_alloc_past]; done) | (simp (disch := omega) [World.cell?_alloc_past, World.frozen?_alloc_past]; rfl)
  case round =>
    obtain ⟨k, hk, rfl, q0, q1, q2, q3, f0, f1, hz, hb⟩ := hrel
    by_cases hlt : k < n
    · obtain ⟨⟨r, c0⟩, c1, c2⟩ := HL.out k hlt
      have c0' := (hb.cell (p := ⟨b, k * 3, none⟩) hbw).trans c0
      have c1' := (hb.cell (p := ⟨b, k * 3 + 1, none⟩) hbw).trans c1
      have c2' := (hb.cell (p := ⟨b, k * 3 + 2, none⟩) hbw).trans c2
      clear c0 c1 c2
      have hz0 : w.heap.size < wr.heap.size := by omega
      have hz1 : w.heap.size + 1 < wr.heap.size := by omega
      go_wp2_with fail
      refine (HH.out k hlt _ (hb.alloc (by omega) _)).mono ?_
      rintro e w1 ⟨rfl, hb1⟩
      have q0' := (hb1.cell (p := ⟨w.heap.size, 0, none⟩) (by simp; omega)).trans ((World.cell?_alloc_past _ _ _ hz0).trans q0)
      have q1' := (hb1.cell (p := ⟨w.heap.size, 1, none⟩) (by simp; omega)).trans ((World.cell?_alloc_past _ _ _ hz0).trans q1)
      have q2' := (hb1.cell (p := ⟨w.heap.size + 1, 0, none⟩) (by simp; omega)).trans ((World.cell?_alloc_past _ _ _ hz1).trans q2)
      have q3' := (hb1.cell (p := ⟨w.heap.size + 1, 1, none⟩) (by simp; omega)).trans ((World.cell?_alloc_past _ _ _ hz1).trans q3)
      have f0' : ∀ o, w1.frozen? ⟨w.heap.size, o, none⟩ = false := fun o => (hb1.frozen (p := ⟨w.heap.size, o, none⟩) (by simp; omega)).trans ((World.frozen?_alloc_past _ _ _ hz0).trans (f0 o))
      have f1' : ∀ o, w1.frozen? ⟨w.heap.size + 1, o, none⟩ = false := fun o => (hb1.frozen (p := ⟨w.heap.size + 1, o, none⟩) (by simp; omega)).trans ((World.frozen?_alloc_past _ _ _ hz1).trans (f1 o))
      have hz' := hb1.size
      simp only [World.size_alloc] at hz'
      clear q0 q1 q2 q3 f0 f1 c0' c1' c2'
      go_wp2
      go_roundw
      case rel =>
        refine ⟨k + 1, by omega, by go_num, ?_, ?_, ?_, ?_, ?_, ?_, ?_, (((hb.alloc (by omega) _).trans (hb1.mono (by simp; omega))).setCell (by simp) _).setCell (by simp) _⟩
        · simp [go_sem, q0', q1']
        · simp [go_sem, q0', q1']
        · simp [go_sem, q2']
        · simp [go_sem, q3']
        · intro o; simp [f0']
        · intro o; simp [f1']
        · simp; omega
      case measure => simp [intOf]; omega
    · go_wp2
      obtain rfl : k = n := by omega
      exact bodyPost_ret (v := .tuple #[.agg #[.int .i64 (S k), .int .u8 (M k)], .nilIface]) (by simp [results, Ybaf.results7, go_sem, q0, q1, q2, q3]) rfl
        ⟨rfl, (hb.setCell (by simp) _).setCell (by simp) _⟩

end Go.Proofs.YbulkbfcmFmt
