import Derived.Test.YbulkbfdaRows
import Derived.WalkKit
import Derived.WalkSpells
import Derived.WalkLawsBesides
import Derived.RegionTactic
import Derived.ChangeAlike
import Derived.Deep.QuietTactic
import Derived.BigQuiet
import Derived.Below
import Derived.Deep.OwnRows
import Derived.Deep.RegionWith
import Derived.Deep.RegionHeld3
namespace Go.Proofs.Ybulkbfda
open Go.RowKit
set_option linter.unusedSimpArgs false

theorem sc_same {w : World} {a : Addr} {v u : Value} (h : w.cell? a = some u) : (w.setCell a v).cell? a = some v := World.cell?_setCell_same w a v h
theorem sc_other {w : World} {a b : Addr} {v : Value} (h : a ≠ b) : (w.setCell a v).cell? b = w.cell? b := World.cell?_setCell_other w a b v h
theorem cell_set {w : World} {a q : Addr} {x v : Value} (h : w.cell? q = some v) : ∃ v', (w.setCell a x).cell? q = some v' := by
  by_cases e : a = q
  · subst e; exact ⟨x, sc_same h⟩
  · exact ⟨v, by rw [sc_other e]; exact h⟩
theorem bel1 (w : World) (a : Obj) : Below w.heap.size w (w.alloc a) := (Below.refl _ _).alloc (Nat.le_refl _) _
theorem bel2 (w : World) (a b : Obj) : Below w.heap.size w ((w.alloc a).alloc b) := (bel1 w a).alloc (by simp) _

/-- The entries as they lie: four cells each. -/
def Ents (w : World) (b n : Nat) (K : Nat → ByteArray) (L : Nat → Int) (V : Nat → Nat) : Prop :=
  b < w.heap.size ∧ ∀ k, k < n → w.cell? ⟨b, k * 4, none⟩ = some (.string (K k)) ∧ w.cell? ⟨b, k * 4 + 1, none⟩ = some (.int .i64 (L k)) ∧ w.cell? ⟨b, k * 4 + 2, none⟩ = some (.pointer (some ⟨V k, 0, none⟩)) ∧ ∃ q, w.cell? ⟨b, k * 4 + 3, none⟩ = some (.bool q)

set_option maxHeartbeats 400000 in
theorem get_nil (key : ByteArray) (w : World) :
    Calls Yba.prog 4 #[.pointer none, .string key] w fun e w' => e = .returned (.tuple #[.pointer none, .int .i64 0]) ∧ Below w.heap.size w w' := by
  go_enter Yba.func4, Yba.ntmps4
  go_wp2
  go_ret2
  exact ⟨rfl, Below.refl _ _⟩

set_option maxHeartbeats 400000 in
theorem get_other (key : ByteArray) (N : Nat) (kd : Int) (w : World) (h0 : w.cell? ⟨N, 0, none⟩ = some (.int .i64 kd)) (hk : (kd != 2) = true) :
    Calls Yba.prog 4 #[.pointer (some ⟨N, 0, none⟩), .string key] w fun e w' => e = .returned (.tuple #[.pointer none, .int .i64 0]) ∧ Below w.heap.size w w' := by
  go_enter Yba.func4, Yba.ntmps4
  go_wp2
  go_ret2
  exact ⟨rfl, Below.refl _ _⟩

set_option maxHeartbeats 400000 in
theorem get_hit (key : ByteArray) (N b n j : Nat) (hn : n ≤ 1024) (hj : j < n) (K : Nat → ByteArray) (L : Nat → Int) (V : Nat → Nat) (w : World) (h0 : w.cell? ⟨N, 0, none⟩ = some (.int .i64 2)) (h5 : w.cell? ⟨N, 5, none⟩ = some (.slice (some ⟨b, 0, none⟩) n n))
    (hE : Ents w b n K L V) (hit : (K j).toList == key.toList) (miss : ∀ i, i < j → ((K i).toList == key.toList) = false) :
    Calls Yba.prog 4 #[.pointer (some ⟨N, 0, none⟩), .string key] w fun e w' => e = .returned (.tuple #[.pointer (some ⟨V j, 0, none⟩), .int .i64 (L j)]) ∧ Below w.heap.size w w' := by
  obtain ⟨hb, hE⟩ := hE
  have HE : Hid (∀ k, k < n → w.cell? ⟨b, k * 4, none⟩ = some (.string (K k)) ∧ w.cell? ⟨b, k * 4 + 1, none⟩ = some (.int .i64 (L k)) ∧ w.cell? ⟨b, k * 4 + 2, none⟩ = some (.pointer (some ⟨V k, 0, none⟩)) ∧ ∃ q, w.cell? ⟨b, k * 4 + 3, none⟩ = some (.bool q)) := hE
  have HM : Hid (∀ i, i < j → ((K i).toList == key.toList) = false) := miss
  have HI : Hid ((K j).toList == key.toList) := hit
  clear hE miss hit
  go_enter Yba.func4, Yba.ntmps4
  go_wp2
  go_loopw [22] (fun i wr => ∃ k : Nat, k ≤ j ∧ i = .int .i64 k ∧ Below w.heap.size w wr) (fun i _ => n - (intOf i).toNat)
  case atStart => exact ⟨0, Nat.zero_le _, rfl, Below.refl _ _⟩
  case round =>
    obtain ⟨k, hk, rfl, hbl⟩ := hrel
    have hkn : k < n := by omega
    obtain ⟨c0, c1, c2, q, c3⟩ := HE.out k hkn
    have c0' := (hbl.cell (p := ⟨b, k * 4, none⟩) hb).trans c0
    have c1' := (hbl.cell (p := ⟨b, k * 4 + 1, none⟩) hb).trans c1
    have c2' := (hbl.cell (p := ⟨b, k * 4 + 2, none⟩) hb).trans c2
    have c3' := (hbl.cell (p := ⟨b, k * 4 + 3, none⟩) hb).trans c3
    clear c0 c1 c2 c3
    by_cases hlt : k < j
    · have hm := HM.out k hlt
      go_wp2
      go_roundw
      case rel => exact ⟨k + 1, by omega, by go_num, hbl.alloc hbl.size _⟩
      case measure => simp [intOf]; omega
    · obtain rfl : k = j := by omega
      have hm : ((K k).toList == key.toList) = true := HI.out
      go_wp2
      go_quiet (fail)
      go_wp2
      go_ret2
      exact ⟨rfl, below_drewN (hbl.alloc hbl.size _) _⟩

set_option maxHeartbeats 400000 in
theorem get_miss (key : ByteArray) (N b n : Nat) (hn : n ≤ 1024) (K : Nat → ByteArray) (L : Nat → Int) (V : Nat → Nat) (w : World) (h0 : w.cell? ⟨N, 0, none⟩ = some (.int .i64 2)) (h5 : w.cell? ⟨N, 5, none⟩ = some (.slice (some ⟨b, 0, none⟩) n n))
    (hE : Ents w b n K L V) (miss : ∀ i, i < n → ((K i).toList == key.toList) = false) :
    Calls Yba.prog 4 #[.pointer (some ⟨N, 0, none⟩), .string key] w fun e w' => e = .returned (.tuple #[.pointer none, .int .i64 0]) ∧ Below w.heap.size w w' := by
  obtain ⟨hb, hE⟩ := hE
  have HE : Hid (∀ k, k < n → w.cell? ⟨b, k * 4, none⟩ = some (.string (K k)) ∧ w.cell? ⟨b, k * 4 + 1, none⟩ = some (.int .i64 (L k)) ∧ w.cell? ⟨b, k * 4 + 2, none⟩ = some (.pointer (some ⟨V k, 0, none⟩)) ∧ ∃ q, w.cell? ⟨b, k * 4 + 3, none⟩ = some (.bool q)) := hE
  have HM : Hid (∀ i, i < n → ((K i).toList == key.toList) = false) := miss
  clear hE miss
  go_enter Yba.func4, Yba.ntmps4
  go_wp2
  go_loopw [22] (fun i wr => ∃ k : Nat, k ≤ n ∧ i = .int .i64 k ∧ Below w.heap.size w wr) (fun i _ => n - (intOf i).toNat)
  case atStart => exact ⟨0, Nat.zero_le _, rfl, Below.refl _ _⟩
  case round =>
    obtain ⟨k, hk, rfl, hbl⟩ := hrel
    by_cases hlt : k < n
    · obtain ⟨c0, c1, c2, q, c3⟩ := HE.out k hlt
      have c0' := (hbl.cell (p := ⟨b, k * 4, none⟩) hb).trans c0
      have c1' := (hbl.cell (p := ⟨b, k * 4 + 1, none⟩) hb).trans c1
      have c2' := (hbl.cell (p := ⟨b, k * 4 + 2, none⟩) hb).trans c2
      have c3' := (hbl.cell (p := ⟨b, k * 4 + 3, none⟩) hb).trans c3
      clear c0 c1 c2 c3
      have hm := HM.out k hlt
      go_wp2
      go_roundw
      case rel => exact ⟨k + 1, by omega, by go_num, hbl.alloc hbl.size _⟩
      case measure => simp [intOf]; omega
    · go_wp2
      go_ret2
      exact ⟨rfl, hbl⟩

end Go.Proofs.Ybulkbfda
