import Derived.Test.YbulkbfdoTally
import Derived.LaidEqlPtr
import Derived.Lib.Builder
namespace Go.Proofs.Ybulkbfdo
open Go.RowKit
set_option linter.unusedSimpArgs false

/-- The n integers f lie behind the slice's address. -/
def Cells (k : IntKind) (w : World) (a : Option Addr) (n : Nat) (f : Nat → Int) : Prop := ∀ j, j < n → ∃ b o, a = some ⟨b, o, none⟩ ∧ b < w.heap.size ∧ w.cell? ⟨b, o + j, none⟩ = some (.int k (f j))

theorem Cells.below {k : IntKind} {w w' : World} {a : Option Addr} {n : Nat} {f : Nat → Int} (h : Cells k w a n f) (hb : Below w.heap.size w w') : Cells k w' a n f := fun j hj => by
  obtain ⟨b, o, h1, h2, h3⟩ := h j hj
  exact ⟨b, o, h1, Nat.lt_of_lt_of_le h2 hb.size, cell_later hb h3⟩

theorem Arg.cells {k : IntKind} {w : World} {a : Option Addr} {n cap : Nat} {f : Nat → Int} (h : Arg k w a n cap f) : Cells k w a n f := fun j hj => by
  rcases h with ⟨_, h, _⟩ | ⟨⟨b, o, sp⟩, rfl, hc⟩
  · omega
  · have hsp : sp = none := by simpa [Addr.add] using World.cell?_spot (hc 0 (by omega))
    subst hsp
    have h1 := hc j hj
    have e : (⟨b, o, none⟩ : Addr).add j = ⟨b, o + j, none⟩ := by cases j <;> simp [Addr.add]
    rw [e] at h1
    exact ⟨b, o, rfl, World.block_lt_of_cell? _ _ h1, h1⟩
theorem Cloned.cells {k : IntKind} {B : Nat} {w : World} {a : Option Addr} {n c : Nat} {f : Nat → Int} (h : Cloned k B w a n c f) : Cells k w a n f := fun j hj => by
  rcases h with ⟨_, h, _⟩ | ⟨g, rfl, _, hR⟩
  · omega
  · exact ⟨g, 0, rfl, hR.2.2, by simpa using hR.1 j hj⟩
theorem NS.cells {w : World} {T Dd : Nat} {a : Option Addr} {n c : Nat} {f : Nat → Int} (h : NS w T Dd (.slice a n c) n f) : Cells .i64 w a n f := fun j hj => by
  rcases h with ⟨_, h⟩ | ⟨g, c', e, _, _, hR⟩
  · omega
  · simp only [Value.slice.injEq] at e
    exact ⟨g, 0, e.1, hR.2.2, by simpa using hR.1 j hj⟩
theorem Cells.congr {k : IntKind} {w : World} {a : Option Addr} {n : Nat} {f g : Nat → Int} (h : Cells k w a n f) (e : ∀ j, j < n → f j = g j) : Cells k w a n g := fun j hj => by
  rw [← e j hj]; exact h j hj

set_option maxHeartbeats 400000 in
theorem equal32 (a : Option Addr) (n c : Nat) (a' : Option Addr) (c' : Nat) (f : Nat → Int) (hn : n ≤ 1025) (w : World) (h : Cells .i32 w a n f) (h' : Cells .i32 w a' n f) :
    Calls Yba.prog 16 #[.slice a n c, .slice a' n c'] w fun e w' => e = .returned (.bool true) ∧ ∃ k, w' = w.drewN k := by
  have H : Hid (Cells .i32 w a n f) := h
  have H' : Hid (Cells .i32 w a' n f) := h'
  clear h h'
  have hn' : (n : Int) ≤ 1025 := by omega
  go_enter Yba.func16, Yba.ntmps16
  go_wp2
  go_loopw [13] (fun iv wx => ∃ k : Nat, k ≤ n ∧ iv = .int .i64 k ∧ ∃ q, wx = w.drewN q) (fun iv _ => n - (intOf iv).toNat)
  case atStart => exact ⟨0, Nat.zero_le _, rfl, 0, rfl⟩
  case round =>
    obtain ⟨k, hk, rfl, q, rfl⟩ := hrel
    by_cases hlt : k < n
    · obtain ⟨b, o, ha, _, h1⟩ := H.out k hlt
      obtain ⟨b', o', ha', _, h2⟩ := H'.out k hlt
      subst ha
      cases ha'
      have hlt' : (k : Int) < n := by omega
      go_wp2
      go_quiet (fail)
      go_wp2
      go_roundw
      case rel => exact ⟨k + 1, by omega, by go_num, _, rfl⟩
      case measure => simp [intOf]; omega
    · go_wp2
      go_ret
      exact ⟨rfl, q, rfl⟩

set_option maxHeartbeats 400000 in
theorem equal64 (a : Option Addr) (n c : Nat) (a' : Option Addr) (c' : Nat) (f : Nat → Int) (hn : n ≤ 1025) (w : World) (h : Cells .i64 w a n f) (h' : Cells .i64 w a' n f) :
    Calls Yba.prog 17 #[.slice a n c, .slice a' n c'] w fun e w' => e = .returned (.bool true) ∧ ∃ k, w' = w.drewN k := by
  have H : Hid (Cells .i64 w a n f) := h
  have H' : Hid (Cells .i64 w a' n f) := h'
  clear h h'
  have hn' : (n : Int) ≤ 1025 := by omega
  go_enter Yba.func17, Yba.ntmps17
  go_wp2
  go_loopw [13] (fun iv wx => ∃ k : Nat, k ≤ n ∧ iv = .int .i64 k ∧ ∃ q, wx = w.drewN q) (fun iv _ => n - (intOf iv).toNat)
  case atStart => exact ⟨0, Nat.zero_le _, rfl, 0, rfl⟩
  case round =>
    obtain ⟨k, hk, rfl, q, rfl⟩ := hrel
    by_cases hlt : k < n
    · obtain ⟨b, o, ha, _, h1⟩ := H.out k hlt
      obtain ⟨b', o', ha', _, h2⟩ := H'.out k hlt
      subst ha
      cases ha'
      have hlt' : (k : Int) < n := by omega
      go_wp2
      go_quiet (fail)
      go_wp2
      go_roundw
      case rel => exact ⟨k + 1, by omega, by go_num, _, rfl⟩
      case measure => simp [intOf]; omega
    · go_wp2
      go_ret
      exact ⟨rfl, q, rfl⟩

set_option maxHeartbeats 400000 in
theorem cat_cells (a : Option Addr) (n c j : Nat) (f : Nat → Int) (w : World) (h : Cells .i64 w a n f) :
    Calls Yba.prog 18 #[.slice a n c, .int .i64 j] w fun e w' => e = .returned (.int .i64 (ext n f j)) ∧ w' = w := by
  by_cases hj : j < n
  · obtain ⟨b, o, rfl, _, c0⟩ := h j hj
    rw [ext_same hj]
    have hj' : (j : Int) < n := by omega
    clear h
    go_enter Yba.func18, Yba.ntmps18
    go_wp2
    go_ret
    exact ⟨rfl, rfl⟩
  · have e : ext n f j = 0 := by simp [ext, hj]
    rw [e]; exact cat_ge _ n c j hj w

theorem Yba.info49 : (Yba.prog.info? 49).map (·.size) = some 2 := by kernel_rfl
theorem ptr_neq (w : World) (a : Addr) : (binOp .neq 47 (.pointer (some a)) (.pointer (some a))).run Yba.prog w = .ok (.bool false) w := by
  obtain ⟨j, hj, _⟩ := Option.map_eq_some_iff.1 Yba.info49
  exact Lib.run_neq_ptr_same (P := Yba.prog) w a Yba.underlying47 hj

end Go.Proofs.Ybulkbfdo
