import Derived.Test.YbulkbffsLocks
import Derived.WalkKit
import Derived.WalkSpells
import Derived.WalkLawsBesides
import Derived.RegionTactic
import Derived.ChangeAlike
import Derived.Deep.QuietTactic
import Derived.BigQuiet
import Derived.Below
import Derived.Deep.OwnRows
import Derived.Deep.RegionWith
import Derived.Deep.RegionHeld3
import Derived.Deep.DeepCutAuto
import Derived.Deep.CutBlock
import Derived.Laws.CopyRow
import Derived.Laws.CopyOwn
import Derived.Lib.SliceRun
namespace Go.Proofs.Ybulkbffs
open Go.RowKit
set_option linter.unusedSimpArgs false

theorem bel1 (w : World) (a : Obj) : Below w.heap.size w (w.alloc a) := (Below.refl _ _).alloc (Nat.le_refl _) _

/-! ### A block, whole -/
/-- Block g of w is a row of cells of type t, none of them frozen. -/
def Blk (w : World) (g : Nat) (t : TypeId) (cs : Array Value) : Prop := w.heap[g]? = some (.cells cs t (0, 0))

theorem Blk.lt {w : World} {g : Nat} {t : TypeId} {cs : Array Value} (h : Blk w g t cs) : g < w.heap.size := by
  by_cases hg : g < w.heap.size
  · exact hg
  · unfold Blk at h; rw [Array.getElem?_eq_none (by omega)] at h; cases h
theorem Blk.cell {w : World} {g : Nat} {t : TypeId} {cs : Array Value} (h : Blk w g t cs) (j : Nat) : w.cell? ⟨g, j, none⟩ = cs[j]? := by
  unfold Blk at h
  simp [World.cell?, h]
theorem Blk.frozen {w : World} {g : Nat} {t : TypeId} {cs : Array Value} (h : Blk w g t cs) (j : Nat) : w.frozen? ⟨g, j, none⟩ = false := by
  unfold Blk at h
  simp [World.frozen?, h]
theorem Blk.set {w : World} {g : Nat} {t : TypeId} {cs : Array Value} (h : Blk w g t cs) (j : Nat) (v : Value) : Blk (w.setCell ⟨g, j, none⟩ v) g t (cs.setIfInBounds j v) := heap_setCell_same w g j cs t v h
theorem Blk.set_other {w : World} {g : Nat} {t : TypeId} {cs : Array Value} (h : Blk w g t cs) {a : Addr} (ha : g ≠ a.block) (v : Value) : Blk (w.setCell a v) g t cs := (heap_setCell_other w a g v ha).trans h
theorem Blk.alloc {w : World} {g : Nat} {t : TypeId} {cs : Array Value} (h : Blk w g t cs) (o : Obj) : Blk (w.alloc o) g t cs := (Below.heap_alloc w o g h.lt).trans h
theorem Blk.new (w : World) (t : TypeId) (cs : Array Value) : Blk (w.alloc (.cells cs t)) w.heap.size t cs := by
  show (w.heap.push _)[_]? = _
  simp
theorem Blk.below {w w' : World} {B g : Nat} {t : TypeId} {cs : Array Value} (h : Blk w g t cs) (hb : Below B w w') (hg : g < B) : Blk w' g t cs := (hb.block g hg).trans h
theorem Blk.drew {w : World} {g : Nat} {t : TypeId} {cs : Array Value} (h : Blk w g t cs) : Blk w.drew g t cs := h
theorem Blk.drewN {w : World} {g : Nat} {t : TypeId} {cs : Array Value} (h : Blk w g t cs) (n : Nat) : Blk (w.drewN n) g t cs := h

/-! ### A row of values -/
def vRow (f : Nat → Value) (n : Nat) : Array Value := Array.ofFn (n := n) fun i => f i
theorem vRow_at (f : Nat → Value) {n j : Nat} (h : j < n) : (vRow f n)[j]? = some (f j) := by
  simp [vRow, h]
def updV (f : Nat → Value) (j : Nat) (x : Value) : Nat → Value := fun i => if i = j then x else f i
theorem updV_same (f : Nat → Value) (j : Nat) (x : Value) : updV f j x j = x := by simp [updV]
theorem updV_other (f : Nat → Value) {j i : Nat} (x : Value) (h : i ≠ j) : updV f j x i = f i := by simp [updV, h]
theorem vRow_set (f : Nat → Value) (n j : Nat) (x : Value) : (vRow f n).setIfInBounds j x = vRow (updV f j x) n := by
  apply Array.ext
  · simp [vRow]
  · intro i h1 h2
    have h3 : i < (vRow f n).size := by simpa using h1
    by_cases e : j = i
    · subst e; simp [vRow, updV]
    · have e' : ¬ i = j := fun h => e h.symm
      rw [Array.getElem_setIfInBounds h3, if_neg e]
      simp [vRow, updV, e']
theorem vRow_nil (n : Nat) : madeCells #[.pointer none] n = vRow (fun _ => .pointer none) n := by
  apply Array.ext
  · simp [madeCells, vRow]
  · intro i h1 h2
    simp [madeCells, vRow, Nat.mod_one]
theorem Blk.val {w : World} {g : Nat} {t : TypeId} {f : Nat → Value} {n : Nat} (h : Blk w g t (vRow f n)) {j : Nat} (hj : j < n) : w.cell? ⟨g, j, none⟩ = some (f j) := (h.cell j).trans (vRow_at f hj)
theorem Blk.putV {w : World} {g : Nat} {t : TypeId} {f : Nat → Value} {n : Nat} (h : Blk w g t (vRow f n)) (j : Nat) (x : Value) : Blk (w.setCell ⟨g, j, none⟩ x) g t (vRow (updV f j x) n) := by
  have h1 := h.set j x
  rwa [vRow_set] at h1
theorem Blk.types {w : World} {g g' : Nat} {t t' : TypeId} {cs cs' : Array Value} (h : Blk w g t cs) (h' : Blk w g' t' cs') (ht : t ≠ t') : g ≠ g' := fun e => by
  subst e
  unfold Blk at h h'
  rw [h] at h'
  simp at h'
  exact ht h'.2

/-! ### make -/
theorem Yba.info48 : (Yba.prog.info? 48).map (fun i => (i.zero, i.size, i.bytes)) = some (some (.pointer none), 1, 8) := by kernel_rfl
theorem mk_ptr (m : Nat) (hn : m ≤ 100000) (w : World) : (Instr.makeSlice 24 (.int .i64 (m : Int)) (.int .i64 (m : Int))).run Yba.prog w = .ok (.slice (some ⟨w.heap.size, 0, none⟩) m m) (w.alloc (.cells (vRow (fun _ => .pointer none) m) 48)) := by
  obtain ⟨i, hi, hz0, hz1, hz2⟩ := info_parts Yba.info48
  have h := run_make (P := Yba.prog) w 24 48 i (.pointer none) Yba.underlying24 hi hz0 .i64 .i64 m m (by omega) (by omega) (by rw [hz2]; omega) (by omega)
  simpa [hz1, Value.cells, vRow_nil] using h

end Go.Proofs.Ybulkbffs
