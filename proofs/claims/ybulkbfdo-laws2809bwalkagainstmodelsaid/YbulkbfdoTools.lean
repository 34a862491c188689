import Derived.Test.YbulkbfdoRows
import Derived.WalkKit
import Derived.WalkSpells
import Derived.WalkLawsBesides
import Derived.RegionTactic
import Derived.ChangeAlike
import Derived.Deep.QuietTactic
import Derived.BigQuiet
import Derived.Below
import Derived.Deep.OwnRows
import Derived.Deep.RegionWith
import Derived.Deep.RegionHeld3
import Derived.Deep.DeepCutAuto
import Derived.Deep.CutBlock
import Derived.Laws.CopyRow
import Derived.Laws.CopyOwn
import Derived.Lib.SliceRun
namespace Go.Proofs.Ybulkbfdo
open Go.RowKit
set_option linter.unusedSimpArgs false

theorem ret_int {k : IntKind} {a b : Int} (h : a = b) : Ending.returned (.int k a) = .returned (.int k b) := by rw [h]
theorem bel1 (w : World) (a : Obj) : Below w.heap.size w (w.alloc a) := (Below.refl _ _).alloc (Nat.le_refl _) _

/-! ### A block, whole -/
/-- Block g of w is a row of cells of type t, none of them frozen. -/
def Blk (w : World) (g : Nat) (t : TypeId) (cs : Array Value) : Prop := w.heap[g]? = some (.cells cs t (0, 0))

theorem Blk.lt {w : World} {g : Nat} {t : TypeId} {cs : Array Value} (h : Blk w g t cs) : g < w.heap.size := by
  by_cases hg : g < w.heap.size
  · exact hg
  · unfold Blk at h; rw [Array.getElem?_eq_none (by omega)] at h; cases h
theorem Blk.cell {w : World} {g : Nat} {t : TypeId} {cs : Array Value} (h : Blk w g t cs) (j : Nat) : w.cell? ⟨g, j, none⟩ = cs[j]? := by
  unfold Blk at h
  simp [World.cell?, h]
theorem Blk.frozen {w : World} {g : Nat} {t : TypeId} {cs : Array Value} (h : Blk w g t cs) (j : Nat) : w.frozen? ⟨g, j, none⟩ = false := by
  unfold Blk at h
  simp [World.frozen?, h]
theorem Blk.set {w : World} {g : Nat} {t : TypeId} {cs : Array Value} (h : Blk w g t cs) (j : Nat) (v : Value) : Blk (w.setCell ⟨g, j, none⟩ v) g t (cs.setIfInBounds j v) := heap_setCell_same w g j cs t v h
theorem Blk.set_other {w : World} {g : Nat} {t : TypeId} {cs : Array Value} (h : Blk w g t cs) {a : Addr} (ha : g ≠ a.block) (v : Value) : Blk (w.setCell a v) g t cs := (heap_setCell_other w a g v ha).trans h
theorem Blk.alloc {w : World} {g : Nat} {t : TypeId} {cs : Array Value} (h : Blk w g t cs) (o : Obj) : Blk (w.alloc o) g t cs := (Below.heap_alloc w o g h.lt).trans h
theorem Blk.new (w : World) (t : TypeId) (cs : Array Value) : Blk (w.alloc (.cells cs t)) w.heap.size t cs := by
  show (w.heap.push _)[_]? = _
  simp
theorem Blk.below {w w' : World} {B g : Nat} {t : TypeId} {cs : Array Value} (h : Blk w g t cs) (hb : Below B w w') (hg : g < B) : Blk w' g t cs := (hb.block g hg).trans h
theorem Blk.drew {w : World} {g : Nat} {t : TypeId} {cs : Array Value} (h : Blk w g t cs) : Blk w.drew g t cs := h
theorem Blk.drewN {w : World} {g : Nat} {t : TypeId} {cs : Array Value} (h : Blk w g t cs) (n : Nat) : Blk (w.drewN n) g t cs := h

/-! ### A row of integers -/
def rowOf (k : IntKind) (f : Nat → Int) (n : Nat) : Array Value := Array.ofFn (n := n) fun i => .int k (f i)
theorem rowOf_size (k : IntKind) (f : Nat → Int) (n : Nat) : (rowOf k f n).size = n := by simp [rowOf]
theorem rowOf_at (k : IntKind) (f : Nat → Int) {n j : Nat} (h : j < n) : (rowOf k f n)[j]? = some (.int k (f j)) := by
  rw [Array.getElem?_eq_getElem (by simpa [rowOf_size] using h)]
  simp [rowOf]
def upd (f : Nat → Int) (j : Nat) (x : Int) : Nat → Int := fun i => if i = j then x else f i
theorem upd_same (f : Nat → Int) (j : Nat) (x : Int) : upd f j x j = x := by simp [upd]
theorem upd_other (f : Nat → Int) {j i : Nat} (x : Int) (h : i ≠ j) : upd f j x i = f i := by simp [upd, h]
theorem rowOf_set (k : IntKind) (f : Nat → Int) (n j : Nat) (x : Int) : (rowOf k f n).setIfInBounds j (.int k x) = rowOf k (upd f j x) n := by
  apply Array.ext
  · simp [rowOf_size]
  · intro i h1 h2
    simp only [Array.size_setIfInBounds, rowOf_size] at h1
    rw [Array.getElem_setIfInBounds (by simpa [rowOf_size] using h1)]
    by_cases e : j = i
    · subst e; simp [rowOf, upd]
    · simp [rowOf, upd, e, Ne.symm e]
theorem rowOf_congr (k : IntKind) {f g : Nat → Int} {n : Nat} (h : ∀ j, j < n → f j = g j) : rowOf k f n = rowOf k g n := by
  apply Array.ext
  · simp [rowOf_size]
  · intro i h1 h2
    simp only [rowOf_size] at h1
    simp [rowOf, h i h1]
theorem rowOf_zero (k : IntKind) (n : Nat) : madeCells #[.int k 0] n = rowOf k (fun _ => 0) n := by
  apply Array.ext
  · simp [rowOf_size, size_madeCells]
  · intro i h1 h2
    simp [rowOf, madeCells, Nat.mod_one]
theorem Blk.int {w : World} {g : Nat} {t : TypeId} {k : IntKind} {f : Nat → Int} {n : Nat} (h : Blk w g t (rowOf k f n)) {j : Nat} (hj : j < n) : w.cell? ⟨g, j, none⟩ = some (.int k (f j)) := (h.cell j).trans (rowOf_at k f hj)
theorem Blk.put {w : World} {g : Nat} {t : TypeId} {k : IntKind} {f : Nat → Int} {n : Nat} (h : Blk w g t (rowOf k f n)) (j : Nat) (x : Int) : Blk (w.setCell ⟨g, j, none⟩ (.int k x)) g t (rowOf k (upd f j x) n) := by
  have := h.set j (.int k x)
  rwa [rowOf_set] at this

/-! ### make -/
theorem Yba.info21 : (Yba.prog.info? 21).map (fun i => (i.zero, i.size, i.bytes)) = some (some (.int .i32 0), 1, 4) := by kernel_rfl
theorem mk_i32 (m c : Nat) (hm : m ≤ c) (hn : c ≤ 100000) (w : World) : (Instr.makeSlice 29 (.int .i64 (m : Int)) (.int .i64 (c : Int))).run Yba.prog w = .ok (.slice (some ⟨w.heap.size, 0, none⟩) m c) (w.alloc (.cells (rowOf .i32 (fun _ => 0) c) 21)) := by
  obtain ⟨i, hi, hz0, hz1, hz2⟩ := info_parts Yba.info21
  have h := run_make (P := Yba.prog) w 29 21 i (.int .i32 0) Yba.underlying29 hi hz0 .i64 .i64 m c (by omega) (by omega) (by rw [hz2]; omega) (by omega)
  simpa [hz1, Value.cells, rowOf_zero] using h

end Go.Proofs.Ybulkbfdo
