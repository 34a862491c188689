import Derived.Test.YbulkbffsTools
namespace Go.Proofs.Ybulkbffs
open Go.RowKit
open Go.Conc.Locks Go.MuLone
set_option linter.unusedSimpArgs false

/-- The queue's cells. -/
def qc (L : Value) (A S n : Nat) : Array Value :=
  #[.int .i64 0, .string ⟨#[]⟩, .int .i32 0, .int .u32 0, L, .int .u32 0, .int .u32 0, .int .u64 0, .pointer none, .pointer none, .int .u64 0, .slice (some ⟨A, 0, none⟩) n n, .slice (some ⟨S, 0, none⟩) n n, .int .i64 0, .slice none 0 0, .int .i64 0, .int .i64 n, .int .u64 0, .int .i64 0, .pointer none, .bool false]
def Pre (w wx : World) (Q A S n : Nat) : Prop :=
  Below w.heap.size w wx ∧ (w.heap.size ≤ Q ∧ w.heap.size ≤ A ∧ w.heap.size ≤ S ∧ A ≠ S) ∧ Blk wx A 48 (vRow (fun _ => .pointer none) n) ∧ Blk wx S 48 (vRow (fun _ => .pointer none) n) ∧ Blk wx Q 46 (qc .nilIface A S n)

/-- An answer's cells. -/
def ac (k : Nat) : Array Value :=
  #[.string ⟨#[]⟩, .bool false, .map none, .map none, .int .i64 0, .slice none 0 0, .int .i64 0, .slice none 0 0, .int .u32 0, .pointer none, .int .i64 k, .bool false]
/-- A slot's value: nil, or an answer whose index is j. -/
def PV (wx : World) (v : Value) (j : Nat) : Prop := v = .pointer none ∨ ∃ g, v = .pointer (some ⟨g, 0, none⟩) ∧ Blk wx g 56 (ac j)
structure Inv (w wx : World) (Q A S W P n : Nat) : Prop where
  bel : Below w.heap.size w wx
  lo : w.heap.size ≤ Q ∧ w.heap.size ≤ A ∧ w.heap.size ≤ S ∧ w.heap.size ≤ W ∧ w.heap.size ≤ P
  ne : A ≠ S ∧ A ≠ W ∧ A ≠ P ∧ S ≠ W ∧ S ≠ P ∧ W ≠ P
  rows : ∃ fa fs : Nat → Value, Blk wx A 48 (vRow fa n) ∧ Blk wx P 48 (vRow fa n) ∧ Blk wx S 48 (vRow fs n) ∧ Blk wx W 48 (vRow fs n) ∧ ∀ j, j < n → PV wx (fa j) j ∧ PV wx (fs j) j
  q : Blk wx Q 46 (qc (.iface 47 (.pointer (some ⟨Q, 2, none⟩))) A S n)
/-- The bools of the argument. -/
def Bools (w : World) (a : Option Addr) (n : Nat) : Prop := ∀ j, j < n → ∃ b o x, a = some ⟨b, o, none⟩ ∧ b < w.heap.size ∧ w.cell? ⟨b, o + j, none⟩ = some (.bool x)

theorem PV.set {wx : World} {v : Value} {j A o : Nat} {u : Value} {t : TypeId} {cs : Array Value} (h : PV wx v j) (hA : Blk wx A t cs) (ht : (56 : TypeId) ≠ t) : PV (wx.setCell ⟨A, o, none⟩ u) v j := by
  rcases h with h | ⟨g, h, hg⟩
  · exact .inl h
  · exact .inr ⟨g, h, hg.set_other (hg.types hA ht) _⟩
theorem PV.alloc {wx : World} {v : Value} {j : Nat} (h : PV wx v j) (o : Obj) : PV (wx.alloc o) v j := by
  rcases h with h | ⟨g, h, hg⟩
  · exact .inl h
  · exact .inr ⟨g, h, hg.alloc o⟩
theorem PV.drewN {wx : World} {v : Value} {j : Nat} (h : PV wx v j) (q : Nat) : PV (wx.drewN q) v j := by
  rcases h with h | ⟨g, h, hg⟩
  · exact .inl h
  · exact .inr ⟨g, h, hg.drewN q⟩

theorem Inv.drewN {w wx : World} {Q A S W P n : Nat} (h : Inv w wx Q A S W P n) (q : Nat) : Inv w (wx.drewN q) Q A S W P n := by
  obtain ⟨fa, fs, bA, bP, bS, bW, hv⟩ := h.rows
  exact ⟨below_drewN h.bel q, h.lo, h.ne, ⟨fa, fs, bA.drewN q, bP.drewN q, bS.drewN q, bW.drewN q, fun j hj => ⟨(hv j hj).1.drewN q, (hv j hj).2.drewN q⟩⟩, h.q.drewN q⟩

/-- The lock's state word may turn. -/
theorem qc_lock (L : Value) (A S n : Nat) : ((qc L A S n).setIfInBounds 2 (.int .i32 1)).setIfInBounds 2 (.int .i32 0) = qc L A S n := rfl

theorem Inv.lock {w wx : World} {Q A S W P n : Nat} (h : Inv w wx Q A S W P n) : Inv w ((wx.setCell ⟨Q, 2, none⟩ (.int .i32 1)).setCell ⟨Q, 2, none⟩ (.int .i32 0)) Q A S W P n := by
  obtain ⟨fa, fs, bA, bP, bS, bW, hv⟩ := h.rows
  have hq1 := h.q.set 2 (.int .i32 1)
  have hq2 := hq1.set 2 (.int .i32 0)
  rw [qc_lock] at hq2
  have qA := bA.types h.q (by decide)
  have qP := bP.types h.q (by decide)
  have qS := bS.types h.q (by decide)
  have qW := bW.types h.q (by decide)
  exact ⟨(h.bel.setCell h.lo.1 _).setCell h.lo.1 _, h.lo, h.ne, ⟨fa, fs, (bA.set_other qA _).set_other qA _, (bP.set_other qP _).set_other qP _, (bS.set_other qS _).set_other qS _, (bW.set_other qW _).set_other qW _,
    fun j hj => ⟨((hv j hj).1.set h.q (by decide)).set hq1 (by decide), ((hv j hj).2.set h.q (by decide)).set hq1 (by decide)⟩⟩, hq2⟩

theorem Inv.step1 {w wx : World} {Q A S W P n : Nat} (h : Inv w wx Q A S W P n) (k : Nat) :
    Inv w (((wx.setCell ⟨A, k, none⟩ (.pointer (some ⟨wx.heap.size, 0, none⟩))).setCell ⟨P, k, none⟩ (.pointer (some ⟨wx.heap.size, 0, none⟩))).alloc (.cells (ac k) 56)) Q A S W P n := by
  obtain ⟨fa, fs, bA, bP, bS, bW, hv⟩ := h.rows
  obtain ⟨e1, e2, e3, e4, e5, e6⟩ := h.ne
  obtain ⟨l1, l2, l3, l4, l5⟩ := h.lo
  have qA := h.q.types bA (by decide)
  have qP := h.q.types bP (by decide)
  generalize hp : (Value.pointer (some ⟨wx.heap.size, 0, none⟩)) = p
  have bA1 := bA.putV k p
  have bP1 := bP.set_other (a := ⟨A, k, none⟩) (Ne.symm e3) p
  have hb := (h.bel.setCell (p := ⟨A, k, none⟩) l2 p).setCell (p := ⟨P, k, none⟩) l5 p
  have hN := Blk.new ((wx.setCell ⟨A, k, none⟩ p).setCell ⟨P, k, none⟩ p) 56 (ac k)
  have ez : ((wx.setCell ⟨A, k, none⟩ p).setCell ⟨P, k, none⟩ p).heap.size = wx.heap.size := by simp
  rw [ez] at hN
  refine ⟨hb.alloc hb.size _, h.lo, h.ne, ⟨updV fa k p, fs, ((bA1.set_other (a := ⟨P, k, none⟩) e3 p).alloc _), ((bP1.putV k p).alloc _), ((bS.set_other (a := ⟨A, k, none⟩) (Ne.symm e1) p).set_other (a := ⟨P, k, none⟩) e5 p).alloc _, ((bW.set_other (a := ⟨A, k, none⟩) (Ne.symm e2) p).set_other (a := ⟨P, k, none⟩) e6 p).alloc _, fun j hj => ⟨?_, (((hv j hj).2.set bA (by decide)).set bP1 (by decide)).alloc _⟩⟩, ((h.q.set_other (a := ⟨A, k, none⟩) qA p).set_other (a := ⟨P, k, none⟩) qP p).alloc _⟩
  by_cases e : j = k
  · subst e
    rw [updV_same]
    exact .inr ⟨_, hp.symm, hN⟩
  · rw [updV_other _ _ e]
    exact (((hv j hj).1.set bA (by decide)).set bP1 (by decide)).alloc _

theorem Inv.step2 {w wx : World} {Q A S W P n : Nat} (h : Inv w wx Q A S W P n) (k : Nat) :
    Inv w (((((wx.setCell ⟨A, k, none⟩ (.pointer (some ⟨wx.heap.size, 0, none⟩))).setCell ⟨P, k, none⟩ (.pointer (some ⟨wx.heap.size, 0, none⟩))).setCell ⟨S, k, none⟩ (.pointer (some ⟨wx.heap.size + 1, 0, none⟩))).setCell ⟨W, k, none⟩ (.pointer (some ⟨wx.heap.size + 1, 0, none⟩))).alloc (.cells (ac k) 56) |>.alloc (.cells (ac k) 56)) Q A S W P n := by
  obtain ⟨fa, fs, bA, bP, bS, bW, hv⟩ := h.rows
  obtain ⟨e1, e2, e3, e4, e5, e6⟩ := h.ne
  obtain ⟨l1, l2, l3, l4, l5⟩ := h.lo
  have qA := h.q.types bA (by decide)
  have qP := h.q.types bP (by decide)
  have qS := h.q.types bS (by decide)
  have qW := h.q.types bW (by decide)
  generalize hp : (Value.pointer (some ⟨wx.heap.size, 0, none⟩)) = p
  generalize hr : (Value.pointer (some ⟨wx.heap.size + 1, 0, none⟩)) = r
  have bA1 := bA.putV k p
  have bP1 := bP.set_other (a := ⟨A, k, none⟩) (Ne.symm e3) p
  have bP2 := bP1.putV k p
  have bA2 := bA1.set_other (a := ⟨P, k, none⟩) e3 p
  have bS1 := bS.set_other (a := ⟨A, k, none⟩) (Ne.symm e1) p
  have bS2 := bS1.set_other (a := ⟨P, k, none⟩) e5 p
  have bW1 := bW.set_other (a := ⟨A, k, none⟩) (Ne.symm e2) p
  have bW2 := bW1.set_other (a := ⟨P, k, none⟩) e6 p
  have bS3 := bS2.putV k r
  have bW3 := bW2.set_other (a := ⟨S, k, none⟩) (Ne.symm e4) r
  have bW4 := bW3.putV k r
  have bS4 := bS3.set_other (a := ⟨W, k, none⟩) e4 r
  have bA4 := (bA2.set_other (a := ⟨S, k, none⟩) e1 r).set_other (a := ⟨W, k, none⟩) e2 r
  have bP4 := (bP2.set_other (a := ⟨S, k, none⟩) (Ne.symm e5) r).set_other (a := ⟨W, k, none⟩) (Ne.symm e6) r
  have bQ4 := (((h.q.set_other (a := ⟨A, k, none⟩) qA p).set_other (a := ⟨P, k, none⟩) qP p).set_other (a := ⟨S, k, none⟩) qS r).set_other (a := ⟨W, k, none⟩) qW r
  have hb := (((h.bel.setCell (p := ⟨A, k, none⟩) l2 p).setCell (p := ⟨P, k, none⟩) l5 p).setCell (p := ⟨S, k, none⟩) l3 r).setCell (p := ⟨W, k, none⟩) l4 r
  have hv4 : ∀ {v : Value} {j : Nat}, PV wx v j → PV ((((wx.setCell ⟨A, k, none⟩ p).setCell ⟨P, k, none⟩ p).setCell ⟨S, k, none⟩ r).setCell ⟨W, k, none⟩ r) v j := fun hx => (((hx.set bA (by decide)).set bP1 (by decide)).set bS2 (by decide)).set bW3 (by decide)
  have ez : ((((wx.setCell ⟨A, k, none⟩ p).setCell ⟨P, k, none⟩ p).setCell ⟨S, k, none⟩ r).setCell ⟨W, k, none⟩ r).heap.size = wx.heap.size := by simp
  generalize hw4 : (((wx.setCell ⟨A, k, none⟩ p).setCell ⟨P, k, none⟩ p).setCell ⟨S, k, none⟩ r).setCell ⟨W, k, none⟩ r = w4 at *
  have hN1 := Blk.new w4 56 (ac k)
  have hN2 := Blk.new (w4.alloc (.cells (ac k) 56)) 56 (ac k)
  have ez2 : (w4.alloc (.cells (ac k) 56)).heap.size = wx.heap.size + 1 := by simp [ez]
  rw [ez] at hN1
  rw [ez2] at hN2
  have hb1 := hb.alloc hb.size (.cells (ac k) 56)
  refine ⟨hb1.alloc hb1.size _, h.lo, h.ne, ⟨updV fa k p, updV fs k r, (bA4.alloc _).alloc _, (bP4.alloc _).alloc _, (bS4.alloc _).alloc _, (bW4.alloc _).alloc _, fun j hj => ?_⟩, (bQ4.alloc _).alloc _⟩
  by_cases e : j = k
  · subst e
    rw [updV_same, updV_same]
    exact ⟨.inr ⟨_, hp.symm, hN1.alloc _⟩, .inr ⟨_, hr.symm, hN2⟩⟩
  · rw [updV_other _ _ e, updV_other _ _ e]
    exact ⟨((hv4 (hv j hj).1).alloc _).alloc _, ((hv4 (hv j hj).2).alloc _).alloc _⟩

theorem Inv.start {w wc : World} {Q A S n : Nat} (h : Pre w wc Q A S n) :
    Inv w (((wc.setCell ⟨Q, 4, none⟩ (.iface 47 (.pointer (some ⟨Q, 2, none⟩)))).alloc (.cells (vRow (fun _ => .pointer none) n) 48)).alloc (.cells (vRow (fun _ => .pointer none) n) 48)) Q A S wc.heap.size (wc.heap.size + 1) n := by
  obtain ⟨hb, ⟨hQ, hA, hS, hAS⟩, bA, bS, bQ⟩ := h
  have qA := bA.types bQ (by decide)
  have qS := bS.types bQ (by decide)
  have zA := bA.lt
  have zS := bS.lt
  have zw := hb.size
  have hb1 := hb.setCell (p := ⟨Q, 4, none⟩) hQ (.iface 47 (.pointer (some ⟨Q, 2, none⟩)))
  have bQ1 := bQ.set 4 (.iface 47 (.pointer (some ⟨Q, 2, none⟩)))
  have bA1 := bA.set_other (a := ⟨Q, 4, none⟩) qA (.iface 47 (.pointer (some ⟨Q, 2, none⟩)))
  have bS1 := bS.set_other (a := ⟨Q, 4, none⟩) qS (.iface 47 (.pointer (some ⟨Q, 2, none⟩)))
  have ez : (wc.setCell ⟨Q, 4, none⟩ (.iface 47 (.pointer (some ⟨Q, 2, none⟩)))).heap.size = wc.heap.size := by simp
  generalize wc.setCell ⟨Q, 4, none⟩ (.iface 47 (.pointer (some ⟨Q, 2, none⟩))) = w4 at *
  have hb2 := hb1.alloc hb1.size (.cells (vRow (fun _ => .pointer none) n) 48)
  have n1 := Blk.new w4 48 (vRow (fun _ => .pointer none) n)
  have n2 := Blk.new (w4.alloc (.cells (vRow (fun _ => .pointer none) n) 48)) 48 (vRow (fun _ => .pointer none) n)
  have ez2 : (w4.alloc (.cells (vRow (fun _ => .pointer none) n) 48)).heap.size = wc.heap.size + 1 := by simp [ez]
  rw [ez] at n1
  rw [ez2] at n2
  exact ⟨hb2.alloc hb2.size _, ⟨hQ, hA, hS, zw, by omega⟩, ⟨hAS, by omega, by omega, by omega, by omega, by omega⟩, ⟨fun _ => .pointer none, fun _ => .pointer none, (bA1.alloc _).alloc _, n2, (bS1.alloc _).alloc _, n1.alloc _, fun _ _ => ⟨.inl rfl, .inl rfl⟩⟩, (bQ1.alloc _).alloc _⟩

theorem Pre.new1 (w : World) (n : Nat) : Pre w ((((w.alloc (.cells (vRow (fun _ => .pointer none) n) 48)).alloc (.cells (vRow (fun _ => .pointer none) n) 48)).alloc (.cells (qc .nilIface (w.heap.size + 1) w.heap.size n) 46)).drew) (w.heap.size + 1 + 1) (w.heap.size + 1) w.heap.size n := by
  have hb1 := bel1 w (.cells (vRow (fun _ => .pointer none) n) 48)
  have hb2 := hb1.alloc hb1.size (.cells (vRow (fun _ => .pointer none) n) 48)
  have hb3 := hb2.alloc hb2.size (.cells (qc .nilIface (w.heap.size + 1) w.heap.size n) 46)
  have n1 := Blk.new w 48 (vRow (fun _ => .pointer none) n)
  have n2 := Blk.new (w.alloc (.cells (vRow (fun _ => .pointer none) n) 48)) 48 (vRow (fun _ => .pointer none) n)
  have n3 := Blk.new ((w.alloc (.cells (vRow (fun _ => .pointer none) n) 48)).alloc (.cells (vRow (fun _ => .pointer none) n) 48)) 46 (qc .nilIface (w.heap.size + 1) w.heap.size n)
  simp only [World.size_alloc] at n2 n3
  exact ⟨hb3.drew, ⟨by omega, by omega, by omega, by omega⟩, (n2.alloc _).drew, ((n1.alloc _).alloc _).drew, n3.drew⟩
theorem Pre.new2 (w : World) (n : Nat) : Pre w ((((w.alloc (.cells (vRow (fun _ => .pointer none) n) 48)).alloc (.cells (vRow (fun _ => .pointer none) n) 48)).alloc (.cells (qc .nilIface w.heap.size (w.heap.size + 1) n) 46)).drew) (w.heap.size + 1 + 1) w.heap.size (w.heap.size + 1) n := by
  have hb1 := bel1 w (.cells (vRow (fun _ => .pointer none) n) 48)
  have hb2 := hb1.alloc hb1.size (.cells (vRow (fun _ => .pointer none) n) 48)
  have hb3 := hb2.alloc hb2.size (.cells (qc .nilIface w.heap.size (w.heap.size + 1) n) 46)
  have n1 := Blk.new w 48 (vRow (fun _ => .pointer none) n)
  have n2 := Blk.new (w.alloc (.cells (vRow (fun _ => .pointer none) n) 48)) 48 (vRow (fun _ => .pointer none) n)
  have n3 := Blk.new ((w.alloc (.cells (vRow (fun _ => .pointer none) n) 48)).alloc (.cells (vRow (fun _ => .pointer none) n) 48)) 46 (qc .nilIface w.heap.size (w.heap.size + 1) n)
  simp only [World.size_alloc] at n2 n3
  exact ⟨hb3.drew, ⟨by omega, by omega, by omega, by omega⟩, ((n1.alloc _).alloc _).drew, (n2.alloc _).drew, n3.drew⟩

end Go.Proofs.Ybulkbffs
