import Derived.Test.YbulkbfdoTools
namespace Go.Proofs.Ybulkbfdo
open Go.RowKit
set_option linter.unusedSimpArgs false

/-- Block g of w begins with the n integers f; none of its cells is frozen. -/
def Row (w : World) (g : Nat) (k : IntKind) (f : Nat → Int) (n : Nat) : Prop := (∀ j, j < n → w.cell? ⟨g, j, none⟩ = some (.int k (f j))) ∧ (∀ j, w.frozen? ⟨g, j, none⟩ = false) ∧ g < w.heap.size

theorem Row.below {w w' : World} {B g : Nat} {k : IntKind} {f : Nat → Int} {n : Nat} (h : Row w g k f n) (hb : Below B w w') (hg : g < B) : Row w' g k f n :=
  ⟨fun j hj => (hb.cell (p := ⟨g, j, none⟩) hg).trans (h.1 j hj), fun j => (hb.frozen (p := ⟨g, j, none⟩) hg).trans (h.2.1 j), Nat.lt_of_lt_of_le h.2.2 hb.size⟩
theorem Row.put {w : World} {g : Nat} {k : IntKind} {f : Nat → Int} {n : Nat} (h : Row w g k f n) {j : Nat} (hj : j < n) (x : Int) : Row (w.setCell ⟨g, j, none⟩ (.int k x)) g k (upd f j x) n := by
  refine ⟨fun i hi => ?_, fun i => by simpa using h.2.1 i, by simpa using h.2.2⟩
  by_cases e : i = j
  · subst e; rw [upd_same]; exact World.cell?_setCell_same _ _ _ (h.1 i hi)
  · rw [upd_other _ _ e, World.cell?_setCell_other _ _ _ _ (by simp <;> omega)]; exact h.1 i hi
theorem Row.set_other {w : World} {g : Nat} {k : IntKind} {f : Nat → Int} {n : Nat} (h : Row w g k f n) {a : Addr} (ha : a.block ≠ g) (v : Value) : Row (w.setCell a v) g k f n :=
  ⟨fun i hi => by rw [World.cell?_setCell_other _ _ _ _ (by intro e; apply ha; rw [e])]; exact h.1 i hi, fun i => by simpa using h.2.1 i, by simpa using h.2.2⟩
theorem Row.alloc {w : World} {g : Nat} {k : IntKind} {f : Nat → Int} {n : Nat} (h : Row w g k f n) (o : Obj) : Row (w.alloc o) g k f n :=
  h.below (bel1 w o) h.2.2

theorem row_of_owns {w : World} {base e : Nat} {k : IntKind} {f : Nat → Int} {n : Nat} {v : Value} (h : w.ownsRow base e 1 v n ((List.range n).map fun j => .int k (f j))) (hv : v ≠ .slice none 0 0) :
    ∃ g c, v = .slice (some ⟨g, 0, none⟩) n c ∧ base ≤ g ∧ Row w g k f n := by
  obtain ⟨_, h⟩ := h
  rcases h with ⟨h, _⟩ | ⟨g, cap, cur, h1, h2, h3, h4, h5, h6, h7⟩
  · exact absurd h hv
  · have hB : Blk w g e cur := h3
    refine ⟨g, cap, h1, h2, fun j hj => ?_, hB.frozen, hB.lt⟩
    rw [hB.cell]
    have e1 : (cur.toList.take (n * 1))[j]? = some (.int k (f j)) := by rw [h7]; simp [hj]
    rw [List.getElem?_take] at e1
    simp only [Nat.mul_one, hj, if_true] at e1
    simpa using e1

theorem Yba.info2 : (Yba.prog.info? 2).map (fun i => (i.zero, i.size, i.bytes)) = some (some (.int .i64 0), 1, 8) := by kernel_rfl

theorem owns_empty (w : World) (e : TypeId) : (w.alloc (.cells #[] e)).ownsRow w.heap.size e 1 (.slice (some ⟨w.heap.size, 0, none⟩) 0 0) 0 [] :=
  ⟨rfl, .inr ⟨w.heap.size, 0, #[], rfl, Nat.le_refl _, Blk.new w e #[], Nat.le_refl _, Nat.zero_le _, rfl, rfl⟩⟩

set_option maxHeartbeats 400000 in
theorem clone64_some (x : Addr) (n cap : Nat) (f : Nat → Int) (hn : n ≤ 1025) (w : World) (hc : ∀ j, j < n → w.cell? (x.add j) = some (.int .i64 (f j))) :
    Calls Yba.prog 13 #[.slice (some x) n cap] w fun e w' => ∃ g c, e = .returned (.slice (some ⟨g, 0, none⟩) n c) ∧ w.heap.size ≤ g ∧ Row w' g .i64 f n ∧ Below w.heap.size w w' := by
  obtain ⟨i0, hi, hz0, hz1, hz2⟩ := info_parts Yba.info2
  have hs := fun (w : World) => Lib.run_eql_slice_nil (P := Yba.prog) w 44 2 (some x) n cap 0 0 Yba.underlying44
  have HC : Hid (∀ j, j < n → w.cell? (x.add j) = some (.int .i64 (f j))) := hc
  clear hc
  go_enter Yba.func13, Yba.ntmps13
  go_wp2_with (at_builtin; refine wpList_append_own _ rfl _ _ 44 rfl w.heap.size 2 i0 (.int .i64 0) 1 8 Yba.underlying44 hi hz0 hz1 hz2 rfl (by decide) _ 0 [] rfl ?c0 x n cap ((List.range n).map fun j => .int .i64 (f j)) rfl ?c1 ?c2 ?c3 ?c4 ?c5 ?c6 ?c7)
  case c0 => exact owns_empty w 2
  case c1 => simp
  case c2 =>
    intro j u hj
    have hjn : j < n := by have := (List.getElem?_eq_some_iff.1 hj).1; simpa using this
    have e : u = .int .i64 (f j) := by simpa [hjn] using hj.symm
    rw [e]
    exact cell_later (bel1 w _) (HC.out j hjn)
  case c3 =>
    intro u hu
    obtain ⟨j, _, rfl⟩ := List.mem_map.1 hu
    rfl
  case c4 => unfold maxLen; omega
  case c5 => omega
  case c6 => simp
  case c7 =>
    intro v' w1 hown hgrow hnil
    obtain ⟨g, c, hv, hg, hR⟩ := row_of_owns hown hnil
    have hb : Below w.heap.size w w1 := (bel1 w _).grown hgrow (by simp) (fun k hk => by simp [Value.ownBlock] at hk; omega)
    rw [hv]
    clear hown hgrow hnil hv
    go_wp2
    go_ret
    exact ⟨g, c, rfl, hg, hR, hb⟩

set_option maxHeartbeats 400000 in
theorem clone64_nil (w : World) : Calls Yba.prog 13 #[.slice none 0 0] w fun e w' => e = .returned (.slice none 0 0) ∧ w' = w := by
  have hs := fun (w : World) => Lib.run_eql_slice_nil (P := Yba.prog) w 44 2 none 0 0 0 0 Yba.underlying44
  go_enter Yba.func13, Yba.ntmps13
  go_wp2
  go_ret
  exact ⟨rfl, rfl⟩

set_option maxHeartbeats 400000 in
theorem clone32_some (x : Addr) (n cap : Nat) (f : Nat → Int) (hn : n ≤ 1025) (w : World) (hc : ∀ j, j < n → w.cell? (x.add j) = some (.int .i32 (f j))) :
    Calls Yba.prog 14 #[.slice (some x) n cap] w fun e w' => ∃ g c, e = .returned (.slice (some ⟨g, 0, none⟩) n c) ∧ w.heap.size ≤ g ∧ Row w' g .i32 f n ∧ Below w.heap.size w w' := by
  obtain ⟨i0, hi, hz0, hz1, hz2⟩ := info_parts Yba.info21
  have hs := fun (w : World) => Lib.run_eql_slice_nil (P := Yba.prog) w 29 21 (some x) n cap 0 0 Yba.underlying29
  have HC : Hid (∀ j, j < n → w.cell? (x.add j) = some (.int .i32 (f j))) := hc
  clear hc
  go_enter Yba.func14, Yba.ntmps14
  go_wp2_with (at_builtin; refine wpList_append_own _ rfl _ _ 29 rfl w.heap.size 21 i0 (.int .i32 0) 1 4 Yba.underlying29 hi hz0 hz1 hz2 rfl (by decide) _ 0 [] rfl ?c0 x n cap ((List.range n).map fun j => .int .i32 (f j)) rfl ?c1 ?c2 ?c3 ?c4 ?c5 ?c6 ?c7)
  case c0 => exact owns_empty w 21
  case c1 => simp
  case c2 =>
    intro j u hj
    have hjn : j < n := by have := (List.getElem?_eq_some_iff.1 hj).1; simpa using this
    have e : u = .int .i32 (f j) := by simpa [hjn] using hj.symm
    rw [e]
    exact cell_later (bel1 w _) (HC.out j hjn)
  case c3 =>
    intro u hu
    obtain ⟨j, _, rfl⟩ := List.mem_map.1 hu
    rfl
  case c4 => unfold maxLen; omega
  case c5 => omega
  case c6 => simp
  case c7 =>
    intro v' w1 hown hgrow hnil
    obtain ⟨g, c, hv, hg, hR⟩ := row_of_owns hown hnil
    have hb : Below w.heap.size w w1 := (bel1 w _).grown hgrow (by simp) (fun k hk => by simp [Value.ownBlock] at hk; omega)
    rw [hv]
    clear hown hgrow hnil hv
    go_wp2
    go_ret
    exact ⟨g, c, rfl, hg, hR, hb⟩

set_option maxHeartbeats 400000 in
theorem clone32_nil (w : World) : Calls Yba.prog 14 #[.slice none 0 0] w fun e w' => e = .returned (.slice none 0 0) ∧ w' = w := by
  have hs := fun (w : World) => Lib.run_eql_slice_nil (P := Yba.prog) w 29 21 none 0 0 0 0 Yba.underlying29
  go_enter Yba.func14, Yba.ntmps14
  go_wp2
  go_ret
  exact ⟨rfl, rfl⟩

end Go.Proofs.Ybulkbfdo
