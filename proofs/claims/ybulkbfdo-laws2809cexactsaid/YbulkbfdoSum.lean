import Derived.Test.YbulkbfdoClone
namespace Go.Proofs.Ybulkbfdo
open Go.RowKit
set_option linter.unusedSimpArgs false

/-- The nodes' slice: nil, or a row of its own above Dd. -/
def NS (w : World) (T Dd : Nat) (v : Value) (n : Nat) (f : Nat → Int) : Prop :=
  (v = .slice none 0 0 ∧ n = 0) ∨ ∃ g c, v = .slice (some ⟨g, 0, none⟩) n c ∧ Dd < g ∧ g ≠ T ∧ Row w g .i64 f n
/-- The closer slice: nil, or a row below Dd. -/
def CS (w : World) (Dd : Nat) (cv : Value) (m : Nat) (cl : Nat → Int) : Prop :=
  (cv = .slice none 0 0 ∧ m = 0) ∨ ∃ h c, cv = .slice (some ⟨h, 0, none⟩) m c ∧ h < Dd ∧ Row w h .i32 cl m
/-- A tally at T over the distances at Dd. -/
def Tally (w : World) (T Dd : Nat) (v cv : Value) (n m : Nat) (f cl : Nat → Int) (runs : Int) : Prop :=
  (w.cell? ⟨T, 3, none⟩ = some v ∧ w.cell? ⟨T, 4, none⟩ = some (.pointer (some ⟨Dd, 0, none⟩)) ∧ w.cell? ⟨T, 5, none⟩ = some (.int .i64 runs)) ∧ (∀ o, w.frozen? ⟨T, o, none⟩ = false) ∧ T < w.heap.size ∧ Dd < T ∧
  w.cell? ⟨Dd, 1, none⟩ = some cv ∧ NS w T Dd v n f ∧ CS w Dd cv m cl

def ext (n : Nat) (f : Nat → Int) : Nat → Int := fun j => if j < n then f j else 0

theorem copy_into (g g0 n c k : Nat) (f : Nat → Int) (hk : n ≤ k) (w : World) (hg : Blk w g 2 (rowOf .i64 (fun _ => 0) k)) (hr : Row w g0 .i64 f n) :
    (Builtin.copy_ #[44, 44] 3 #[.slice (some ⟨g, 0, none⟩) k k, .slice (some ⟨g0, 0, none⟩) n c]).run Yba.prog w = .ok (.int .i64 (n : Int)) (w.setRow g (rowOf .i64 (ext n f) k)) := by
  have hs : (Yba.prog.info? 2).map (·.size) = some 1 := by kernel_rfl
  have hl : ((List.range n).map fun j => Value.int .i64 (f j)).length = n := by simp
  have r := run_copy_row (P := Yba.prog) w 44 44 3 2 g 0 k k ⟨g0, 0, none⟩ n c (rowOf .i64 (fun _ => 0) k) 2 ((List.range n).map fun j => .int .i64 (f j)) Yba.underlying44 hs hg
    (by rw [hl]; exact (Nat.min_eq_left hk).symm)
    (fun j v hj => by
      have hjn : j < n := by have := (List.getElem?_eq_some_iff.1 hj).1; simpa using this
      have e : v = .int .i64 (f j) := by simpa [hjn] using hj.symm
      rw [e, show (⟨g0, 0, none⟩ : Addr).add j = ⟨g0, j, none⟩ by cases j <;> simp [Addr.add]]
      exact hr.1 j hjn)
    (by rw [hl, rowOf_size]; omega)
    (fun v hv => by
      obtain ⟨j, _, rfl⟩ := List.mem_map.1 hv
      rfl)
  rw [r]
  have e1 : goInt ((List.range n).map fun j => Value.int .i64 (f j)).length = .int .i64 (n : Int) := by rw [hl]; rfl
  have e2 : ((rowOf .i64 (fun _ => 0) k).toList.take 0 ++ ((List.range n).map fun j => Value.int .i64 (f j)) ++ (rowOf .i64 (fun _ => 0) k).toList.drop (0 + ((List.range n).map fun j => Value.int .i64 (f j)).length)).toArray = rowOf .i64 (ext n f) k := by
    rw [hl]
    apply Array.ext
    · simp [rowOf_size]; omega
    · intro i h1 h2
      have h2' : i < k := by simpa [rowOf_size] using h2
      simp only [List.take_zero, List.nil_append, Nat.zero_add]
      rw [List.getElem_toArray]
      by_cases hi : i < n
      · rw [List.getElem_append_left (by simpa using hi)]
        simp [rowOf, ext, hi]
      · rw [List.getElem_append_right (by simp; omega)]
        simp [rowOf, ext, hi]
  rw [e1, e2]

theorem mk_i64 (k : Nat) (hn : k ≤ 100000) (w : World) : (Instr.makeSlice 44 (.int .i64 (k : Int)) (.int .i64 (k : Int))).run Yba.prog w = .ok (.slice (some ⟨w.heap.size, 0, none⟩) k k) (w.alloc (.cells (rowOf .i64 (fun _ => 0) k) 2)) := by
  obtain ⟨i, hi, hz0, hz1, hz2⟩ := info_parts Yba.info2
  have h := run_make (P := Yba.prog) w 44 2 i (.int .i64 0) Yba.underlying44 hi hz0 .i64 .i64 k k (by omega) (by omega) (by rw [hz2]; omega) (by omega)
  simpa [hz1, Value.cells, rowOf_zero] using h

theorem row_of_blk {w : World} {g : Nat} {t : TypeId} {k : IntKind} {f : Nat → Int} {n : Nat} (h : Blk w g t (rowOf k f n)) : Row w g k f n := ⟨fun _ hj => h.int hj, h.frozen, h.lt⟩

set_option maxHeartbeats 400000 in
theorem extend_keep (a : Option Addr) (n c : Nat) (k : Int) (hk : k ≤ n) (w : World) :
    Calls Yba.prog 21 #[.slice a n c, .int .i64 k] w fun e w' => e = .returned (.slice a n c) ∧ w' = w := by
  go_enter Yba.func21, Yba.ntmps21
  go_wp2
  go_ret
  exact ⟨rfl, rfl⟩

set_option maxHeartbeats 400000 in
theorem extend_grow (g0 n c k : Nat) (hk : n < k) (hk' : k ≤ 100000) (f : Nat → Int) (w : World) (hr : Row w g0 .i64 f n) :
    Calls Yba.prog 21 #[.slice (some ⟨g0, 0, none⟩) n c, .int .i64 k] w fun e w' => e = .returned (.slice (some ⟨w.heap.size, 0, none⟩) k k) ∧ Row w' w.heap.size .i64 (ext n f) k ∧ Below w.heap.size w w' := by
  have hk1 : ¬ (k : Int) ≤ (n : Int) := by omega
  have m1 := mk_i64 k hk'
  have cp := copy_into w.heap.size g0 n c k f (by omega) (w.alloc (.cells (rowOf .i64 (fun _ => 0) k) 2)) (Blk.new _ _ _) (hr.alloc _)
  have hR : Hid (Row ((w.alloc (.cells (rowOf .i64 (fun _ => 0) k) 2)).setRow w.heap.size (rowOf .i64 (ext n f) k)) w.heap.size .i64 (ext n f) k) := row_of_blk (setRow_heap _ _ (rowOf .i64 (fun _ => 0) k) _ 2 (0, 0) (Blk.new _ _ _))
  clear hr
  go_enter Yba.func21, Yba.ntmps21
  go_wp2
  go_ret
  exact ⟨rfl, hR, below_setRow (bel1 _ _) (Nat.le_refl _) _⟩

set_option maxHeartbeats 400000 in
theorem extend_nil (k : Nat) (hk : 0 < k) (hk' : k ≤ 100000) (f : Nat → Int) (w : World) :
    Calls Yba.prog 21 #[.slice none 0 0, .int .i64 k] w fun e w' => e = .returned (.slice (some ⟨w.heap.size, 0, none⟩) k k) ∧ Row w' w.heap.size .i64 (ext 0 f) k ∧ Below w.heap.size w w' := by
  have hk1 : ¬ (k : Int) ≤ 0 := by omega
  have m1 := mk_i64 k hk'
  have hR : Hid (Row (w.alloc (.cells (rowOf .i64 (fun _ => 0) k) 2)) w.heap.size .i64 (ext 0 f) k) := row_of_blk (Blk.new _ _ _)
  have cp := fun (w : World) (g : Nat) => run_copy_nil (P := Yba.prog) w 44 44 3 2 ⟨g, 0, none⟩ k k Yba.underlying44 (by kernel_rfl)
  go_enter Yba.func21, Yba.ntmps21
  go_wp2
  go_ret
  exact ⟨rfl, hR, bel1 _ _⟩

theorem ext_same {n j : Nat} {f : Nat → Int} (h : j < n) : ext n f j = f j := by simp [ext, h]

theorem NS.below {w w' : World} {T Dd : Nat} {v : Value} {n : Nat} {f : Nat → Int} {B : Nat} (h : NS w T Dd v n f) (hb : Below B w w') (hB : B = w.heap.size) : NS w' T Dd v n f := by
  rcases h with h | ⟨g, c, h1, h2, h3, h4⟩
  · exact .inl h
  · exact .inr ⟨g, c, h1, h2, h3, h4.below hb (by rw [hB]; exact h4.2.2)⟩

theorem extend_any (T Dd : Nat) (v : Value) (n : Nat) (f : Nat → Int) (k : Int) (N : Nat) (hn : n ≤ 1024) (hk : k ≤ 1024) (hN : N = max n k.toNat) (w : World) (h : NS w T Dd v n f) (hT : T < w.heap.size) (hD : Dd < T) :
    Calls Yba.prog 21 #[v, .int .i64 k] w fun e w' => ∃ a c, e = .returned (.slice a N c) ∧ NS w' T Dd (.slice a N c) N (ext n f) ∧ Below w.heap.size w w' := by
  by_cases hkn : k ≤ n
  · obtain rfl : N = n := by omega
    rcases h with ⟨rfl, h0⟩ | ⟨g, c, rfl, h2, h3, h4⟩
    · obtain rfl := h0
      refine (extend_keep none 0 0 k (by omega) w).mono ?_
      rintro e w' ⟨rfl, rfl⟩
      exact ⟨none, 0, rfl, .inl ⟨rfl, rfl⟩, Below.refl _ _⟩
    · refine (extend_keep _ N c k hkn w).mono ?_
      rintro e w' ⟨rfl, rfl⟩
      exact ⟨_, c, rfl, .inr ⟨g, c, rfl, h2, h3, fun j hj => by rw [ext_same hj]; exact h4.1 j hj, h4.2⟩, Below.refl _ _⟩
  · obtain ⟨kk, rfl⟩ := Int.eq_ofNat_of_zero_le (show 0 ≤ k by omega)
    obtain rfl : N = kk := by omega
    rcases h with ⟨rfl, h0⟩ | ⟨g, c, rfl, h2, h3, h4⟩
    · obtain rfl := h0
      refine (extend_nil N (by omega) (by omega) f w).mono ?_
      rintro e w' ⟨rfl, hR, hb⟩
      exact ⟨_, N, rfl, .inr ⟨w.heap.size, N, rfl, by omega, by omega, hR⟩, hb⟩
    · refine (extend_grow g n c N (by omega) (by omega) f w h4).mono ?_
      rintro e w' ⟨rfl, hR, hb⟩
      exact ⟨_, N, rfl, .inr ⟨w.heap.size, N, rfl, by omega, by omega, hR⟩, hb⟩

set_option maxHeartbeats 400000 in
theorem len_any (Dd : Nat) (a : Option Addr) (m c : Nat) (hm : m ≤ 1025) (w : World) (h : w.cell? ⟨Dd, 1, none⟩ = some (.slice a m c)) :
    Calls Yba.prog 22 #[.pointer (some ⟨Dd, 0, none⟩)] w fun e w' => e = .returned (.int .i64 ((m : Int) - 1)) ∧ w' = w := by
  have hm' : (m : Int) ≤ 1025 := by omega
  go_enter Yba.func22, Yba.ntmps22
  go_wp2
  go_ret
  exact ⟨rfl, rfl⟩

set_option maxHeartbeats 400000 in
theorem sum_zero (T : Nat) (w : World) (h : w.cell? ⟨T, 5, none⟩ = some (.int .i64 0)) :
    Calls Yba.prog 15 #[.pointer (some ⟨T, 0, none⟩)] w fun e w' => e = .returned (.tuple #[]) ∧ w' = w := by
  go_enter Yba.func15, Yba.ntmps15
  go_wp2
  exact bodyPost_ret (v := .tuple #[]) (by simp [results, Yba.results15, go_sem]) rfl ⟨rfl, rfl⟩

theorem Tally.below {w w' : World} {T Dd : Nat} {v cv : Value} {n m : Nat} {f cl : Nat → Int} {runs : Int} (h : Tally w T Dd v cv n m f cl runs) (hb : Below w.heap.size w w') : Tally w' T Dd v cv n m f cl runs := by
  obtain ⟨⟨t3, t4, t5⟩, tf, hT, hDT, d1, hN, hC⟩ := h
  have hs := hb.size
  refine ⟨⟨(hb.cell (p := ⟨T, 3, none⟩) hT).trans t3, (hb.cell (p := ⟨T, 4, none⟩) hT).trans t4, (hb.cell (p := ⟨T, 5, none⟩) hT).trans t5⟩, fun o => (hb.frozen (p := ⟨T, o, none⟩) hT).trans (tf o), by omega, hDT, (hb.cell (p := ⟨Dd, 1, none⟩) (by show Dd < _; omega)).trans d1, hN.below hb rfl, ?_⟩
  rcases hC with h | ⟨h, c, h1, h2, h3⟩
  · exact .inl h
  · exact .inr ⟨h, c, h1, h2, h3.below hb h3.2.2⟩

theorem Tally.store {w : World} {T Dd : Nat} {v v2 cv : Value} {n N m : Nat} {f f2 cl : Nat → Int} {runs : Int} (h : Tally w T Dd v cv n m f cl runs) (hN2 : NS w T Dd v2 N f2) : Tally (w.setCell ⟨T, 3, none⟩ v2) T Dd v2 cv N m f2 cl runs := by
  obtain ⟨⟨t3, t4, t5⟩, tf, hT, hDT, d1, hN, hC⟩ := h
  refine ⟨⟨World.cell?_setCell_same _ _ _ t3, by rw [World.cell?_setCell_other _ _ _ _ (by simp)]; exact t4, by rw [World.cell?_setCell_other _ _ _ _ (by simp)]; exact t5⟩, fun o => by simpa using tf o, by simpa using hT, hDT, by rw [World.cell?_setCell_other _ _ _ _ (by simp <;> omega)]; exact d1, ?_, ?_⟩
  · rcases hN2 with h | ⟨g, c, h1, h2, h3, h4⟩
    · exact .inl h
    · exact .inr ⟨g, c, h1, h2, h3, h4.set_other (fun e => h3 e.symm) _⟩
  · rcases hC with h | ⟨h, c, h1, h2, h3⟩
    · exact .inl h
    · exact .inr ⟨h, c, h1, h2, h3.set_other (by show T ≠ h; omega) _⟩

theorem Tally.drew {w : World} {T Dd : Nat} {v cv : Value} {n m : Nat} {f cl : Nat → Int} {runs : Int} (h : Tally w T Dd v cv n m f cl runs) : Tally w.drew T Dd v cv n m f cl runs := h

theorem Tally.putN {w : World} {T Dd g c2 : Nat} {cv : Value} {N m : Nat} {f cl : Nat → Int} {runs : Int} (h : Tally w T Dd (.slice (some ⟨g, 0, none⟩) N c2) cv N m f cl runs) {k : Nat} (hk : k < N) (x : Int) :
    Tally (w.setCell ⟨g, k, none⟩ (.int .i64 x)) T Dd (.slice (some ⟨g, 0, none⟩) N c2) cv N m (upd f k x) cl runs ∧ Dd < g := by
  obtain ⟨⟨t3, t4, t5⟩, tf, hT, hDT, d1, hN, hC⟩ := h
  rcases hN with ⟨_, h0⟩ | ⟨g', c', e, h2, h3, h4⟩
  · omega
  simp only [Value.slice.injEq, Option.some.injEq, Addr.mk.injEq] at e
  obtain ⟨⟨rfl, _, _⟩, _, rfl⟩ := e
  refine ⟨⟨⟨by rw [World.cell?_setCell_other _ _ _ _ (by simp [h3])]; exact t3, by rw [World.cell?_setCell_other _ _ _ _ (by simp [h3])]; exact t4, by rw [World.cell?_setCell_other _ _ _ _ (by simp [h3])]; exact t5⟩, fun o => by simpa using tf o, by simpa using hT, hDT, by rw [World.cell?_setCell_other _ _ _ _ (by simp <;> omega)]; exact d1, .inr ⟨g, c2, rfl, h2, h3, h4.put hk x⟩, ?_⟩, h2⟩
  rcases hC with h | ⟨h, c, h1, h2', h3'⟩
  · exact .inl h
  · exact .inr ⟨h, c, h1, h2', h3'.set_other (by show g ≠ h; omega) _⟩

theorem Tally.done {w : World} {T Dd : Nat} {v cv : Value} {n m : Nat} {f cl : Nat → Int} {runs : Int} (h : Tally w T Dd v cv n m f cl runs) (x : Int) : Tally (w.setCell ⟨T, 5, none⟩ (.int .i64 x)) T Dd v cv n m f cl x := by
  obtain ⟨⟨t3, t4, t5⟩, tf, hT, hDT, d1, hN, hC⟩ := h
  refine ⟨⟨by rw [World.cell?_setCell_other _ _ _ _ (by simp)]; exact t3, by rw [World.cell?_setCell_other _ _ _ _ (by simp)]; exact t4, World.cell?_setCell_same _ _ _ t5⟩, fun o => by simpa using tf o, by simpa using hT, hDT, by rw [World.cell?_setCell_other _ _ _ _ (by simp <;> omega)]; exact d1, ?_, ?_⟩
  · rcases hN with h | ⟨g, c, h1, h2, h3, h4⟩
    · exact .inl h
    · exact .inr ⟨g, c, h1, h2, h3, h4.set_other (fun e => h3 e.symm) _⟩
  · rcases hC with h | ⟨h, c, h1, h2, h3⟩
    · exact .inl h
    · exact .inr ⟨h, c, h1, h2, h3.set_other (by show T ≠ h; omega) _⟩

/-- What one distance's count becomes. -/
def stepV (runs : Int) (cl f : Nat → Int) (j : Nat) : Int := wrap64 (f j + wrap64 (runs * wrap64 (wrap32 (cl (j + 1) - cl j))))
/-- The counts behind k distances. -/
def acc (runs : Int) (cl f : Nat → Int) (k : Nat) : Nat → Int := fun j => if j < k then stepV runs cl f j else f j
theorem acc_succ (runs : Int) (cl f fa : Nat → Int) (k : Nat) (h : ∀ j, fa j = acc runs cl f k j) : ∀ j, upd fa k (wrap64 (fa k + wrap64 (runs * wrap64 (wrap32 (cl (k + 1) - cl k))))) j = acc runs cl f (k + 1) j := by
  intro j
  by_cases e : j = k
  · subst e; rw [upd_same, h j]; simp [acc, stepV]
  · rw [upd_other _ _ e, h j]
    simp only [acc]
    by_cases hj : j < k
    · rw [if_pos hj, if_pos (by omega)]
    · rw [if_neg hj, if_neg (by omega)]

set_option maxRecDepth 100000 in
set_option maxHeartbeats 1000000 in
theorem sum_some (T Dd : Nat) (a : Option Addr) (n c : Nat) (ca : Option Addr) (m cc : Nat) (f cl : Nat → Int) (runs : Int) (hr : (runs == 0) = false) (hn : n ≤ 1024) (hm : m ≤ 1025) (w : World) (h : Tally w T Dd (.slice a n c) (.slice ca m cc) n m f cl runs) :
    Calls Yba.prog 15 #[.pointer (some ⟨T, 0, none⟩)] w fun e w' => e = .returned (.tuple #[]) ∧ (∃ a2 c2 fa, Tally w' T Dd (.slice a2 (max n (m - 1)) c2) (.slice ca m cc) (max n (m - 1)) m fa cl 0 ∧ ∀ j, fa j = acc runs cl (ext n f) (m - 1) j) ∧ Below (Dd + 1) w w' := by
  have HTL : Hid (Tally w T Dd (.slice a n c) (.slice ca m cc) n m f cl runs) := h
  obtain ⟨⟨t3, t4, t5⟩, tf, hT, hDT, d1, hN, hC⟩ := h
  have HN : Hid (NS w T Dd (.slice a n c) n f) := hN
  have tf3 := tf 3
  have tf5 := tf 5
  obtain ⟨N, hNN⟩ : ∃ N, N = max n ((m : Int) - 1).toNat := ⟨_, rfl⟩
  have HNN : Hid (N = max n ((m : Int) - 1).toNat) := hNN
  have hNb : N ≤ 1024 := by omega
  clear hN hC tf hNN
  go_enter Yba.func15, Yba.ntmps15
  go_upto_region 1 with fail
  go_cut [] (fun wx => ∃ a2 c2, Hid (Tally wx T Dd (.slice a2 N c2) (.slice ca m cc) N m (ext n f) cl runs) ∧ Below (Dd + 1) w wx)
  case first =>
    go_region_with (first | (go_at_call 22; refine (len_any Dd ca m cc hm _ ?_).mono ?_; exact d1; rintro e w2 ⟨rfl, rfl⟩) | (go_at_call 21; refine (extend_any T Dd _ n f _ N hn (by omega) HNN.out _ ?_ ?_ hDT).mono ?_; exact HN.out; exact hT; rintro e w2 ⟨a2, c2, rfl, hN2, hb2⟩; have t3x := (hb2.cell (p := ⟨T, 3, none⟩) hT).trans t3; have tf3x := (hb2.frozen (p := ⟨T, 3, none⟩) hT).trans tf3; have hTx := Nat.lt_of_lt_of_le hT hb2.size))
    all_goals (go_wp2_with fail)
    all_goals go_meet
    all_goals
      have hbw : Below w.heap.size w w2 := (Below.refl _ w).drew.trans hb2
      exact ⟨a2, c2, (HTL.out.below hbw).store hN2, (hbw.mono (by omega)).setCell (by simp; omega) _⟩
  case rest =>
    obtain ⟨a2, c2, hTL, hbc⟩ := hcut
    clear t3 t4 t5 d1 tf3 tf5 HN HTL hT
    obtain ⟨⟨t3, t4, t5⟩, tf, hT, _, d1, hN, hC⟩ := hTL.out
    clear t3 tf hN hC
    go_wp2_with (go_at_call 22; refine (len_any Dd ca m cc hm _ d1).mono ?_; rintro e w2 ⟨rfl, rfl⟩)
    go_loopw [26] (fun iv wr => ∃ k : Nat, iv = .int .i64 k ∧ k ≤ m - 1 ∧ Hid (∃ fa, Tally wr T Dd (.slice a2 N c2) (.slice ca m cc) N m fa cl runs ∧ ∀ j, fa j = acc runs cl (ext n f) k j) ∧ Below (Dd + 1) w wr) (fun iv _ => m - (intOf iv).toNat)
    case atStart => exact ⟨0, rfl, Nat.zero_le _, ⟨_, hTL.out, fun j => by simp [acc]⟩, hbc⟩
    case round =>
      obtain ⟨k, rfl, hk, hTL3, hb3⟩ := hrel
      clear t4 t5 d1 hT
      obtain ⟨fa, hTL4, hfa⟩ := hTL3.out
      have HTL4 : Hid (Tally wr T Dd (.slice a2 N c2) (.slice ca m cc) N m fa cl runs) := hTL4
      have HFA : Hid (∀ j, fa j = acc runs cl (ext n f) k j) := hfa
      obtain ⟨⟨t3, t4, t5⟩, tf, hT, _, d1, hN, hC⟩ := hTL4
      clear hfa hTL3
      by_cases hlt : k < m - 1
      · have hlt' : (k : Int) < (m : Int) - 1 := by omega
        have hkN : k < N := by have := HNN.out; omega
        rcases hN with ⟨_, h0⟩ | ⟨g, gc, hv, hDg, hgT, hR⟩
        · omega
        rcases hC with ⟨_, h0⟩ | ⟨hh, hc, hcv, hhD, hRc⟩
        · omega
        simp only [Value.slice.injEq] at hv hcv
        obtain ⟨rfl, _, rfl⟩ := hv
        obtain ⟨rfl, _, rfl⟩ := hcv
        have c0 := hR.1 k hkN
        have f0 := hR.2.1 k
        have e0 := hRc.1 k (by omega)
        have e1 := hRc.1 (k + 1) (by omega)
        have hkN' : (k : Int) < N := by omega
        have hkm : (k : Int) < m := by omega
        have hkm1 : (k : Int) + 1 < m := by omega
        clear tf hR hRc
        go_wp2
        go_region
        go_wp2
        go_roundw
        case rel => exact ⟨k + 1, by go_num, by omega, ⟨_, (HTL4.out.putN hkN _).1.drew, acc_succ _ _ _ _ k HFA.out⟩, (hb3.setCell (by show Dd + 1 ≤ g; omega) _).drew⟩
        case measure => simp [intOf]; omega
      · have hlt' : ¬ (k : Int) < (m : Int) - 1 := by omega
        have tf5 := tf 5
        clear hN hC tf
        go_wp2
        go_end0
        have hkm : k = m - 1 := by omega
        have hNe : N = max n (m - 1) := by have := HNN.out; omega
        have hres := HTL4.out.done 0
        have hfin := HFA.out
        rw [hkm] at hfin
        rw [hNe] at hres
        exact ⟨rfl, ⟨a2, c2, fa, hres, hfin⟩, hb3.setCell (by show Dd + 1 ≤ T; omega) _⟩

end Go.Proofs.Ybulkbfdo
