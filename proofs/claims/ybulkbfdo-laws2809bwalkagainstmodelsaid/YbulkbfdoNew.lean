import Derived.Test.YbulkbfdoTools
namespace Go.Proofs.Ybulkbfdo
open Go.RowKit
set_option linter.unusedSimpArgs false

/-- The walker at block D + 2: its distances at D, its queue at D + 1. -/
def WK (w : World) (D n : Nat) (dist qf : Nat → Int) (len : Nat) : Prop :=
  Blk w D 21 (rowOf .i32 dist n) ∧ Blk w (D + 1) 21 (rowOf .i32 qf n) ∧ Blk w (D + 2) 66 #[.slice (some ⟨D, 0, none⟩) n n, .slice (some ⟨D + 1, 0, none⟩) len n]

set_option maxHeartbeats 400000 in
theorem newWalker_any (n : Nat) (hn : n ≤ 1024) (w : World) :
    Calls Yba.prog 7 #[.int .i64 n] w fun e w' => e = .returned (.pointer (some ⟨w.heap.size + 2, 0, none⟩)) ∧ WK w' w.heap.size n (fun _ => -1) (fun _ => 0) 0 ∧ Below w.heap.size w w' := by
  have m1 := mk_i32 n n (Nat.le_refl _) (by omega)
  have m2 : ∀ w : World, (Instr.makeSlice 29 (.int .i64 0) (.int .i64 (n : Int))).run Yba.prog w = .ok (.slice (some ⟨w.heap.size, 0, none⟩) 0 n) (w.alloc (.cells (rowOf .i32 (fun _ => 0) n) 21)) := mk_i32 0 n (Nat.zero_le _) (by omega)
  have hn' : (n : Int) ≤ 1024 := by omega
  go_enter Yba.func7, Yba.ntmps7
  go_wp2
  go_loopw [9] (fun i wr => ∃ k : Nat, k ≤ n ∧ i = .int .i64 k ∧ wr.heap.size = w.heap.size + 1 ∧ (∃ f, Blk wr w.heap.size 21 (rowOf .i32 f n) ∧ ∀ j, j < k → f j = -1) ∧ Below w.heap.size w wr) (fun i _ => n - (intOf i).toNat)
  case atStart => exact ⟨0, Nat.zero_le _, rfl, by simp, ⟨_, Blk.new _ _ _, fun j hj => by omega⟩, bel1 _ _⟩
  case round =>
    obtain ⟨k, hk, rfl, hz, ⟨f, hB, hf⟩, hb⟩ := hrel
    by_cases hlt : k < n
    · have c0 := hB.int hlt
      have f0 := hB.frozen k
      have HZ : Hid (wr.heap.size = w.heap.size + 1) := hz
      have HF : Hid (∀ j, j < k → f j = -1) := hf
      have HB : Hid (Blk wr w.heap.size 21 (rowOf .i32 f n)) := hB
      clear hz hf hB
      go_wp2
      go_roundw
      case rel =>
        refine ⟨k + 1, by omega, by go_num, by simpa using HZ.out, ⟨_, HB.out.put k (-1), fun j hj => ?_⟩, hb.setCell (by simp) _⟩
        by_cases e : j = k
        · subst e; exact upd_same _ _ _
        · rw [upd_other _ _ e]; exact HF.out j (by omega)
      case measure => simp [intOf]; omega
    · have HZ : Hid (wr.heap.size = w.heap.size + 1) := hz
      have HF : Hid (∀ j, j < k → f j = -1) := hf
      have HB : Hid (Blk wr w.heap.size 21 (rowOf .i32 f n)) := hB
      clear hz hf hB
      go_wp2
      go_ret
      have hz := HZ.out
      have e : rowOf .i32 f n = rowOf .i32 (fun _ => -1) n := rowOf_congr _ fun j hj => HF.out j (by omega)
      have h1 := HB.out
      rw [e] at h1
      refine ⟨by rw [hz]; rfl, ⟨(h1.alloc _).alloc _, ?_, ?_⟩, (hb.alloc (by omega) _).alloc (by simp; omega) _⟩
      · have := (Blk.new wr 21 (rowOf .i32 (fun _ => 0) n)).alloc (.cells #[.slice (some ⟨w.heap.size, 0, none⟩) n n, .slice (some ⟨wr.heap.size, 0, none⟩) 0 n] 66)
        rw [hz] at this ⊢
        exact this
      · have := Blk.new (wr.alloc (.cells (rowOf .i32 (fun _ => 0) n) 21)) 66 #[.slice (some ⟨w.heap.size, 0, none⟩) n n, .slice (some ⟨wr.heap.size, 0, none⟩) 0 n]
        simp only [World.size_alloc] at this
        rw [hz] at this ⊢
        exact this

set_option maxHeartbeats 400000 in
theorem distance_any (D n v : Nat) (hv : v < n) (dist qf : Nat → Int) (len : Nat) (w : World) (h : WK w D n dist qf len) :
    Calls Yba.prog 12 #[.pointer (some ⟨D + 2, 0, none⟩), .int .i32 v] w fun e w' => e = .returned (.int .i32 (dist v)) ∧ w' = w := by
  obtain ⟨h1, h2, h3⟩ := h
  have c0 := h1.int hv
  have c1 := h3.cell 0
  simp at c1
  have hv' : (v : Int) < n := by omega
  clear h1 h2 h3
  go_enter Yba.func12, Yba.ntmps12
  go_wp2
  go_ret
  exact ⟨rfl, rfl⟩

def modI (n j : Nat) : Int := ((j % n : Nat) : Int)

/-- The network that Complete builds: its nodes twice over at A, itself at G. -/
def CG (w : World) (A n : Nat) : Prop :=
  Blk w A 21 (rowOf .i32 (modI n) (2 * n)) ∧ Blk w (A + 1) 33 #[.slice none 0 0, .slice (some ⟨A, 0, none⟩) (2 * n) (2 * n), .nilFunc]

theorem rowOf_list (k : IntKind) (f : Nat → Int) (n : Nat) : (rowOf k f n).toList = (List.range n).map fun j => .int k (f j) := by
  apply List.ext_getElem
  · simp [rowOf_size]
  · intro i h1 h2
    simp [rowOf]

theorem add0 (A j : Nat) : (⟨A, 0, none⟩ : Addr).add j = ⟨A, j, none⟩ := by cases j <;> simp [Addr.add]

theorem copy_half (A n : Nat) (f : Nat → Int) (hf : ∀ j, j < n → f j = (j : Int)) (w : World) (h : Blk w A 21 (rowOf .i32 f (2 * n))) :
    (Builtin.copy_ #[29, 29] 3 #[.slice (some ⟨A, n, none⟩) (2 * n - n) (2 * n - n), .slice (some ⟨A, 0, none⟩) n (2 * n)]).run Yba.prog w = .ok (.int .i64 (n : Int)) (w.setRow A (rowOf .i32 (modI n) (2 * n))) := by
  have hs : (Yba.prog.info? 21).map (·.size) = some 1 := by kernel_rfl
  have hl : ((List.range n).map fun j => Value.int .i32 (f j)).length = n := by simp
  have r := run_copy_row (P := Yba.prog) w 29 29 3 21 A n (2 * n - n) (2 * n - n) ⟨A, 0, none⟩ n (2 * n) (rowOf .i32 f (2 * n)) 21 ((List.range n).map fun j => .int .i32 (f j)) Yba.underlying29 hs h
    (by rw [hl, show 2 * n - n = n by omega]; simp)
    (fun j v hj => by
      have hjn : j < n := by have := (List.getElem?_eq_some_iff.1 hj).1; simpa using this
      have e : v = .int .i32 (f j) := by simpa [hjn] using hj.symm
      have c := h.int (show j < 2 * n by omega)
      rw [e, add0]; exact c)
    (by rw [hl, rowOf_size]; omega)
    (fun v hv => by
      obtain ⟨j, _, rfl⟩ := List.mem_map.1 hv
      rfl)
  rw [r]
  have e1 : goInt ((List.range n).map fun j => Value.int .i32 (f j)).length = .int .i64 (n : Int) := by rw [hl]; rfl
  have e2 : ((rowOf .i32 f (2 * n)).toList.take n ++ ((List.range n).map fun j => Value.int .i32 (f j)) ++ (rowOf .i32 f (2 * n)).toList.drop (n + ((List.range n).map fun j => Value.int .i32 (f j)).length)).toArray = rowOf .i32 (modI n) (2 * n) := by
    rw [hl]
    apply Array.ext
    · simp [rowOf_size]; omega
    · intro i h1 h2
      have h2' : i < 2 * n := by simpa [rowOf_size] using h2
      have hd : (rowOf .i32 f (2 * n)).toList.drop (n + n) = [] := List.drop_of_length_le (by rw [rowOf_list]; simp; omega)
      simp only [hd, List.append_nil]
      rw [List.getElem_toArray]
      by_cases hi : i < n
      · rw [List.getElem_append_left (by rw [rowOf_list]; simp; omega)]
        simp only [rowOf_list, List.getElem_take, List.getElem_map, List.getElem_range]
        simp only [rowOf, Array.getElem_ofFn]
        rw [hf i hi, modI, Nat.mod_eq_of_lt hi]
      · rw [List.getElem_append_right (by rw [rowOf_list]; simp; omega)]
        simp only [rowOf_list, List.getElem_map, List.getElem_range, List.length_take, List.length_map, List.length_range]
        have ej : i - min n (2 * n) = i - n := by omega
        have em : i % n = i - n := by
          rw [Nat.mod_eq_sub_mod (by omega), Nat.mod_eq_of_lt (by omega)]
        simp only [rowOf, Array.getElem_ofFn]
        rw [ej, hf (i - n) (by omega), modI, em]
  rw [e1, e2]

theorem Blk.row {w : World} {g : Nat} {t : TypeId} {cs : Array Value} (h : Blk w g t cs) (ds : Array Value) : Blk (w.setRow g ds) g t ds := setRow_heap w g cs ds t (0, 0) h

set_option maxHeartbeats 400000 in
theorem complete_any (n : Nat) (h0 : 0 < n) (hn : n ≤ 1024) (w : World) :
    Calls Yba.prog 11 #[.int .i64 n] w fun e w' => e = .returned (.pointer (some ⟨w.heap.size + 1, 0, none⟩)) ∧ CG w' w.heap.size n ∧ Below w.heap.size w w' := by
  have m1 : ∀ w : World, (Instr.makeSlice 29 (.int .i64 (2 * (n : Int))) (.int .i64 (2 * (n : Int)))).run Yba.prog w = .ok (.slice (some ⟨w.heap.size, 0, none⟩) (2 * n) (2 * n)) (w.alloc (.cells (rowOf .i32 (fun _ => 0) (2 * n)) 21)) := fun w => by
    have := mk_i32 (2 * n) (2 * n) (Nat.le_refl _) (by omega) w
    rwa [show ((2 * n : Nat) : Int) = 2 * (n : Int) by omega] at this
  have hn' : (n : Int) ≤ 1024 := by omega
  go_enter Yba.func11, Yba.ntmps11
  go_wp2
  go_loopw [9] (fun i wr => ∃ k : Nat, k ≤ n ∧ i = .int .i64 k ∧ wr.heap.size = w.heap.size + 1 ∧ (∃ f, Blk wr w.heap.size 21 (rowOf .i32 f (2 * n)) ∧ ∀ j, j < k → f j = (j : Int)) ∧ Below w.heap.size w wr) (fun i _ => n - (intOf i).toNat)
  case atStart => exact ⟨0, Nat.zero_le _, rfl, by simp, ⟨_, Blk.new _ _ _, fun j hj => by omega⟩, bel1 _ _⟩
  case round =>
    obtain ⟨k, hk, rfl, hz, ⟨f, hB, hf⟩, hb⟩ := hrel
    have HZ : Hid (wr.heap.size = w.heap.size + 1) := hz
    have HF : Hid (∀ j, j < k → f j = (j : Int)) := hf
    have HB : Hid (Blk wr w.heap.size 21 (rowOf .i32 f (2 * n))) := hB
    by_cases hlt : k < n
    · have c0 := hB.int (show k < 2 * n by omega)
      have f0 := hB.frozen k
      clear hz hf hB
      go_wp2
      go_roundw
      case rel =>
        refine ⟨k + 1, by omega, by go_num, by simpa using HZ.out, ⟨_, HB.out.put k k, fun j hj => ?_⟩, hb.setCell (by simp) _⟩
        by_cases e : j = k
        · subst e; exact upd_same _ _ _
        · rw [upd_other _ _ e]; exact HF.out j (by omega)
      case measure => simp [intOf]; omega
    · clear hz hf hB
      have i1 : (n : Int) ≤ 2 * (n : Int) := by omega
      have i2 : ¬ 2 * n = n := by omega
      have cp := copy_half w.heap.size n f (fun j hj => HF.out j (by omega)) wr.drew HB.out
      go_wp2
      go_region
      go_wp2
      go_ret
      have hz := HZ.out
      have h1 : Blk (wr.drew.setRow w.heap.size (rowOf .i32 (modI n) (2 * n))) w.heap.size 21 (rowOf .i32 (modI n) (2 * n)) := Blk.row HB.out _
      have hb1 : Below w.heap.size w (wr.drew.setRow w.heap.size (rowOf .i32 (modI n) (2 * n))) := below_setRow hb.drew (Nat.le_refl _) _
      refine ⟨by rw [hz]; rfl, ⟨h1.alloc _, ?_⟩, hb1.alloc hb1.size _⟩
      have h2 := Blk.new (wr.drew.setRow w.heap.size (rowOf .i32 (modI n) (2 * n))) 33 #[.slice none 0 0, .slice (some ⟨w.heap.size, 0, none⟩) (2 * n) (2 * n), .nilFunc]
      rw [size_setRow, show wr.drew.heap.size = w.heap.size + 1 from hz] at h2
      exact h2

set_option maxHeartbeats 400000 in
theorem nodes_complete (A n : Nat) (hn : n ≤ 1024) (w : World) (h : CG w A n) :
    Calls Yba.prog 23 #[.pointer (some ⟨A + 1, 0, none⟩)] w fun e w' => e = .returned (.int .i64 n) ∧ w' = w := by
  obtain ⟨h1, h2⟩ := h
  have c0 := h2.cell 0
  have c1 := h2.cell 1
  simp at c0 c1
  clear h1 h2
  have hn' : (n : Int) ≤ 1024 := by omega
  have hs := fun (w : World) => Lib.run_eql_slice_nil (P := Yba.prog) w 28 3 none 0 0 0 0 Yba.underlying28
  go_enter Yba.func23, Yba.ntmps23
  go_wp2
  go_ret
  exact ⟨ret_int (by omega), rfl⟩

set_option maxHeartbeats 400000 in
theorem nb_complete (A n v : Nat) (hn : n ≤ 1024) (hv : v < n) (w : World) (h : CG w A n) :
    Calls Yba.prog 19 #[.pointer (some ⟨A + 1, 0, none⟩), .int .i32 v] w fun e w' => e = .returned (.slice (some ⟨A, v + 1, none⟩) (v + n - (v + 1)) (2 * n - (v + 1))) ∧ ∃ k, w' = w.drewN k := by
  have HG : Hid (CG w A n) := h
  obtain ⟨h1, h2⟩ := h
  have c0 := h2.cell 0
  have c1 := h2.cell 1
  simp at c0 c1
  clear h1 h2
  have hn' : (n : Int) ≤ 1024 := by omega
  have hv' : (v : Int) < n := by omega
  have hs := fun (w : World) => Lib.run_eql_slice_nil (P := Yba.prog) w 28 3 none 0 0 0 0 Yba.underlying28
  go_enter Yba.func19, Yba.ntmps19
  go_wp2
  go_quiet ((go_at_call 23; exact Calls.quiet_of_same (nodes_complete A n hn _ HG.out)))
  go_wp2
  go_ret
  exact ⟨rfl, nq, rfl⟩

end Go.Proofs.Ybulkbfdo
