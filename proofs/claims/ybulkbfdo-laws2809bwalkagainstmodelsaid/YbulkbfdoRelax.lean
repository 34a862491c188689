import Derived.Test.YbulkbfdoTools
import Derived.Test.YbulkbfdoRx
namespace Go.Proofs.Ybulkbfdo
open Go.RowKit
set_option linter.unusedSimpArgs false

theorem Yba.info3 : (Yba.prog.info? 3).map (fun i => (i.zero, i.size, i.bytes)) = some (some (.int .i64 0), 1, 8) := by kernel_rfl
theorem mk_int (m c : Nat) (hm : m ≤ c) (hn : c ≤ 100000) (w : World) : (Instr.makeSlice 28 (.int .i64 (m : Int)) (.int .i64 (c : Int))).run Yba.prog w = .ok (.slice (some ⟨w.heap.size, 0, none⟩) m c) (w.alloc (.cells (rowOf .i64 (fun _ => 0) c) 3)) := by
  obtain ⟨i, hi, hz0, hz1, hz2⟩ := info_parts Yba.info3
  have h := run_make (P := Yba.prog) w 28 3 i (.int .i64 0) Yba.underlying28 hi hz0 .i64 .i64 m c (by omega) (by omega) (by rw [hz2]; omega) (by omega)
  simpa [hz1, Value.cells, rowOf_zero] using h

/-- The bools mf lie in block G. -/
def Mat (w : World) (G n : Nat) (mf : Nat → Bool) : Prop := G < w.heap.size ∧ ∀ j, j < n * n → w.cell? ⟨G, j, none⟩ = some (.bool (mf j))

set_option maxRecDepth 100000 in
set_option maxHeartbeats 1000000 in
theorem dist_any (G n src c : Nat) (mf : Nat → Bool) (hn : n ≤ 256) (hs : src < n) (w : World) (hG : Mat w G n mf) :
    Calls Yba.prog 10 #[.slice (some ⟨G, 0, none⟩) (n * n) c, .int .i64 n, .int .i64 src] w fun e w' => e = .returned (.slice (some ⟨w.heap.size, 0, none⟩) n n) ∧
      (∃ md, Blk w' w.heap.size 3 (rowOf .i64 md n) ∧ Bfs.Mod n (Bfs.nbM n mf) src md) ∧ Below w.heap.size w w' := by
  have m1 := mk_int n n (Nat.le_refl _) (by omega)
  have HG : Hid (Mat w G n mf) := hG
  have zG : G < w.heap.size := hG.1
  have hn' : (n : Int) ≤ 256 := by omega
  clear hG
  go_enter Yba.func10, Yba.ntmps10
  go_wp2_with fail
  go_loopw [8] (fun iv wx => ∃ k : Nat, k ≤ n ∧ iv = .int .i64 k ∧ wx.heap.size = w.heap.size + 1 ∧ (∃ f, Blk wx w.heap.size 3 (rowOf .i64 f n) ∧ ∀ j, j < k → f j = -1) ∧ Below w.heap.size w wx) (fun i _ => n - (intOf i).toNat)
  case atStart => exact ⟨0, Nat.zero_le _, rfl, by simp, ⟨_, Blk.new _ _ _, fun j hj => by omega⟩, bel1 _ _⟩
  case round =>
    obtain ⟨k, hk, rfl, hz, ⟨f, hB, hf⟩, hb⟩ := hrel
    by_cases hlt : k < n
    · have c0 := hB.int hlt
      have f0 := hB.frozen k
      have HB : Hid (Blk wr w.heap.size 3 (rowOf .i64 f n)) := hB
      have HF : Hid (∀ j, j < k → f j = -1) := hf
      have hlt' : (k : Int) < n := by omega
      clear hB hf
      go_wp2
      go_roundw
      case rel =>
        refine ⟨k + 1, by omega, by go_num, by simpa using hz, ⟨_, HB.out.put k (-1), fun j hj => ?_⟩, hb.setCell (Nat.le_refl _) _⟩
        by_cases e : j = k
        · subst e; rw [upd_same]
        · rw [upd_other _ _ e]; exact HF.out j (by omega)
      case measure => simp [intOf]; omega
    · have c0 := hB.int hs
      have f0 := hB.frozen src
      have HB : Hid (Blk wr w.heap.size 3 (rowOf .i64 f n)) := hB
      have HF : Hid (∀ j, j < k → f j = -1) := hf
      have hs' : (src : Int) < n := by omega
      clear hB hf
      go_wp2_with fail
      have hst : Bfs.Rr n mf src 0 (upd f src 0) := Bfs.Rr.start n mf src hs _ (upd_same _ _ _) (fun x hx e => by rw [upd_other _ _ e]; exact HF.out x (by omega))
      go_loopw [9] (fun iv wx => ∃ r : Nat, r ≤ n ∧ iv = .int .i64 r ∧ (∃ md, Hid (Blk wx w.heap.size 3 (rowOf .i64 md n)) ∧ Hid (Bfs.Rr n mf src r md)) ∧ Below w.heap.size w wx) (fun i _ => n - (intOf i).toNat)
      case atStart => exact ⟨0, Nat.zero_le _, rfl, ⟨_, HB.out.put src 0, hst⟩, hb.setCell (Nat.le_refl _) _⟩
      case round =>
        clear hst HB HF c0 f0 hb hz
        obtain ⟨r, hr, rfl, ⟨md, hB, hR⟩, hb⟩ := hrel
        by_cases hlr : r < n
        · have hlr' : (r : Int) < n := by omega
          go_wp2_with fail
          go_loopw [10, 11] (fun cv iv wx => ∃ v : Nat, v ≤ n ∧ iv = .int .i64 v ∧ ∃ ch, cv = .bool ch ∧ (∃ md, Hid (Blk wx w.heap.size 3 (rowOf .i64 md n)) ∧ Hid (Bfs.Rx n mf src r v 0 ch md)) ∧ Below w.heap.size w wx) (fun _ i _ => n - (intOf i).toNat)
          case atStart => exact ⟨0, Nat.zero_le _, rfl, false, rfl, ⟨_, hB, hR.out.enter⟩, hb⟩
          case round =>
            clear hB hR hb
            obtain ⟨v, hv, rfl, ch, rfl, ⟨md, hB, hR⟩, hb⟩ := hrel
            by_cases hlv : v < n
            · have hlv' : (v : Int) < n := by omega
              have cv := hB.out.int hlv
              by_cases hneg : md v < 0
              · go_wp2_with fail
                go_roundw
                case rel => exact ⟨v + 1, by omega, by go_num, ch, rfl, ⟨_, hB, hR.out.skip hneg⟩, hb⟩
                case measure => simp [intOf]; omega
              · have h0 : 0 ≤ md v := by omega
                go_wp2_with fail
                go_loopw [10, 12] (fun cv iv wx => ∃ u : Nat, u ≤ n ∧ iv = .int .i64 u ∧ ∃ ch, cv = .bool ch ∧ (∃ md, Hid (Blk wx w.heap.size 3 (rowOf .i64 md n)) ∧ Hid (Bfs.Rx n mf src r v u ch md) ∧ Hid (0 ≤ md v)) ∧ Below w.heap.size w wx) (fun _ i _ => n - (intOf i).toNat)
                case atStart => exact ⟨0, Nat.zero_le _, rfl, ch, rfl, ⟨_, hB, hR, h0⟩, hb⟩
                case round =>
                  clear hB hR hb cv h0 hneg
                  obtain ⟨u, hu, rfl, ch, rfl, ⟨md, hB, hR, h0⟩, hb⟩ := hrel
                  by_cases hlu : u < n
                  · have hlu' : (u : Int) < n := by omega
                    have cv := hB.out.int hlv
                    have cu := hB.out.int hlu
                    have fu := hB.out.frozen u
                    have h0' : 0 ≤ md v := h0.out
                    have hmv := hR.out.mv hlv
                    have hj : v * n + u < n * n := by
                      have h1 : v * n + n ≤ n * n := by
                        have := Nat.mul_le_mul_right n (show v + 1 ≤ n by omega)
                        rwa [Nat.add_mul, Nat.one_mul] at this
                      omega
                    have cm := (hb.cell (p := ⟨G, v * n + u, none⟩) zG).trans (HG.out.2 _ hj)
                    have hjj : (v : Int) * n + u < n * n := by rw [← Int.natCast_mul, ← Int.natCast_mul]; omega
                    have hb1 : (v : Int) * n ≤ 65536 := by
                      have h1 : v * n ≤ 256 * 256 := Nat.mul_le_mul (by omega) hn
                      rw [← Int.natCast_mul]; omega
                    have hb0 : 0 ≤ (v : Int) * n := Int.mul_nonneg (by omega) (by omega)
                    have hrb : r * (n + 1) ≤ 256 * 257 := Nat.mul_le_mul (by omega) (by omega)
                    have hmv' : md v ≤ 70000 := by omega
                    clear hmv hrb hj
                    have hT : ((v : Int) * n + u).toNat = v * n + u := by rw [← Int.natCast_mul]; omega
                    go_wp2_with fail
                    cases hm : mf (v * n + u)
                    · rw [hm] at cm
                      go_quiet (fail)
                      go_wp2_with fail
                      go_roundw
                      case rel => exact ⟨u + 1, by omega, by go_num, ch, rfl, ⟨_, hB.out.drewN _, hR.out.pass (fun h => by rw [hm] at h; cases h), h0⟩, below_drewN hb _⟩
                      case measure => simp [intOf]; omega
                    · rw [hm] at cm
                      by_cases hu0 : md u < 0
                      · go_quiet (fail)
                        go_wp2_with fail
                        go_roundw
                        case rel => exact ⟨u + 1, by omega, by go_num, true, rfl, ⟨_, (hB.out.drewN _).put u _, hR.out.write hlv hlu hm h0' (.inl hu0) (upd_same _ _ _) (fun x hx => upd_other _ _ hx), by
                          have e : v ≠ u := fun e => by subst e; omega
                          show 0 ≤ upd md u (md v + 1) v
                          rw [upd_other _ _ e]; exact h0'⟩, (below_drewN hb _).setCell (Nat.le_refl _) _⟩
                        case measure => simp [intOf]; omega
                      · by_cases hu1 : md v + 1 < md u
                        · go_quiet (fail)
                          go_wp2_with fail
                          go_roundw
                          case rel => exact ⟨u + 1, by omega, by go_num, true, rfl, ⟨_, (hB.out.drewN _).put u _, hR.out.write hlv hlu hm h0' (.inr hu1) (upd_same _ _ _) (fun x hx => upd_other _ _ hx), by
                            have e : v ≠ u := fun e => by subst e; omega
                            show 0 ≤ upd md u (md v + 1) v
                            rw [upd_other _ _ e]; exact h0'⟩, (below_drewN hb _).setCell (Nat.le_refl _) _⟩
                          case measure => simp [intOf]; omega
                        · go_quiet (fail)
                          go_wp2_with fail
                          go_roundw
                          case rel => exact ⟨u + 1, by omega, by go_num, ch, rfl, ⟨_, hB.out.drewN _, hR.out.pass (fun _ => ⟨by omega, by omega⟩), h0⟩, below_drewN hb _⟩
                          case measure => simp [intOf]; omega
                  · go_wp2_with fail
                    go_roundw
                    case rel => exact ⟨v + 1, by omega, by go_num, ch, rfl, ⟨_, hB, hR.out.rowEnd (by omega)⟩, hb⟩
                    case measure => simp [intOf]; omega
            · obtain rfl : v = n := by omega
              cases ch
              · go_wp2_with fail
                go_ret
                exact ⟨rfl, ⟨_, hB.out, hR.out.mod hs⟩, hb⟩
              · go_wp2_with fail
                go_roundw
                case rel => exact ⟨r + 1, by omega, by go_num, ⟨_, hB, hR.out.roundEnd hs⟩, hb⟩
                case measure => simp [intOf]; omega
        · obtain rfl : r = n := by omega
          go_wp2_with fail
          go_ret
          exact ⟨rfl, ⟨_, hB.out, hR.out.mod hs⟩, hb⟩
end Go.Proofs.Ybulkbfdo
