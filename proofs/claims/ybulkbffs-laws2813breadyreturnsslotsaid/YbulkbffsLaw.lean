import Derived.Test.YbulkbffsInv
import Derived.LaidEqlPtr
import Derived.Lib.Builder
namespace Go.Proofs.Ybulkbffs
open Go.RowKit
open Go.Conc.Locks Go.MuLone
set_option linter.unusedSimpArgs false

theorem Yba.info56 : (Yba.prog.info? 56).map (·.size) = some 12 := by kernel_rfl
theorem ptr_neq (w : World) (a : Addr) : (binOp .neq 48 (.pointer (some a)) (.pointer (some a))).run Yba.prog w = .ok (.bool false) w := by
  obtain ⟨j, hj, _⟩ := Option.map_eq_some_iff.1 Yba.info56
  exact Lib.run_neq_ptr_same (P := Yba.prog) w a Yba.underlying48 hj

set_option maxRecDepth 100000 in
set_option maxHeartbeats 1000000 in
theorem law_core (a0 : Option Addr) (n cap0 : Nat) (hn : n ≤ 1024) (w : World) (h0 : Bools w a0 n) :
    Calls Yba.prog 3 #[.slice a0 n cap0] w fun e w' => e = .returned (.bool true) ∧ Below w.heap.size w w' := by
  have H0 : Hid (Bools w a0 n) := h0
  clear h0
  have hn' : ¬ 1024 < (n : Int) := by omega
  have M := mk_ptr n (by omega)
  go_enter Yba.func3, Yba.ntmps3
  go_upto_region 4 with fail
  go_cut [4] (fun qv wx => ∃ Q A S, qv = .pointer (some ⟨Q, 0, none⟩) ∧ Hid (Pre w wx Q A S n))
  case first =>
    go_region
    · go_wp2_with fail
      go_meet
      case rel =>
        refine ⟨_, w.heap.size, w.heap.size + 1, rfl, ?_⟩
        show Pre _ _ _ _ _ _
        exact Pre.new2 w n
    · go_wp2_with fail
      go_meet
      case rel =>
        refine ⟨_, w.heap.size + 1, w.heap.size, rfl, ?_⟩
        show Pre _ _ _ _ _ _
        exact Pre.new1 w n
  case rest =>
    obtain ⟨Q, A, S, rfl, hP⟩ := hcut
    have HP : Hid (Pre w wc Q A S n) := hP
    obtain ⟨hb, ⟨hQ, hA, hS, hAS⟩, bA, bS, bQ⟩ := hP
    have c4 : wc.cell? ⟨Q, 4, none⟩ = some .nilIface := bQ.cell 4
    have f4 := bQ.frozen 4
    have z := bQ.lt
    clear bA bS bQ
    go_wp2_with fail
    go_loopw [7] (fun iv wx => ∃ k : Nat, k ≤ n ∧ iv = .int .i64 k ∧ Hid (Inv w wx Q A S wc.heap.size (wc.heap.size + 1) n)) (fun iv _ => n - (intOf iv).toNat)
    case atStart =>
      exact ⟨0, Nat.zero_le _, rfl, Inv.start HP.out⟩
    case round =>
      clear c4 f4 HP
      obtain ⟨k, hk, rfl, hI⟩ := hrel
      by_cases hlt : k < n
      · obtain ⟨b, o, x, ha, hbw, hx⟩ := H0.out k hlt
        subst ha
        have I := hI.out
        obtain ⟨fa, fs, bA, bP, bS, bW, -⟩ := I.rows
        have cx := (I.bel.cell (p := ⟨b, o + k, none⟩) hbw).trans hx
        have hl := I.lo
        have nA : b ≠ A := by omega
        have nP : b ≠ wc.heap.size + 1 := by omega
        have nS : b ≠ S := by omega
        have nW : b ≠ wc.heap.size := by omega
        have zb : b < wr.heap.size := by have := I.bel.size; omega
        obtain ⟨e1, e2, e3, e4, e5, e6⟩ := I.ne
        have qA := I.q.types bA (by decide)
        have qP := I.q.types bP (by decide)
        have qS := I.q.types bS (by decide)
        have qW := I.q.types bW (by decide)
        have zA := bA.lt
        have zP := bP.lt
        have zS := bS.lt
        have zW := bW.lt
        have zQ := I.q.lt
        have c11 := I.q.cell 11
        have c12 := I.q.cell 12
        have vA := bA.val hlt
        have vP := bP.val hlt
        have vS := bS.val hlt
        have vW := bW.val hlt
        have gA := bA.frozen k
        have gP := bP.frozen k
        have gS := bS.frozen k
        have gW := bW.frozen k
        have hlt' : (k : Int) < n := by omega
        simp only [qc] at c11 c12
        clear I bA bP bS bW hx hl
        cases x
        · go_wp2_with fail
          go_roundw
          case rel => exact ⟨k + 1, by omega, by go_num, hI.out.step1 k⟩
          case measure => simp [intOf]; omega
        · go_wp2_with fail
          go_roundw
          case rel => exact ⟨k + 1, by omega, by go_num, hI.out.step2 k⟩
          case measure => simp [intOf]; omega
      · go_wp2_with fail
        go_loopw [10] (fun iv wx => ∃ k : Nat, k ≤ n ∧ iv = .int .i64 k ∧ Hid (Inv w wx Q A S wc.heap.size (wc.heap.size + 1) n)) (fun iv _ => n - (intOf iv).toNat)
        case atStart => exact ⟨0, Nat.zero_le _, rfl, hI⟩
        case round =>
          clear hI hlt
          obtain ⟨k, hk, rfl, hI⟩ := hrel
          by_cases hlt : k < n
          · have I := hI.out
            obtain ⟨fa, fs, bA, bP, bS, bW, hv⟩ := I.rows
            have HV := (hv k hlt).2
            have qS := bS.types I.q (by decide)
            have qW := bW.types I.q (by decide)
            have c2 := I.q.cell 2
            have f2 := I.q.frozen 2
            have c12 := I.q.cell 12
            have vS := bS.val hlt
            have hR := ready_any Q k n n S (fs k) wr hlt c2 f2 c12 vS qS
            have I2 := I.lock
            have bW2 := (bW.set_other (a := ⟨Q, 2, none⟩) qW (.int .i32 1)).set_other (a := ⟨Q, 2, none⟩) qW (.int .i32 0)
            have HV2 := (HV.set (o := 2) (u := .int .i32 1) I.q (by decide)).set (o := 2) (u := .int .i32 0) (I.q.set 2 (.int .i32 1)) (by decide)
            clear bA bP bS bW hv HV qS qW c2 f2 c12 vS I
            have hlt' : (k : Int) < n := by omega
            go_wp2_with fail
            refine hR.mono ?_
            rintro e w2 ⟨rfl, hw2⟩
            rw [← hw2] at I2 bW2 HV2
            clear hR hw2 hI
            have vW := bW2.val hlt
            have c2 := I2.q.cell 2
            have f2 := I2.q.frozen 2
            have HI2 : Hid (Inv w w2 Q A S wc.heap.size (wc.heap.size + 1) n) := I2
            clear I2 bW2
            rcases HV2 with hnil | ⟨g, hsome, bg⟩
            · rw [hnil] at vW ⊢
              go_wp2_with fail
              refine (try_free ⟨Q, 2, none⟩ w2 c2 f2).mono ?_
              rintro e w3 ⟨rfl, rfl⟩
              go_wp2_with fail
              refine (unlock_held Yba.muLib ⟨Q, 2, none⟩ _ (World.cell?_setCell_same w2 ⟨Q, 2, none⟩ (.int .i32 1) c2) (by simp [f2])).mono ?_
              rintro e w4 ⟨rfl, rfl⟩
              go_wp2_with fail
              go_roundw
              case rel => exact ⟨k + 1, by omega, by go_num, HI2.out.lock⟩
              case measure => simp [intOf]; omega
            · rw [hsome] at vW ⊢
              have pn := fun (wx : World) => ptr_neq wx ⟨g, 0, none⟩
              have g10 : w2.cell? ⟨g, 10, none⟩ = some (.int .i64 k) := bg.cell 10
              clear bg
              go_wp2_with fail
              refine (try_free ⟨Q, 2, none⟩ w2 c2 f2).mono ?_
              rintro e w3 ⟨rfl, rfl⟩
              go_wp2_with fail
              refine (unlock_held Yba.muLib ⟨Q, 2, none⟩ _ (World.cell?_setCell_same w2 ⟨Q, 2, none⟩ (.int .i32 1) c2) (by simp [f2])).mono ?_
              rintro e w4 ⟨rfl, rfl⟩
              go_wp2_with fail
              go_roundw
              case rel => exact ⟨k + 1, by omega, by go_num, HI2.out.lock⟩
              case measure => simp [intOf]; omega
          · go_wp2_with fail
            go_loopw [12] (fun iv wx => ∃ k : Nat, k ≤ n ∧ iv = .int .i64 k ∧ Hid (Inv w wx Q A S wc.heap.size (wc.heap.size + 1) n)) (fun iv _ => n - (intOf iv).toNat)
            case atStart => exact ⟨0, Nat.zero_le _, rfl, hI⟩
            case round =>
              clear hI hlt
              obtain ⟨k, hk, rfl, hI⟩ := hrel
              by_cases hlt : k < n
              · have I := hI.out
                obtain ⟨fa, fs, bA, bP, bS, bW, hv⟩ := I.rows
                obtain ⟨HV1, HV2⟩ := hv k hlt
                have c11 : wr.cell? ⟨Q, 11, none⟩ = some (.slice (some ⟨A, 0, none⟩) n n) := I.q.cell 11
                have c12 : wr.cell? ⟨Q, 12, none⟩ = some (.slice (some ⟨S, 0, none⟩) n n) := I.q.cell 12
                have vA := bA.val hlt
                have vP := bP.val hlt
                have vS := bS.val hlt
                have vW := bW.val hlt
                have hlt' : (k : Int) < n := by omega
                have pn := ptr_neq
                clear bA bP bS bW hv I
                rcases HV1 with e1 | ⟨g1, e1, -⟩ <;> rcases HV2 with e2 | ⟨g2, e2, -⟩ <;> rw [e1] at vA vP <;> rw [e2] at vS vW <;> clear e1 e2
                all_goals
                  go_wp2_with fail
                  go_quiet (fail)
                  go_wp2_with fail
                  go_roundw
                  case rel => exact ⟨k + 1, by omega, by go_num, hI.out.drewN _⟩
                  case measure => simp [intOf]; omega
              · have I := hI.out
                have c16 : wr.cell? ⟨Q, 16, none⟩ = some (.int .i64 n) := I.q.cell 16
                have hbl := I.bel
                clear I
                go_wp2_with fail
                go_ret
                exact ⟨rfl, hbl⟩
end Go.Proofs.Ybulkbffs
