import Derived.Test.YbulkbffsRows
import Derived.Conc.MuLone
import Derived.KernelRfl
import Derived.WalkKit
namespace Go.Proofs.Ybulkbffs
open Go.RowKit (wrap32 wrap64)
open Go.Conc.Locks Go.MuLone

abbrev Yba.muLink : MuLink := { lock := 7, unlock := 6, ilock := 10, iunlock := 9, lockSlow := 18, unlockSlow := 17, disable := 11, enable := 12, acquire := 14, relMerge := 15, cas32 := 13, add32 := 16, tMutex := 31, tIMutex := 29, tPMutex := 47, tPIMutex := 60, tPI32 := 62, tUP := 34, tNoCopy := 26, tU32 := 27 }
theorem Yba.muLib : MuLib Yba.prog Yba.muLink :=
  ⟨Yba.func7, Yba.func6, Yba.func10, Yba.func9, Yba.func11, Yba.func12, Yba.func14, Yba.func15, Yba.func13, Yba.func16, Yba.underlying29, Yba.runUnderlying29, Yba.sizeOf29, Yba.isAgg29, Yba.zeroValue29, Yba.underlying31, Yba.runUnderlying31, Yba.sizeOf31, Yba.isAgg31, Yba.zeroValue31, Yba.underlying47, Yba.runUnderlying47, Yba.sizeOf47, Yba.isAgg47, Yba.zeroValue47, Yba.underlying60, Yba.runUnderlying60, Yba.sizeOf60, Yba.isAgg60, Yba.zeroValue60, Yba.underlying62, Yba.runUnderlying62, Yba.sizeOf62, Yba.isAgg62, Yba.zeroValue62, Yba.underlying34, Yba.runUnderlying34, Yba.sizeOf34, Yba.isAgg34, Yba.zeroValue34, Yba.underlying26, Yba.runUnderlying26, Yba.sizeOf26, Yba.isAgg26, Yba.zeroValue26, Yba.underlying21, Yba.runUnderlying21, Yba.sizeOf21, Yba.isAgg21, Yba.zeroValue21, (by kernel_rfl)⟩

set_option maxHeartbeats 800000 in
/-- internal/sync's TryLock at a free lock: taken. -/
theorem itry_free (a : Addr) (w : World) (hc : w.cell? a = some (.int .i32 0)) (hz : w.frozen? a = false) :
    Calls Yba.prog 8 #[.pointer (some a)] w fun e w' => e = .returned (.bool true) ∧ w' = w.setCell a (.int .i32 1) := by
  have H := Yba.muLib
  have hd := disable H
  have he := enable H
  have ha := acquire H
  have hcas := run_call_cas_hit (P := Yba.prog) H.f_cas32 (by kernel_rfl) (by kernel_rfl) (by kernel_rfl) .i32 (by kernel_rfl) (y := 1) hc hz
  have hc' : (w.setCell a (.int .i32 1)).cell? a = some (.int .i32 1) := by simp [go_sem, hc]
  have hcv := run_convert_to_unsafe (P := Yba.prog) (src := 60) (dst := 34) H.underlying_tPIMutex H.underlying_tUP H.room_tIMutex hc'
  go_enter Yba.func8, Yba.ntmps8
  go_wp2
  go_ret
  exact ⟨rfl, rfl⟩

set_option maxHeartbeats 800000 in
theorem try_free (a : Addr) (w : World) (hc : w.cell? a = some (.int .i32 0)) (hz : w.frozen? a = false) :
    Calls Yba.prog 5 #[.pointer (some a)] w fun e w' => e = .returned (.bool true) ∧ w' = w.setCell a (.int .i32 1) := by
  go_enter Yba.func5, Yba.ntmps5
  go_wp2_with fail
  refine (itry_free a _ hc hz).mono ?_
  rintro e w' ⟨rfl, rfl⟩
  go_wp2
  go_ret
  exact ⟨rfl, rfl⟩

set_option maxHeartbeats 800000 in
/-- ready, the lock free: what the slot holds; the lock is taken and let go. -/
theorem ready_any (g i n c : Nat) (b : Nat) (v : Value) (w : World) (hi : i < n)
    (h2 : w.cell? ⟨g, 2, none⟩ = some (.int .i32 0)) (f2 : w.frozen? ⟨g, 2, none⟩ = false)
    (h12 : w.cell? ⟨g, 12, none⟩ = some (.slice (some ⟨b, 0, none⟩) n c)) (hv : w.cell? ⟨b, i, none⟩ = some v) (hb : b ≠ g) :
    Calls Yba.prog 4 #[.pointer (some ⟨g, 0, none⟩), .int .i64 i] w fun e w' => e = .returned v ∧ w' = (w.setCell ⟨g, 2, none⟩ (.int .i32 1)).setCell ⟨g, 2, none⟩ (.int .i32 0) := by
  have hi' : (i : Int) < n := by omega
  go_enter_defers Yba.func4, Yba.ntmps4
  go_wp2_with (go_at_call 7; refine (lock_free Yba.muLib ⟨g, 2, none⟩ _ h2 f2).mono ?_; rintro e w' ⟨rfl, rfl⟩)
  refine leaves_cons (f := 6) (args := #[.pointer (some ⟨g, 2, none⟩)]) (by simp) (by simp [go_sem]) ?_
  refine (unlock_deferred Yba.muLib ⟨g, 2, none⟩ .returning _ ?_ ?_).mono ?_
  · exact World.cell?_setCell_same w ⟨g, 2, none⟩ (.int .i32 1) h2
  · simp [f2]
  rintro e u' w'' ⟨rfl, rfl, rfl⟩
  exact ⟨_, results_tmp rfl _ _ _, rfl, rfl⟩

end Go.Proofs.Ybulkbffs
