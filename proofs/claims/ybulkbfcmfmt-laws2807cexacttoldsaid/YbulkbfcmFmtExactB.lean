import Derived.Test.YbulkbfcmFmtExact
import Derived.Test.YbulkbfcmFmtVars
namespace Go.Proofs.YbulkbfcmFmt
open Go.ChangeShapes Go.WideShapes Go.ChangeAt Go.RowKit
set_option linter.unusedSimpArgs false
set_option linter.unusedVariables false

set_option maxHeartbeats 2000000 in
theorem exact_empty (st sc sh : Int) (V0 : Int) (V c : Nat → Int) (a2 : Option Addr) (n cap2 : Nat) (hn0 : n ≤ 0) (hn : n ≤ 1024) (hsc : 0 ≤ sc) (hsc' : sc ≤ 255) (hsh : 0 ≤ sh) (hsh' : sh ≤ 255) (hV0 : V0 = fixI (wrap64 (st * 2 ^ (sh % 64).toNat))) (hV : ∀ k, V k = fixI (wrap64 (c k * 2 ^ (sh % 64).toNat)))
    (w : World) (a : Addr) (hE : w.cell? ⟨0, 0, none⟩ = some (.iface 71 (.pointer (some a)))) :
    Calls Ybaf.prog 3 #[.int .i64 st, .int .u8 sc, .slice a2 n cap2, .int .u8 sh] w fun e w' => e = .returned (.bool true) ∧ Below w.heap.size w w' := by
  have m1 := mk_vals n hn
  have m2 := mk_lotsE n hn
  have hn' : (n : Int) ≤ 1024 := by omega
  have HV : Hid (∀ k, V k = fixI (wrap64 (c k * 2 ^ (sh % 64).toNat))) := hV
  have HV0 : Hid (V0 = fixI (wrap64 (st * 2 ^ (sh % 64).toNat))) := hV0
  have hF0 : Fits V0 := by rw [hV0]; exact fix_fits _
  have hFV : Hid (∀ k, Fits (V k)) := fun k => by rw [hV k]; exact fix_fits _
  have HE : Hid (w.cell? ⟨0, 0, none⟩ = some (.iface 71 (.pointer (some a)))) := hE
  have hw0 : 0 < w.heap.size := World.block_lt_of_cell? _ _ hE
  clear hV hV0 hE
  obtain ⟨g1, g2⟩ := hF0
  go_enter Ybaf.func3, Ybaf.ntmps3
  go_wp2_with (go_at_call 5; refine (fix_var _ V0 HV0.out _).mono ?_; rintro e w' ⟨rfl, rfl⟩)
  go_loopw [44] (fun i wr => ∃ k : Nat, k ≤ n ∧ i = .int .i64 k ∧ InvE w' n V (sc % 19) k wr) (fun i _ => n - (intOf i).toNat)
  case atStart => exact ⟨0, Nat.zero_le _, rfl, invE_start _ n V _⟩
  case round =>
    obtain ⟨k, hk, rfl, hI⟩ := hrel
    by_cases hlt : k < n
    · exfalso; omega
    · obtain rfl : k = n := by omega
      have hII : Hid (InvE w' k V (sc % 19) k wr) := hI
      have hbb := hI.2.2.2.2.2.2.2
      have hzz := hI.2.2.2.2.2.2.1
      clear hI m1 m2 HV HV0
      rcases pre_cases V0 V ⟨g1, g2⟩ k with hA | ⟨jj, hj, hB1, hB2⟩
      · have HA : Hid (∀ j, j ≤ k → Fits (pre V0 V j)) := hA
        obtain ⟨X, hX⟩ : ∃ X, pre V0 V k = X := ⟨_, rfl⟩
        have hXf := hA k (Nat.le_refl _)
        rw [hX] at hXf
        obtain ⟨hX1, hX2⟩ := hXf
        have HX : Hid (pre V0 V k = X) := hX
        clear hA hX
        go_wp2_with (go_at_call 6; refine (new_any _ _ (by omega) (by omega) (by omega) _).mono ?_; rintro e w2 ⟨rfl, rfl⟩)
        refine (sharesE_ok w'.heap.size k hn V0 V (sc % 19) X HX.out _ (invE_lots (invE_below hII.out (bel1 _ _))) HA.out).mono ?_
        rintro e w3 ⟨rfl, hb3⟩
        have hI3 : Hid (InvE w' k V (sc % 19) k w3) := invE_below (invE_below hII.out (bel1 _ _)) hb3
        have hbw : Below w'.heap.size w' w3 := hI3.out.2.2.2.2.2.2.2
        have hz3 : w'.heap.size + 2 ≤ w3.heap.size := hI3.out.2.2.2.2.2.2.1
        clear hb3 hII hbb hzz HE
        go_wp2_with fail
        go_loopw [76] (fun i wq => ∃ j : Nat, j ≤ k ∧ i = .int .i64 j ∧ Below (w3.alloc (.cells #[.int .i64 X, .int .u8 (sc % 19)] 26)).heap.size (w3.alloc (.cells #[.int .i64 X, .int .u8 (sc % 19)] 26)) wq) (fun i _ => k - (intOf i).toNat)
        case atStart => exact ⟨0, Nat.zero_le _, rfl, Below.refl _ _⟩
        case round =>
          obtain ⟨j, hj, rfl, hq⟩ := hrel
          have hI4 := invE_below (invE_below hI3.out (bel1 _ (.cells #[.int .i64 X, .int .u8 (sc % 19)] 26))) hq
          by_cases hlt : j < k
          · exfalso; omega
          · obtain rfl : j = k := by omega
            have gc0 := (hq.cell (p := ⟨w3.heap.size, 0, none⟩) (by simp)).trans (World.cell?_alloc_at _ _ _ _ rfl)
            have gc1 := (hq.cell (p := ⟨w3.heap.size, 1, none⟩) (by simp)).trans (World.cell?_alloc_at _ _ _ _ rfl)
            simp at gc0 gc1
            have hbq : Below w'.heap.size w' wr := hI4.2.2.2.2.2.2.2
            have hvals : Hid (∀ i, i < j → wr.cell? ⟨w'.heap.size + 1, i, none⟩ = some (.int .i64 (V i))) := hI4.1
            have hz9 : w3.heap.size < wr.heap.size := by have := hq.size; simp only [World.size_alloc] at this; omega
            clear hI4 hI3 hq
            go_wp2_with fail
            go_loop [20, 21, 104] (fun x b i => ∃ q : Nat, q ≤ j ∧ i = .int .i64 q ∧ b = .bool true ∧ ∃ Y : Int, x = .int .i64 Y ∧ Hid (Y = pre V0 V q)) (fun _ _ i => j - (intOf i).toNat)
            case atStart => exact ⟨0, Nat.zero_le _, rfl, rfl, _, rfl, rfl⟩
            case round =>
              obtain ⟨q, hq, rfl, rfl, Y, rfl, hY⟩ := hrel
              by_cases hlt : q < j
              · exfalso; omega
              · obtain rfl : q = j := by omega
                obtain rfl : Y = X := by rw [hY.out]; exact HX.out
                clear hvals HA HX hFV hY
                go_wp2_with fail
                go_region_held3 (fun wq => wq.cell? ⟨w3.heap.size, 0, none⟩ = some (.int .i64 Y) ∧ wq.cell? ⟨w3.heap.size, 1, none⟩ = some (.int .u8 (sc % 19))) (simp [go_sem, World.cell?_alloc_past, gc0, gc1, hz9])
                  (first | (go_at_call 6; refine (new_any _ _ (by omega) (by omega) (by omega) _).mono ?_; rintro e w5 ⟨rfl, rfl⟩))
                go_wp2
                go_ret
                have hwz := hbq.size
                exact ⟨rfl, (hbq.alloc hwz _).drew⟩
      · exfalso; omega


set_option maxHeartbeats 400000 in
theorem exact_long (st sc sh : Int) (a2 : Option Addr) (n cap2 : Nat) (hn : 1024 < n) (w : World) :
    Calls Ybaf.prog 3 #[.int .i64 st, .int .u8 sc, .slice a2 n cap2, .int .u8 sh] w fun e w' => e = .returned (.bool true) ∧ Below w.heap.size w w' := by
  have hn' : (1024 : Int) < n := by omega
  go_enter Ybaf.func3, Ybaf.ntmps3
  go_wp2
  go_ret
  exact ⟨rfl, Below.refl _ _⟩

theorem exact_all (st sc sh : Int) (a2 : Option Addr) (n cap2 : Nat) (z2 : List Int) (w : World)
    (w1 : (Lit.int .u8 sc).wf = true) (w3 : (Lit.int .u8 sh).wf = true) (w2 : IsRow .i64 w a2 n cap2 z2) (a : Addr) (hE : w.cell? ⟨0, 0, none⟩ = some (.iface 71 (.pointer (some a)))) :
    Calls Ybaf.prog 3 #[.int .i64 st, .int .u8 sc, .slice a2 n cap2, .int .u8 sh] w fun e w' => e = .returned (.bool true) ∧ Below w.heap.size w w' := by
  by_cases hn : 1024 < n
  · exact exact_long st sc sh a2 n cap2 hn w
  have hn : n ≤ 1024 := by omega
  obtain ⟨s1, s2⟩ := wf_u8 w1
  obtain ⟨k1, k2⟩ := wf_u8 w3
  rcases isRow_open w2 with h2 | ⟨b2, o2, rfl, c2⟩
  · exact exact_empty st sc sh _ (fun k => fixI (wrap64 (z2.getD k 0 * 2 ^ (sh % 64).toNat))) (fun k => z2.getD k 0) a2 n cap2 h2 hn s1 s2 k1 k2 rfl (fun _ => rfl) w a hE
  · exact exact_core st sc sh _ (fun k => fixI (wrap64 (z2.getD k 0 * 2 ^ (sh % 64).toNat))) (fun k => z2.getD k 0) b2 o2 n cap2 hn s1 s2 k1 k2 rfl (fun _ => rfl) w c2 a hE

/-- The type's name that the given datum of ErrRange bears. -/
def dName : DataW Unit → String
  | .iface n _ => n
  | _ => ""
def nmE : String := dName Rows.laid_example_com_zhaomu_zhaomu_pkg_decimal_ErrRange

theorem Ybaf.row71 (u : TypeId) (h : Ybaf.prog.typeName? 3 u = some nmE) : u = 71 := by
  refine typeName_ptr_named (P := Ybaf.prog) (nm := "errors.errorString") ?_ (by kernel_rfl) (by decide) u (h.trans (congrArg some (by decide)))
  generalize hs : _ ++ "errors.errorString" = x
  obtain rfl : nmE = x := by rw [← hs]; decide
  kernel_rfl

theorem laid_err {W : World} (h : laidMetH Ybaf.prog Rows.lawS2807CMixedRow.laid W) : ∃ a, W.cell? ⟨0, 0, none⟩ = some (.iface 71 (.pointer (some a))) := by
  rw [MakeChecks.laidMetH_plain _ _ _ (by kernel_rfl)] at h
  obtain ⟨a0, s0, hv0, hc0, hs0, hz0⟩ := laid_sentinel h Ybaf.g0 Ybaf.g0type Ybaf.underlying31 Ybaf.row71 Ybaf.underlying71 Ybaf.underlying100 rfl rfl Ybaf.underlying9 (by kernel_rfl) (by kernel_rfl)
  have := World.var?_cell Ybaf.g0 hv0 0
  exact ⟨a0, by simpa using this⟩

end Go.Proofs.YbulkbfcmFmt
