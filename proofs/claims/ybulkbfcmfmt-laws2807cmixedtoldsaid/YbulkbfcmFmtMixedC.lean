import Derived.Test.YbulkbfcmFmtMixedB
import Derived.Test.YbulkbfcmFmtTie
import Derived.Test.YbulkbfcmFmtCards
import Derived.ProofKit
import Derived.OpenShut
import Derived.ShutString
import Derived.ChangeOld
import Derived.LaidMore
import Derived.Lib.LaidTab
import Derived.Stop.Joined
import Derived.Stop.JoinedTold
import Derived.Stop.LaidErr
import Derived.Deep.DeepWitnessRef
import Derived.SevenToldRow
import Derived.SevenTiedAt
namespace Go.Proofs.YbulkbfcmFmt
open Go.ChangeShapes Go.WideShapes Go.ChangeAt Go.RowKit
set_option linter.unusedVariables false

/-- What the walk is told of a slice of integers that came in. -/
def IsRow (k : IntKind) (w : World) (a : Option Addr) (len cap : Nat) (zs : List Int) : Prop :=
  (a = none ∧ len = 0 ∧ cap = 0 ∧ zs = []) ∨
  ∃ x, a = some x ∧ len ≤ cap ∧ cap ≤ maxLen ∧ zs.length = cap ∧ (∀ i, i < zs.length → w.cell? (x.add i) = some (.int k (zs.getD i 0))) ∧ ∀ n ∈ zs, (Lit.int k n).wf = true

theorem isRow_open {k : IntKind} {w : World} {a : Option Addr} {len cap : Nat} {zs : List Int} (h : IsRow k w a len cap zs) :
    len ≤ 0 ∨ ∃ b o, a = some ⟨b, o, none⟩ ∧ ∀ i, i < len → b < w.heap.size ∧ w.cell? ⟨b, o + i, none⟩ = some (.int k (zs.getD i 0)) := by
  rcases h with ⟨_, h, _, _⟩ | ⟨⟨b, o, sp⟩, rfl, hl, _, hz, hc, _⟩
  · exact .inl (by omega)
  · by_cases h0 : len ≤ 0
    · exact .inl h0
    · have hsp : sp = none := by simpa [Addr.add] using World.cell?_spot (hc 0 (by omega))
      subst hsp
      refine .inr ⟨b, o, rfl, fun i hi => ?_⟩
      have h1 := hc i (by omega)
      have h2 : w.cell? ⟨b, o + i, none⟩ = some (.int k (zs.getD i 0)) := by rw [← add_plain]; exact h1
      exact ⟨World.block_lt_of_cell? _ _ h2, h2⟩

theorem isRow_wf {k : IntKind} {w : World} {a : Option Addr} {len cap : Nat} {zs : List Int} (h : IsRow k w a len cap zs) : ∀ n ∈ zs, (Lit.int k n).wf = true := by
  rcases h with ⟨_, _, _, rfl⟩ | ⟨_, _, _, _, _, _, h⟩
  · intro n hn; cases hn
  · exact h

theorem wf_i16 {n : Int} (h : (Lit.int .i16 n).wf = true) : -32768 ≤ n ∧ n ≤ 32767 := by
  have e1 : IntKind.i16.min = -32768 := rfl
  have e2 : IntKind.i16.max = 32767 := rfl
  simpa [Lit.wf, e1, e2] using h
theorem wf_u8 {n : Int} (h : (Lit.int .u8 n).wf = true) : 0 ≤ n ∧ n ≤ 255 := by
  have e1 : IntKind.u8.min = 0 := rfl
  have e2 : IntKind.u8.max = 255 := rfl
  simpa [Lit.wf, e1, e2] using h
theorem getD_wf {k : IntKind} {zs : List Int} (h : ∀ n ∈ zs, (Lit.int k n).wf = true) (h0 : (Lit.int k 0).wf = true) (j : Nat) : (Lit.int k (zs.getD j 0)).wf = true := by
  by_cases hj : j < zs.length
  · have e : zs.getD j 0 = zs[j] := by simp [List.getD, hj]
    rw [e]; exact h _ (List.getElem_mem hj)
  · have e : zs.getD j 0 = 0 := by simp [List.getD, hj]
    rw [e]; exact h0

set_option maxHeartbeats 400000 in
theorem mixed_long (st ss : Int) (v3 : Value) (a2 : Option Addr) (n cap2 : Nat) (hn : 1024 < n) (w : World) :
    Calls Ybaf.prog 4 #[.int .i16 st, .int .u8 ss, .slice a2 n cap2, v3] w fun e w' => e = .returned (.bool true) ∧ Below w.heap.size w w' := by
  have hn' : (1024 : Int) < n := by omega
  go_enter Ybaf.func4, Ybaf.ntmps4
  go_wp2
  go_ret
  exact ⟨rfl, Below.refl _ _⟩

theorem mixed_any (st ss : Int) (a2 : Option Addr) (n cap2 : Nat) (z2 : List Int) (a3 : Option Addr) (len3 cap3 : Nat) (z3 : List Int) (w : World)
    (w0 : (Lit.int .i16 st).wf = true) (w1 : (Lit.int .u8 ss).wf = true) (w2 : IsRow .i16 w a2 n cap2 z2) (w3 : IsRow .u8 w a3 len3 cap3 z3) (hT : Tab w) (hw : 2 < w.heap.size) :
    Calls Ybaf.prog 4 #[.int .i16 st, .int .u8 ss, .slice a2 n cap2, .slice a3 len3 cap3] w fun e w' => e = .returned (.bool true) ∧ Below w.heap.size w w' := by
  by_cases hn : 1024 < n
  · exact mixed_long st ss _ a2 n cap2 hn w
  have hn : n ≤ 1024 := by omega
  have hst := wf_i16 w0
  have hss := wf_u8 w1
  obtain ⟨s0, hs0⟩ : ∃ s0 : Nat, ss % 7 = (s0 : Int) := ⟨(ss % 7).toNat, by omega⟩
  have hc : ∀ k, -32768 ≤ z2.getD k 0 ∧ z2.getD k 0 ≤ 32767 := fun k => wf_i16 (getD_wf (isRow_wf w2) (by decide) k)
  have hz : ∀ k, 0 ≤ z3.getD k 0 ∧ z3.getD k 0 ≤ 255 := fun k => wf_u8 (getD_wf (isRow_wf w3) (by decide) k)
  obtain ⟨t, ht⟩ : ∃ t : Nat → Nat, t = fun k => if k < len3 then (z3.getD k 0 % 7).toNat else 0 := ⟨_, rfl⟩
  have hzt : ∀ k, k < len3 → z3.getD k 0 % 7 = (t k : Int) := fun k hk => by have := hz k; rw [ht]; simp only [hk, if_true]; omega
  have hzf : ∀ k, ¬ k < len3 → t k = 0 := fun k hk => by rw [ht]; simp only [hk, if_false]
  rcases isRow_open w2 with h2 | ⟨b2, o2, rfl, c2⟩
  · exact mixed_nocoefs st ss s0 hst hss hs0 a2 n cap2 h2 hn (fun k => z2.getD k 0) hc a3 len3 cap3 (fun k => z3.getD k 0) hz t hzt hzf w hT hw
  rcases isRow_open w3 with h3 | ⟨b3, o3, rfl, c3⟩
  · exact mixed_noscales st ss s0 hst hss hs0 b2 o2 n cap2 hn (fun k => z2.getD k 0) hc a3 len3 cap3 h3 (fun k => z3.getD k 0) hz t hzt hzf w hT hw c2
  · exact mixed_core st ss s0 hst hss hs0 b2 o2 n cap2 hn (fun k => z2.getD k 0) hc b3 o3 len3 cap3 (fun k => z3.getD k 0) hz t hzt hzf w hT hw c2 c3

/-! ### The variables behind the call -/
theorem var_lt {P : Program} {W : World} {n : String} {g : Nat} {cs : Array Value} (hg : P.globalNamed n = some g) (hv : W.var? P n = some cs) : g < W.heap.size := by
  unfold World.var? at hv
  simp only [hg, Option.bind_some] at hv
  by_cases h : g < W.heap.size
  · exact h
  · rw [Array.getElem?_eq_none (by omega)] at hv
    cases hv

theorem trodVars_below {H : Type} {enc : TypeId × Value → H} {P : Program} (hl : laidOutB P = true) {W W' : World} (hb : Below W.heap.size W W') :
    ∀ {ns : List String} {ds : List (DataW H)} {ps : List MemPlace}, (∀ n ∈ ns, ∀ g t, P.globalNamed n = some g → (P.globals[g]?).map (·.type) = some t → P.readableRec t = true ∧ t < P.types.size) →
      DataW.TrodVars enc P W (fun _ => true) ns ds ps → (∀ x ∈ ps, x.block < W.heap.size) → DataW.TrodVars enc P W' (fun b => decide (b < W.heap.size)) ns ds ps
  | [], [], _, _, h, _ => h
  | n :: ns, d :: ds, ps, hr, h, hlt => by
    obtain ⟨g, t, cs, fuel, p, q, hg, ht, hv, hd, hrest, rfl⟩ := h
    obtain ⟨r1, r2⟩ := hr n (by simp) g t hg ht
    refine ⟨g, t, cs, fuel, p, q, hg, ht, var?_below hb hg (var_lt hg hv) hv, ?_, trodVars_below hl hb (fun n hn => hr n (by simp [hn])) hrest (fun x hx => hlt x (by simp [hx])), rfl⟩
    exact DataW.trod_stays (kids_book hl r1) (book_sized r1) (fun h => by cases h) ⟨r2, book_self t⟩ hd (fun x hx => hb.same (hlt x (by simp [hx]))) (fun x hx => by simpa using hlt x (by simp [hx]))
  | [], _ :: _, _, _, h, _ => h.elim
  | _ :: _, [], _, _, h, _ => h.elim

theorem Ybaf.own : ownKnob Ybaf.prog.godebug = none := by kernel_rfl
theorem Ybaf.laidOut : laidOutB Ybaf.prog = true := by kernel_rfl
theorem Ybaf.g2 : Ybaf.prog.globalNamed "example.com/zhaomu/zhaomu/pkg/decimal.pow10" = some 2 := by kernel_rfl
theorem Ybaf.g2type : (Ybaf.prog.globals[2]?).map (·.type) = some 69 := by kernel_rfl

def tens : List Int := [1, 10, 100, 1000, 10000, 100000, 1000000, 10000000, 100000000, 1000000000, 10000000000, 100000000000, 1000000000000, 10000000000000, 100000000000000, 1000000000000000, 10000000000000000, 100000000000000000, 1000000000000000000, 10000000000000000000]

theorem laid_tab {W : World} (h : laidMetH Ybaf.prog Rows.lawS2807CMixedRow.laid W) : Tab W ∧ 2 < W.heap.size := by
  rw [MakeChecks.laidMetH_plain _ _ _ (by kernel_rfl)] at h
  have h3 : laidMet Ybaf.prog (("example.com/zhaomu/zhaomu/pkg/decimal.pow10", Lib.tabData .u64 tens) :: []) W := laidMet.tail (laidMet.tail h)
  have hI := Lib.tabIs_of_head Ybaf.g2 Ybaf.g2type Ybaf.underlying69 Ybaf.underlying65 (by kernel_rfl) (by kernel_rfl) h3
  refine ⟨fun j hj => ?_, var_lt Ybaf.g2 hI⟩
  rw [hI.cell Ybaf.g2 j (by simp [tens]; omega)]
  match j, hj with
  | 0, _ | 1, _ | 2, _ | 3, _ | 4, _ | 5, _ | 6, _ => rfl

/-- The door's own heap meets the condition. -/
theorem door_met (os : Os) (args : Array Value) : laidMetH Ybaf.prog Rows.lawS2807CMixedRow.laid ((World.doorLaid Ybaf.prog 596 os).forCall (fun _ _ => 0) ⟨#[], args, []⟩).memory :=
  laidMetH_of_parts3 (fuel := 8) (laidMet_of_run' 8 (by kernel_rfl) (by kernel_rfl)) (by kernel_rfl) (by kernel_rfl)

end Go.Proofs.YbulkbfcmFmt
