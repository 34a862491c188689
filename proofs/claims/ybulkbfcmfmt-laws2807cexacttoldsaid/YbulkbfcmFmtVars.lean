import Derived.Test.YbulkbfcmFmtAdd
import Derived.Test.YbulkbfcmFmtTie
import Derived.Test.YbulkbfcmFmtCards
import Derived.ProofKit
import Derived.OpenShut
import Derived.ShutString
import Derived.ChangeOld
import Derived.LaidMore
import Derived.Lib.LaidTab
import Derived.Stop.Joined
import Derived.Stop.JoinedTold
import Derived.Stop.LaidErr
import Derived.Deep.DeepWitnessRef
import Derived.SevenToldRow
import Derived.SevenTiedAt
namespace Go.Proofs.YbulkbfcmFmt
open Go.ChangeShapes Go.WideShapes Go.ChangeAt Go.RowKit
set_option linter.unusedVariables false

/-- What the walk is told of a slice of integers that came in. -/
def IsRow (k : IntKind) (w : World) (a : Option Addr) (len cap : Nat) (zs : List Int) : Prop :=
  (a = none ∧ len = 0 ∧ cap = 0 ∧ zs = []) ∨
  ∃ x, a = some x ∧ len ≤ cap ∧ cap ≤ maxLen ∧ zs.length = cap ∧ (∀ i, i < zs.length → w.cell? (x.add i) = some (.int k (zs.getD i 0))) ∧ ∀ n ∈ zs, (Lit.int k n).wf = true

theorem isRow_open {k : IntKind} {w : World} {a : Option Addr} {len cap : Nat} {zs : List Int} (h : IsRow k w a len cap zs) :
    len ≤ 0 ∨ ∃ b o, a = some ⟨b, o, none⟩ ∧ ∀ i, i < len → b < w.heap.size ∧ w.cell? ⟨b, o + i, none⟩ = some (.int k (zs.getD i 0)) := by
  rcases h with ⟨_, h, _, _⟩ | ⟨⟨b, o, sp⟩, rfl, hl, _, hz, hc, _⟩
  · exact .inl (by omega)
  · by_cases h0 : len ≤ 0
    · exact .inl h0
    · have hsp : sp = none := by simpa [Addr.add] using World.cell?_spot (hc 0 (by omega))
      subst hsp
      refine .inr ⟨b, o, rfl, fun i hi => ?_⟩
      have h1 := hc i (by omega)
      have h2 : w.cell? ⟨b, o + i, none⟩ = some (.int k (zs.getD i 0)) := by rw [← add_plain]; exact h1
      exact ⟨World.block_lt_of_cell? _ _ h2, h2⟩

theorem isRow_wf {k : IntKind} {w : World} {a : Option Addr} {len cap : Nat} {zs : List Int} (h : IsRow k w a len cap zs) : ∀ n ∈ zs, (Lit.int k n).wf = true := by
  rcases h with ⟨_, _, _, rfl⟩ | ⟨_, _, _, _, _, _, h⟩
  · intro n hn; cases hn
  · exact h

theorem wf_i16 {n : Int} (h : (Lit.int .i16 n).wf = true) : -32768 ≤ n ∧ n ≤ 32767 := by
  have e1 : IntKind.i16.min = -32768 := rfl
  have e2 : IntKind.i16.max = 32767 := rfl
  simpa [Lit.wf, e1, e2] using h
theorem wf_u8 {n : Int} (h : (Lit.int .u8 n).wf = true) : 0 ≤ n ∧ n ≤ 255 := by
  have e1 : IntKind.u8.min = 0 := rfl
  have e2 : IntKind.u8.max = 255 := rfl
  simpa [Lit.wf, e1, e2] using h
theorem getD_wf {k : IntKind} {zs : List Int} (h : ∀ n ∈ zs, (Lit.int k n).wf = true) (h0 : (Lit.int k 0).wf = true) (j : Nat) : (Lit.int k (zs.getD j 0)).wf = true := by
  by_cases hj : j < zs.length
  · have e : zs.getD j 0 = zs[j] := by simp [List.getD, hj]
    rw [e]; exact h _ (List.getElem_mem hj)
  · have e : zs.getD j 0 = 0 := by simp [List.getD, hj]
    rw [e]; exact h0

/-! ### The variables behind the call -/
theorem var_lt {P : Program} {W : World} {n : String} {g : Nat} {cs : Array Value} (hg : P.globalNamed n = some g) (hv : W.var? P n = some cs) : g < W.heap.size := by
  unfold World.var? at hv
  simp only [hg, Option.bind_some] at hv
  by_cases h : g < W.heap.size
  · exact h
  · rw [Array.getElem?_eq_none (by omega)] at hv
    cases hv

theorem trodVars_below {H : Type} {enc : TypeId × Value → H} {P : Program} (hl : laidOutB P = true) {W W' : World} (hb : Below W.heap.size W W') :
    ∀ {ns : List String} {ds : List (DataW H)} {ps : List MemPlace}, (∀ n ∈ ns, ∀ g t, P.globalNamed n = some g → (P.globals[g]?).map (·.type) = some t → P.readableRec t = true ∧ t < P.types.size) →
      DataW.TrodVars enc P W (fun _ => true) ns ds ps → (∀ x ∈ ps, x.block < W.heap.size) → DataW.TrodVars enc P W' (fun b => decide (b < W.heap.size)) ns ds ps
  | [], [], _, _, h, _ => h
  | n :: ns, d :: ds, ps, hr, h, hlt => by
    obtain ⟨g, t, cs, fuel, p, q, hg, ht, hv, hd, hrest, rfl⟩ := h
    obtain ⟨r1, r2⟩ := hr n (by simp) g t hg ht
    refine ⟨g, t, cs, fuel, p, q, hg, ht, var?_below hb hg (var_lt hg hv) hv, ?_, trodVars_below hl hb (fun n hn => hr n (by simp [hn])) hrest (fun x hx => hlt x (by simp [hx])), rfl⟩
    exact DataW.trod_stays (kids_book hl r1) (book_sized r1) (fun h => by cases h) ⟨r2, book_self t⟩ hd (fun x hx => hb.same (hlt x (by simp [hx]))) (fun x hx => by simpa using hlt x (by simp [hx]))
  | [], _ :: _, _, _, h, _ => h.elim
  | _ :: _, [], _, _, h, _ => h.elim

theorem Ybaf.own : ownKnob Ybaf.prog.godebug = none := by kernel_rfl
theorem Ybaf.laidOut : laidOutB Ybaf.prog = true := by kernel_rfl
/-- The three named variables' names, off the given row. -/
def nm0 : String := Rows.lawS2807CMixedSpec.vars.getD 0 ""
def nm1 : String := Rows.lawS2807CMixedSpec.vars.getD 1 ""
def nm2 : String := Rows.lawS2807CMixedSpec.vars.getD 2 ""
theorem Ybaf.g0 : Ybaf.prog.globalNamed nm0 = some 0 := by kernel_rfl
theorem Ybaf.g1 : Ybaf.prog.globalNamed nm1 = some 1 := by kernel_rfl
theorem Ybaf.g0type : (Ybaf.prog.globals[0]?).map (·.type) = some 31 := by kernel_rfl
theorem Ybaf.g1type : (Ybaf.prog.globals[1]?).map (·.type) = some 31 := by kernel_rfl
theorem Ybaf.g2 : Ybaf.prog.globalNamed nm2 = some 2 := by kernel_rfl
theorem Ybaf.g2type : (Ybaf.prog.globals[2]?).map (·.type) = some 69 := by kernel_rfl

def tens : List Int := [1, 10, 100, 1000, 10000, 100000, 1000000, 10000000, 100000000, 1000000000, 10000000000, 100000000000, 1000000000000, 10000000000000, 100000000000000, 1000000000000000, 10000000000000000, 100000000000000000, 1000000000000000000, 10000000000000000000]

theorem laid_tab {W : World} (h : laidMetH Ybaf.prog Rows.lawS2807CMixedRow.laid W) : Tab W ∧ 2 < W.heap.size := by
  rw [MakeChecks.laidMetH_plain _ _ _ (by kernel_rfl)] at h
  have h3 : laidMet Ybaf.prog ((nm2, Lib.tabData .u64 tens) :: []) W := laidMet.tail (laidMet.tail h)
  have hI := Lib.tabIs_of_head Ybaf.g2 Ybaf.g2type Ybaf.underlying69 Ybaf.underlying65 (by kernel_rfl) (by kernel_rfl) h3
  refine ⟨fun j hj => ?_, var_lt Ybaf.g2 hI⟩
  rw [hI.cell Ybaf.g2 j (by simp [tens]; omega)]
  match j, hj with
  | 0, _ | 1, _ | 2, _ | 3, _ | 4, _ | 5, _ | 6, _ => rfl

/-- The door's own heap meets the condition. -/
theorem door_met (os : Os) (args : Array Value) : laidMetH Ybaf.prog Rows.lawS2807CMixedRow.laid ((World.doorLaid Ybaf.prog 596 os).forCall (fun _ _ => 0) ⟨#[], args, []⟩).memory :=
  laidMetH_of_parts3 (fuel := 8) (laidMet_of_run' 8 (by kernel_rfl) (by kernel_rfl)) (by kernel_rfl) (by kernel_rfl)

theorem vars_ok : ∀ n ∈ Rows.lawS2807CMixedSpec.vars, ∀ g t, Ybaf.prog.globalNamed n = some g → (Ybaf.prog.globals[g]?).map (·.type) = some t → Ybaf.prog.readableRec t = true ∧ t < Ybaf.prog.types.size := by
  have r31 : Ybaf.prog.readableRec 31 = true ∧ 31 < Ybaf.prog.types.size := ⟨by kernel_rfl, of_decide_eq_true (by kernel_rfl)⟩
  have r69 : Ybaf.prog.readableRec 69 = true ∧ 69 < Ybaf.prog.types.size := ⟨by kernel_rfl, of_decide_eq_true (by kernel_rfl)⟩
  intro n hn g t hg ht
  have hn' : n ∈ [nm0, nm1, nm2] := hn
  simp only [List.mem_cons, List.not_mem_nil, or_false] at hn'
  rcases hn' with rfl | rfl | rfl
  · obtain rfl := Option.some.inj (Ybaf.g0.symm.trans hg); obtain rfl := Option.some.inj (Ybaf.g0type.symm.trans ht); exact r31
  · obtain rfl := Option.some.inj (Ybaf.g1.symm.trans hg); obtain rfl := Option.some.inj (Ybaf.g1type.symm.trans ht); exact r31
  · obtain rfl := Option.some.inj (Ybaf.g2.symm.trans hg); obtain rfl := Option.some.inj (Ybaf.g2type.symm.trans ht); exact r69

theorem whole_lt {H : Type} {enc : TypeId × Value → H} {P : Program} {W : World} : ∀ {ns : List String} {ds : List (DataW H)} {ps : List MemPlace}, DataW.TrodVars enc P W (fun _ => true) ns ds ps → ∀ x ∈ ps, x.block < W.heap.size
  | [], [], _, h, x, hx => by
    have e : _ = [] := h
    rw [e] at hx; cases hx
  | n :: ns, d :: ds, ps, h, x, hx => by
    obtain ⟨g, t, cs, fuel, p, q, hg, ht, hv, hd, hrest, rfl⟩ := h
    rcases List.mem_append.1 hx with hx | hx
    · rcases List.mem_append.1 hx with hx | hx
      · obtain ⟨i, hi, rfl⟩ := MemPlace.mem_row.1 hx
        exact var_lt hg hv
      · exact DataW.trod_lt fuel _ _ _ hd x hx
    · exact whole_lt hrest x hx
  | [], _ :: _, _, h, _, _ => h.elim
  | _ :: _, [], _, h, _, _ => h.elim

theorem Ybaf.stops : Ybaf.pinned.checked.prog.stops = ["fmt.Sprintf"] := by kernel_rfl
theorem Ybaf.stopKnobs : Ybaf.pinned.checked.prog.stopKnobs = [] := by kernel_rfl
theorem Ybaf.quiet (os : Os) : Stop.quiet Ybaf.pinned.checked.prog os := by
  intro k hk
  rw [Ybaf.stopKnobs] at hk
  cases hk

end Go.Proofs.YbulkbfcmFmt
