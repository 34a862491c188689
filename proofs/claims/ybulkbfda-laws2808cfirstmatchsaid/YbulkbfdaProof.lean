import Derived.Test.YbulkbfdaLaw
import Derived.ProofKit
import Derived.OpenShut
import Derived.ShutString
import Derived.ChangeOld
import Derived.Below
import Derived.SliceStrings
namespace Go.Proofs.Ybulkbfda
open Go.ChangeShapes Go.WideShapes Go.ChangeAt Go.RowKit
open Go.ChangeMaps (open_string shut_string)
set_option linter.unusedVariables false

theorem own : ownKnob Yba.prog.godebug = none := by kernel_rfl
theorem laidOut : laidOutB Yba.prog = true := by kernel_rfl

theorem wf_u8 {n : Int} (h : (Lit.int .u8 n).wf = true) : 0 ≤ n ∧ n ≤ 255 := by
  have e1 : IntKind.u8.min = 0 := rfl
  have e2 : IntKind.u8.max = 255 := rfl
  simpa [Lit.wf, e1, e2] using h

/-- A row of cells at a slice's address: where there is an element the address is plain. -/
theorem row_at {w : World} {x : Addr} {len cap : Nat} {f : Nat → Value} (hl : len ≤ cap) (hc : ∀ i, i < cap → w.cell? (x.add i) = some (f i)) :
    ∀ i, i < len → ∃ b o, some x = some (⟨b, o, none⟩ : Addr) ∧ b < w.heap.size ∧ w.cell? ⟨b, o + i, none⟩ = some (f i) := by
  intro i hi
  obtain ⟨b, o, sp⟩ := x
  have hsp : sp = none := by simpa [Addr.add] using World.cell?_spot (hc 0 (by omega))
  subst hsp
  have h1 := hc i (by omega)
  have h2 : w.cell? ⟨b, o + i, none⟩ = some (f i) := by rw [← add_plain]; exact h1
  exact ⟨b, o, rfl, World.block_lt_of_cell? _ _ h2, h2⟩

set_option maxRecDepth 100000 in
set_option maxHeartbeats 400000 in
theorem law_long (sel pick : Int) (v2 : Value) (other : ByteArray) (a1 : Option Addr) (n cap1 : Nat) (hn : 1024 < n) (w : World) :
    Calls Yba.prog 3 #[.int .u8 sel, .slice a1 n cap1, v2, .int .u8 pick, .string other] w fun e w' => e = .returned (.bool true) ∧ Below w.heap.size w w' := by
  have hn' : (1024 : Int) < n := by omega
  go_enter Yba.func3, Yba.ntmps3
  go_wp2
  go_ret
  exact ⟨rfl, Below.refl _ _⟩

theorem law_all (sel pick : Int) (other : ByteArray) (a1 : Option Addr) (n cap1 : Nat) (K : Nat → ByteArray) (a2 : Option Addr) (len2 cap2 : Nat) (z : Nat → Int) (w0 : (Lit.int .u8 sel).wf = true) (w3 : (Lit.int .u8 pick).wf = true) (w : World)
    (cell1 : ∀ k, k < n → ∃ b o, a1 = some ⟨b, o, none⟩ ∧ b < w.heap.size ∧ w.cell? ⟨b, o + k, none⟩ = some (.string (K k))) (cell2 : ∀ k, k < len2 → ∃ b o, a2 = some ⟨b, o, none⟩ ∧ b < w.heap.size ∧ w.cell? ⟨b, o + k, none⟩ = some (.int .i64 (z k))) :
    Calls Yba.prog 3 #[.int .u8 sel, .slice a1 n cap1, .slice a2 len2 cap2, .int .u8 pick, .string other] w fun e w' => e = .returned (.bool true) ∧ Below w.heap.size w w' := by
  by_cases hn : 1024 < n
  · exact law_long sel pick _ other a1 n cap1 hn w
  · exact law_core sel pick other a1 n cap1 (by omega) K a2 len2 cap2 z (fun k => if k < len2 then z k else k) (fun k hk => by simp [hk]) (fun k hk => by simp [hk]) (wf_u8 w0) (wf_u8 w3) w cell1 cell2

set_option maxRecDepth 100000 in
theorem lifted (os : Os) (started : os.Started) (H : Type) (enc : TypeId × Value → H) :
    ReturnsInHanded {} Yba.checked os 3 .any (Rows.lawS2808CFirstMatchSpec.pre6 enc Yba.prog Yba.f3 Rows.lawS2808CFirstMatchRow.domain false) (Rows.lawS2808CFirstMatchSpec.post enc Yba.prog Yba.f3 false true false false) := by
  refine returnsInHanded_of_change (C := Yba.checked) own started (by kernel_rfl) Yba.func3
    (ChangeSpec.witness6 (enc := enc) (C := Yba.checked) false ⟨#[], #[.int .u8 0, .slice none 0 0, .slice none 0 0, .int .u8 0, .string ⟨#[]⟩], []⟩ 8 (by kernel_rfl) (by kernel_rfl) (by kernel_rfl) (by kernel_rfl)) ?_
  intro W base args ds gs before hval0 hW hcnd _
  have hval : ∀ (j : Nat) t v, Yba.f3.params[j]? = some t → args[j]? = some v → Value.okWide Yba.prog W .any base t v := hval0
  have hW' := hW
  obtain ⟨p, q, hA0, hV, rfl, hfz, hnd⟩ := hW
  have hA : DataW.TrodAll enc Yba.prog W 0 (fun _ => true) true Yba.f3.params.toList args.toList ds p := hA0
  rw [Yba.params3] at hA hval
  obtain ⟨v0, vs0, d0, ds0, p0, q0, hargs, rfl, rfl, h0, r0⟩ := trodAll_cons hA
  obtain ⟨v1, vs1, d1, ds1, p1, q1, rfl, rfl, rfl, h1, r1⟩ := trodAll_cons r0
  obtain ⟨v2, vs2, d2, ds2, p2, q2, rfl, rfl, rfl, h2, r2⟩ := trodAll_cons r1
  obtain ⟨v3, vs3, d3, ds3, p3, q3, rfl, rfl, rfl, h3, r3⟩ := trodAll_cons r2
  obtain ⟨v4, vs4, d4, ds4, p4, q4, rfl, rfl, rfl, h4, r4⟩ := trodAll_cons r3
  obtain ⟨rfl, rfl, rfl⟩ := trodAll_nil r4
  obtain rfl : args = #[v0, v1, v2, v3, v4] := by cases args; simp_all
  obtain ⟨rfl, rfl⟩ := trodVars_none hV
  obtain ⟨sel, rfl, rfl, rfl, w0⟩ := open_int Yba.underlying5 (hval 0 5 v0 rfl rfl) h0
  obtain ⟨a1, len1, cap1, rfl⟩ := okWide_slice Yba.underlying22 (hval 1 22 v1 rfl rfl)
  have k1 := h1
  have lt1 : ∀ x ∈ p1, x.block < W.heap.size := by obtain ⟨m, hm⟩ := k1; exact DataW.trod_lt m _ _ _ hm
  obtain ⟨K, c1⟩ : ∃ K : Nat → ByteArray, ∀ k, k < len1 → ∃ b o, a1 = some ⟨b, o, none⟩ ∧ b < W.heap.size ∧ W.cell? ⟨b, o + k, none⟩ = some (.string (K k)) := by
    obtain ⟨fuel, hf⟩ := h1
    rcases open_strings Yba.underlying22 Yba.underlying9 (by kernel_rfl) hf with ⟨hcs, _⟩ | ⟨x, l, c, ss, hcs, _, hl, hm, hz, _, hcell, hws⟩
    · simp [Value.cells] at hcs
      obtain ⟨rfl, rfl, rfl⟩ := hcs
      exact ⟨fun _ => ByteArray.empty, fun k hk => by omega⟩
    · simp [Value.cells] at hcs
      obtain ⟨rfl, rfl, rfl⟩ := hcs
      exact ⟨fun k => ss.getD k ByteArray.empty, row_at (cap := ss.length) (by simp at hz; omega) hcell⟩
  obtain ⟨a2, len2, cap2, rfl⟩ := okWide_slice Yba.underlying23 (hval 2 23 v2 rfl rfl)
  have k2 := h2
  have lt2 : ∀ x ∈ p2, x.block < W.heap.size := by obtain ⟨m, hm⟩ := k2; exact DataW.trod_lt m _ _ _ hm
  obtain ⟨z, c2⟩ : ∃ z : Nat → Int, ∀ k, k < len2 → ∃ b o, a2 = some ⟨b, o, none⟩ ∧ b < W.heap.size ∧ W.cell? ⟨b, o + k, none⟩ = some (.int .i64 (z k)) := by
    obtain ⟨fuel, hf⟩ := h2
    rcases open_ints Yba.underlying23 Yba.underlying3 (by kernel_rfl) hf with ⟨hcs, _⟩ | ⟨x, l, c, zs, hcs, _, hl, hm, hz, _, hcell, hwz⟩
    · simp [Value.cells] at hcs
      obtain ⟨rfl, rfl, rfl⟩ := hcs
      exact ⟨fun _ => 0, fun k hk => by omega⟩
    · simp [Value.cells] at hcs
      obtain ⟨rfl, rfl, rfl⟩ := hcs
      exact ⟨fun k => zs.getD k 0, row_at (cap := zs.length) (by simp at hz; omega) hcell⟩
  obtain ⟨pick, rfl, rfl, rfl, w3⟩ := open_int Yba.underlying5 (hval 3 5 v3 rfl rfl) h3
  obtain ⟨other, rfl, rfl, rfl, hs4⟩ := open_string Yba.underlying9 (hval 4 9 v4 rfl rfl) h4
  clear hA0 hval0
  refine (law_all sel pick other a1 len1 cap1 K a2 len2 cap2 z w0 w3 W c1 c2).mono fun e W' ⟨he, bel⟩ => ?_
  subst he
  exact ⟨_, rfl, _, _, _, [], _, [], hW', trodAll_mk1 (shut_bool Yba.underlying4 _), (trodAll_cons_mk (shut_int Yba.underlying5 w0) (trodAll_cons_mk (Below.trod laidOut (by kernel_rfl) (of_decide_eq_true (by kernel_rfl)) k1 bel lt1) (trodAll_cons_mk (Below.trod laidOut (by kernel_rfl) (of_decide_eq_true (by kernel_rfl)) k2 bel lt2) (trodAll_cons_mk (shut_int Yba.underlying5 w3) (trodAll_cons_mk (shut_string Yba.underlying9 hs4) trodAll_mk0))))), rfl, bel.frame _, fun h => by cases h⟩

theorem firstmatch : Rows.LawS2808CFirstMatchSaid :=
  OpenClaim.holds_of_wide 3 Yba.f3 rfl rfl rfl rfl rfl rfl rfl ⟨rfl, rfl, rfl, rfl, rfl⟩ rfl rfl rfl rfl rfl (by kernel_rfl) Yba.func3 (by kernel_rfl)
    (of_decide_eq_true (by kernel_rfl)) (by unfold Func.isWrapper; first | (rw [if_pos (by decide +kernel)]; kernel_rfl) | (rw [if_neg (by decide +kernel)]; exact ⟨rfl, rfl⟩))
    (fun os started H enc _ => lifted os started H enc)

end Go.Proofs.Ybulkbfda
