import Derived.Test.YbulkbfcmFmtMixedB
import Derived.Test.YbulkbfcmFmtVars
namespace Go.Proofs.YbulkbfcmFmt
open Go.ChangeShapes Go.WideShapes Go.ChangeAt Go.RowKit
set_option linter.unusedVariables false

set_option maxHeartbeats 400000 in
theorem mixed_long (st ss : Int) (v3 : Value) (a2 : Option Addr) (n cap2 : Nat) (hn : 1024 < n) (w : World) :
    Calls Ybaf.prog 4 #[.int .i16 st, .int .u8 ss, .slice a2 n cap2, v3] w fun e w' => e = .returned (.bool true) ∧ Below w.heap.size w w' := by
  have hn' : (1024 : Int) < n := by omega
  go_enter Ybaf.func4, Ybaf.ntmps4
  go_wp2
  go_ret
  exact ⟨rfl, Below.refl _ _⟩

theorem mixed_any (st ss : Int) (a2 : Option Addr) (n cap2 : Nat) (z2 : List Int) (a3 : Option Addr) (len3 cap3 : Nat) (z3 : List Int) (w : World)
    (w0 : (Lit.int .i16 st).wf = true) (w1 : (Lit.int .u8 ss).wf = true) (w2 : IsRow .i16 w a2 n cap2 z2) (w3 : IsRow .u8 w a3 len3 cap3 z3) (hT : Tab w) (hw : 2 < w.heap.size) :
    Calls Ybaf.prog 4 #[.int .i16 st, .int .u8 ss, .slice a2 n cap2, .slice a3 len3 cap3] w fun e w' => e = .returned (.bool true) ∧ Below w.heap.size w w' := by
  by_cases hn : 1024 < n
  · exact mixed_long st ss _ a2 n cap2 hn w
  have hn : n ≤ 1024 := by omega
  have hst := wf_i16 w0
  have hss := wf_u8 w1
  obtain ⟨s0, hs0⟩ : ∃ s0 : Nat, ss % 7 = (s0 : Int) := ⟨(ss % 7).toNat, by omega⟩
  have hc : ∀ k, -32768 ≤ z2.getD k 0 ∧ z2.getD k 0 ≤ 32767 := fun k => wf_i16 (getD_wf (isRow_wf w2) (by decide) k)
  have hz : ∀ k, 0 ≤ z3.getD k 0 ∧ z3.getD k 0 ≤ 255 := fun k => wf_u8 (getD_wf (isRow_wf w3) (by decide) k)
  obtain ⟨t, ht⟩ : ∃ t : Nat → Nat, t = fun k => if k < len3 then (z3.getD k 0 % 7).toNat else 0 := ⟨_, rfl⟩
  have hzt : ∀ k, k < len3 → z3.getD k 0 % 7 = (t k : Int) := fun k hk => by have := hz k; rw [ht]; simp only [hk, if_true]; omega
  have hzf : ∀ k, ¬ k < len3 → t k = 0 := fun k hk => by rw [ht]; simp only [hk, if_false]
  rcases isRow_open w2 with h2 | ⟨b2, o2, rfl, c2⟩
  · exact mixed_nocoefs st ss s0 hst hss hs0 a2 n cap2 h2 hn (fun k => z2.getD k 0) hc a3 len3 cap3 (fun k => z3.getD k 0) hz t hzt hzf w hT hw
  rcases isRow_open w3 with h3 | ⟨b3, o3, rfl, c3⟩
  · exact mixed_noscales st ss s0 hst hss hs0 b2 o2 n cap2 hn (fun k => z2.getD k 0) hc a3 len3 cap3 h3 (fun k => z3.getD k 0) hz t hzt hzf w hT hw c2
  · exact mixed_core st ss s0 hst hss hs0 b2 o2 n cap2 hn (fun k => z2.getD k 0) hc b3 o3 len3 cap3 (fun k => z3.getD k 0) hz t hzt hzf w hT hw c2 c3

theorem witness_mixed (os : Os) {H : Type} (enc : TypeId × Value → H) :
    (OpenSpec.ofChange Rows.lawS2807CMixedSpec).preRow enc Ybaf.prog Ybaf.f4 Rows.lawS2807CMixedRow.domain false Rows.lawS2807CMixedRow.laid ((World.doorLaid Ybaf.prog 596 os).forCall (fun _ _ => 0) ⟨#[], #[.int .i16 0, .int .u8 0, .slice none 0 0, .slice none 0 0], []⟩).memory #[.int .i16 0, .int .u8 0, .slice none 0 0, .slice none 0 0] :=
  OpenSpec.preRow_of_B rfl 8 (by kernel_rfl) (by kernel_rfl) (door_met os _)

set_option maxRecDepth 100000 in
theorem mixed_lifted (os : Os) (started : os.Started) (H : Type) (enc : TypeId × Value → H) :
    ReturnsInTold none {} Ybaf.checked os 4 .any Input.okWide ((OpenSpec.ofChange Rows.lawS2807CMixedSpec).preRow enc Ybaf.prog Ybaf.f4 Rows.lawS2807CMixedRow.domain false Rows.lawS2807CMixedRow.laid)
      (fun F => ((OpenSpec.ofChange Rows.lawS2807CMixedSpec).at F).post enc Ybaf.prog Ybaf.f4 false true false false) (aloneAtReturn Ybaf.prog) nothingAlways := by
  refine returnsInTold_of_row (C := Ybaf.checked) (s := OpenSpec.ofChange Rows.lawS2807CMixedSpec) (by kernel_rfl) Ybaf.own started (by kernel_rfl) Ybaf.func4
    (OpenSpec.witness_stopped_atRef (enc := enc) (C := Ybaf.checked) false (World.doorLaid Ybaf.prog 596 os) #[.int .i16 0, .int .u8 0, .slice none 0 0, .slice none 0 0] rfl (by kernel_rfl) (by kernel_rfl) (by kernel_rfl) (witness_mixed os enc)) ?_
  intro F W base args ds gs before _ _ hval0 hW _ _ _ hL _
  have hval : ∀ (j : Nat) t v, Ybaf.f4.params[j]? = some t → args[j]? = some v → Value.okWide Ybaf.prog W .any base t v := hval0
  have hW' := hW
  obtain ⟨p, q, hA0, hV0, rfl, hfz, hnd⟩ := hW
  have hV : DataW.TrodVars enc Ybaf.prog W (fun _ => true) Rows.lawS2807CMixedSpec.vars gs q := hV0
  have hA : DataW.TrodAll enc Ybaf.prog W 0 (fun _ => true) true Ybaf.f4.params.toList args.toList ds p := hA0
  rw [Ybaf.params4] at hA hval
  obtain ⟨v0, v1, v2, v3, d0, d1, d2, d3, p0, p1, p2, p3, rfl, rfl, rfl, h0, h1, h2, h3⟩ := trodAll_four hA
  obtain ⟨st, rfl, rfl, rfl, w0⟩ := open_int Ybaf.underlying36 (hval 0 36 v0 rfl rfl) h0
  obtain ⟨ss, rfl, rfl, rfl, w1⟩ := open_int Ybaf.underlying5 (hval 1 5 v1 rfl rfl) h1
  obtain ⟨a2, len2, cap2, rfl⟩ := okWide_slice Ybaf.underlying37 (hval 2 37 v2 rfl rfl)
  have k2 := h2
  have lt2 : ∀ x ∈ p2, x.block < W.heap.size := by obtain ⟨m, hm⟩ := k2; exact DataW.trod_lt m _ _ _ hm
  obtain ⟨z2, w2⟩ : ∃ zs, IsRow .i16 W a2 len2 cap2 zs := by
    obtain ⟨fuel, hf⟩ := h2
    rcases open_ints Ybaf.underlying37 Ybaf.underlying36 (by kernel_rfl) hf with ⟨hcs, _⟩ | ⟨x, l, c, zs, hcs, _, hl, hm, hz, _, hcell, hwz⟩
    · simp [Value.cells] at hcs
      obtain ⟨rfl, rfl, rfl⟩ := hcs
      exact ⟨[], .inl ⟨rfl, rfl, rfl, rfl⟩⟩
    · simp [Value.cells] at hcs
      obtain ⟨rfl, rfl, rfl⟩ := hcs
      exact ⟨zs, .inr ⟨_, rfl, hl, hm, by simpa using hz, hcell, hwz⟩⟩
  obtain ⟨a3, len3, cap3, rfl⟩ := okWide_slice Ybaf.underlying38 (hval 3 38 v3 rfl rfl)
  have k3 := h3
  have lt3 : ∀ x ∈ p3, x.block < W.heap.size := by obtain ⟨m, hm⟩ := k3; exact DataW.trod_lt m _ _ _ hm
  obtain ⟨z3, w3⟩ : ∃ zs, IsRow .u8 W a3 len3 cap3 zs := by
    obtain ⟨fuel, hf⟩ := h3
    rcases open_ints Ybaf.underlying38 Ybaf.underlying5 (by kernel_rfl) hf with ⟨hcs, _⟩ | ⟨x, l, c, zs, hcs, _, hl, hm, hz, _, hcell, hwz⟩
    · simp [Value.cells] at hcs
      obtain ⟨rfl, rfl, rfl⟩ := hcs
      exact ⟨[], .inl ⟨rfl, rfl, rfl, rfl⟩⟩
    · simp [Value.cells] at hcs
      obtain ⟨rfl, rfl, rfl⟩ := hcs
      exact ⟨zs, .inr ⟨_, rfl, hl, hm, by simpa using hz, hcell, hwz⟩⟩
  clear hA0 hval0 hV0
  obtain ⟨hT, hw⟩ := laid_tab hL
  have hvars := fun (W' : World) (bel : Below W.heap.size W W') => trodVars_below Ybaf.laidOut bel vars_ok hV (whole_lt hV)
  obtain ⟨g1, g2, g3, rfl⟩ : ∃ g1 g2 g3, gs = [g1, g2, g3] := by
    match gs, hV with
    | [], h => exact h.elim
    | [_], h => obtain ⟨_, _, _, _, _, _, _, _, _, _, h, _⟩ := h; exact h.elim
    | [_, _], h => obtain ⟨_, _, _, _, _, _, _, _, _, _, h, _⟩ := h; obtain ⟨_, _, _, _, _, _, _, _, _, _, h, _⟩ := h; exact h.elim
    | [a, b, c], _ => exact ⟨a, b, c, rfl⟩
    | _ :: _ :: _ :: _ :: _, h => obtain ⟨_, _, _, _, _, _, _, _, _, _, h, _⟩ := h; obtain ⟨_, _, _, _, _, _, _, _, _, _, h, _⟩ := h; obtain ⟨_, _, _, _, _, _, _, _, _, _, h, _⟩ := h; exact h.elim
  refine (mixed_any st ss a2 len2 cap2 z2 a3 len3 cap3 z3 W w0 w1 w2 w3 hT hw).mono fun e W' ⟨he, bel⟩ => ?_
  subst he
  exact ⟨_, rfl, _, _, _, [], _, q, hW', trodAll_mk1 (shut_bool Ybaf.underlying4 _), trodAll_mk4 (shut_int Ybaf.underlying36 w0) (shut_int Ybaf.underlying5 w1) (Below.trod Ybaf.laidOut (by kernel_rfl) (of_decide_eq_true (by kernel_rfl)) k2 bel lt2) (Below.trod Ybaf.laidOut (by kernel_rfl) (of_decide_eq_true (by kernel_rfl)) k3 bel lt3), hvars W' bel, bel.frame _, fun h => by cases h⟩

theorem mixed_told : Rows.LawS2807CMixedToldSaid :=
  Claim7.holds_of_told_tied_any_at .later 4 Ybaf.f4 "fmt.Sprintf" [] [] _ _ _ _ _ (by kernel_rfl) rfl rfl rfl Ybaf.laidOut (by kernel_rfl) rfl ⟨rfl, rfl, rfl, rfl, rfl, rfl, rfl⟩ rfl rfl (by kernel_rfl) (by kernel_rfl) Ybaf.func4 (by kernel_rfl)
    (of_decide_eq_true (by kernel_rfl)) (by unfold Func.isWrapper; first | (rw [if_pos (by decide +kernel)]; kernel_rfl) | (rw [if_neg (by decide +kernel)]; exact ⟨rfl, rfl⟩)) Ybaf.stops.symm rfl Ybaf.stopKnobs.symm (by kernel_rfl)
    (by kernel_rfl) (by kernel_rfl) (by kernel_rfl) (by kernel_rfl) (by kernel_rfl) (by kernel_rfl) (by kernel_rfl) (by kernel_rfl) (by kernel_rfl) rfl (by kernel_rfl) rfl rfl
    rfl rfl
    rfl (by kernel_rfl) (by kernel_rfl) (by kernel_rfl) (by decide) (by kernel_rfl) lawS2807CMixed_row_tie
    (OpenClaim.moreEntering_of (by kernel_rfl) (by kernel_rfl) (by kernel_rfl) (by kernel_rfl) (by kernel_rfl) (by kernel_rfl) (by kernel_rfl) (by kernel_rfl) (by kernel_rfl) (by kernel_rfl))
    ⟨_, WideRow.started_initial, Ybaf.quiet _⟩
    (fun os started _ H enc _ => mixed_lifted os started H enc)

end Go.Proofs.YbulkbfcmFmt
