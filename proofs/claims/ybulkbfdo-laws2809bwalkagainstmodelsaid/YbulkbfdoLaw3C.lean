import Derived.Test.YbulkbfdoLaw3
import Derived.ProofKit
import Derived.OpenShut
import Derived.ShutString
import Derived.ChangeOld
import Derived.Below
import Derived.Deep.SlicePairs
namespace Go.Proofs.Ybulkbfdo
open Go.ChangeShapes Go.WideShapes Go.ChangeAt Go.RowKit
set_option linter.unusedVariables false

theorem own : ownKnob Yba.prog.godebug = none := by kernel_rfl
theorem laidOut : laidOutB Yba.prog = true := by kernel_rfl
theorem cells22 : Yba.prog.cellsOf 22 = 1 := by kernel_rfl
theorem cells27 : Yba.prog.cellsOf 27 = 2 := by kernel_rfl
theorem wf_u16 {n : Int} (h : (Lit.int .u16 n).wf = true) : 0 ≤ n ∧ n ≤ 65535 := by
  have e1 : IntKind.u16.min = 0 := rfl
  have e2 : IntKind.u16.max = 65535 := rfl
  simpa [Lit.wf, e1, e2] using h
theorem wf_u32 {n : Int} (h : (Lit.int .u32 n).wf = true) : 0 ≤ n ∧ n ≤ 4294967295 := by
  have e1 : IntKind.u32.min = 0 := rfl
  have e2 : IntKind.u32.max = 4294967295 := rfl
  simpa [Lit.wf, e1, e2] using h

set_option maxRecDepth 100000 in
set_option maxHeartbeats 400000 in
theorem law3_out (a0 : Int) (a1 : Option Addr) (len cap : Nat) (s1 h1 s2 h2 : Int) (h : (a0 == 0) = true ∨ ((a0 == 0) = false ∧ 256 < a0) ∨ ((a0 == 0) = false ∧ ¬ 256 < a0 ∧ 1024 < len)) (w : World) :
    Calls Yba.prog 3 #[.int .u16 a0, .slice a1 len cap, .int .u32 s1, .int .i64 h1, .int .u32 s2, .int .i64 h2] w fun e w' => e = .returned (.bool true) ∧ Below w.heap.size w w' := by
  rcases h with h | ⟨h, h3⟩ | ⟨h, h3, h4⟩
  · go_enter Yba.func3, Yba.ntmps3
    go_wp2
    go_ret
    exact ⟨rfl, Below.refl _ _⟩
  · have d3 : decide (256 < a0) = true := by simpa using h3
    go_enter Yba.func3, Yba.ntmps3
    go_wp2
    go_ret
    exact ⟨rfl, Below.refl _ _⟩
  · have d3 : decide (256 < a0) = false := by simpa using h3
    have h4' : (1024 : Int) < len := by omega
    have d4 : decide ((1024 : Int) < len) = true := by simpa using h4'
    go_enter Yba.func3, Yba.ntmps3
    go_wp2
    go_ret
    exact ⟨rfl, Below.refl _ _⟩

theorem law3_walk (a0 : Int) (a1 : Option Addr) (len cap : Nat) (s1 h1 s2 h2 : Int) (w0 : (Lit.int .u16 a0).wf = true) (w2 : (Lit.int .u32 s1).wf = true) (w4 : (Lit.int .u32 s2).wf = true) (w : World) (hE : Edges w a1 len) :
    Calls Yba.prog 3 #[.int .u16 a0, .slice a1 len cap, .int .u32 s1, .int .i64 h1, .int .u32 s2, .int .i64 h2] w fun e w' => e = .returned (.bool true) ∧ Below w.heap.size w w' := by
  obtain ⟨l0, u0⟩ := wf_u16 w0
  obtain ⟨l2, u2⟩ := wf_u32 w2
  obtain ⟨l4, u4⟩ := wf_u32 w4
  by_cases hz : a0 = 0
  · exact law3_out a0 a1 len cap s1 h1 s2 h2 (.inl (by simpa using hz)) w
  by_cases hl : 256 < a0
  · exact law3_out a0 a1 len cap s1 h1 s2 h2 (.inr (.inl ⟨by simpa using hz, hl⟩)) w
  by_cases hm : 1024 < len
  · exact law3_out a0 a1 len cap s1 h1 s2 h2 (.inr (.inr ⟨by simpa using hz, hl, hm⟩)) w
  obtain ⟨n, rfl⟩ := Int.eq_ofNat_of_zero_le l0
  obtain ⟨t1, rfl⟩ := Int.eq_ofNat_of_zero_le l2
  obtain ⟨t2, rfl⟩ := Int.eq_ofNat_of_zero_le l4
  exact law3_core n len cap a1 t1 t2 h1 h2 (by omega) (by omega) (by omega) (by omega) (by omega) w hE

/-- What an argument of this slice's type holds. -/
theorem edges_of {H : Type} {enc : TypeId × Value → H} {W : World} {fuel : Nat} {a : Option Addr} {len cap : Nat} {x : DataW H × List MemPlace}
    (h : DataW.trod enc Yba.prog W 0 (fun _ => true) true fuel 23 [.slice a len cap] = some x) : Edges W a len := by
  rcases Go.Deep.open_slice_pairs Yba.underlying23 Yba.underlying27 cells27 rfl rfl cells22 cells22 h with ⟨hc, _⟩ | ⟨p, l, c, m, k, V0, V1, D0, D1, P0, P1, hc, _, hl, _, hmm, _, hall⟩
  · simp at hc
    obtain ⟨rfl, rfl, rfl⟩ := hc
    intro j hj
    omega
  · simp at hc
    obtain ⟨rfl, rfl, rfl⟩ := hc
    simp only [if_true] at hmm
    subst hmm
    intro j hj
    obtain ⟨b, o, sp⟩ := p
    obtain ⟨c0, c1, t0, t1⟩ := hall j (by omega)
    obtain ⟨U, eU, _, wU⟩ := DataW.trod_int Yba.underlying22 t0
    obtain ⟨V, eV, _, wV⟩ := DataW.trod_int Yba.underlying22 t1
    simp only [List.cons.injEq, and_true] at eU eV
    rw [eU] at c0
    rw [eV] at c1
    have hsp : sp = none := by simpa [Addr.add] using World.cell?_spot (hall 0 (by omega)).1
    subst hsp
    rw [add_plain] at c0 c1
    obtain ⟨l0, u0⟩ := wf_u16 wU
    obtain ⟨l1, u1⟩ := wf_u16 wV
    obtain ⟨U', rfl⟩ := Int.eq_ofNat_of_zero_le l0
    obtain ⟨V', rfl⟩ := Int.eq_ofNat_of_zero_le l1
    exact ⟨b, o, U', V', rfl, World.block_lt_of_cell? _ _ c0, c0, c1, by omega, by omega⟩

set_option maxRecDepth 100000 in
theorem law3_lifted (os : Os) (started : os.Started) (H : Type) (enc : TypeId × Value → H) :
    ReturnsInHanded {} Yba.checked os 3 .any (Rows.lawS2809BWalkAgainstModelSpec.pre6 enc Yba.prog Yba.f3 Rows.lawS2809BWalkAgainstModelRow.domain false) (Rows.lawS2809BWalkAgainstModelSpec.post enc Yba.prog Yba.f3 false true false false) := by
  refine returnsInHanded_of_change (C := Yba.checked) own started (by kernel_rfl) Yba.func3
    (ChangeSpec.witness6 (enc := enc) (C := Yba.checked) false ⟨#[], #[.int .u16 0, .slice none 0 0, .int .u32 0, .int .i64 0, .int .u32 0, .int .i64 0], []⟩ 8 (by kernel_rfl) (by kernel_rfl) (by kernel_rfl) (by kernel_rfl)) ?_
  intro W base args ds gs before hval0 hW hcnd _
  have hval : ∀ (j : Nat) t v, Yba.f3.params[j]? = some t → args[j]? = some v → Value.okWide Yba.prog W .any base t v := hval0
  have hW' := hW
  obtain ⟨p, q, hA0, hV, rfl, hfz, hnd⟩ := hW
  have hA : DataW.TrodAll enc Yba.prog W 0 (fun _ => true) true Yba.f3.params.toList args.toList ds p := hA0
  rw [Yba.params3] at hA hval
  obtain ⟨v0, vs0, d0, ds0, p0, q0, hargs, rfl, rfl, h0, r0⟩ := trodAll_cons hA
  obtain ⟨v1, vs1, d1, ds1, p1, q1, rfl, rfl, rfl, h1, r1⟩ := trodAll_cons r0
  obtain ⟨v2, vs2, d2, ds2, p2, q2, rfl, rfl, rfl, h2, r2⟩ := trodAll_cons r1
  obtain ⟨v3, vs3, d3, ds3, p3, q3, rfl, rfl, rfl, h3, r3⟩ := trodAll_cons r2
  obtain ⟨v4, vs4, d4, ds4, p4, q4, rfl, rfl, rfl, h4, r4⟩ := trodAll_cons r3
  obtain ⟨v5, vs5, d5, ds5, p5, q5, rfl, rfl, rfl, h5, r5⟩ := trodAll_cons r4
  obtain ⟨rfl, rfl, rfl⟩ := trodAll_nil r5
  obtain rfl : args = #[v0, v1, v2, v3, v4, v5] := by cases args; simp_all
  obtain ⟨rfl, rfl⟩ := trodVars_none hV
  obtain ⟨a0, rfl, rfl, rfl, w0⟩ := open_int Yba.underlying22 (hval 0 22 v0 rfl rfl) h0
  obtain ⟨a1, len1, cap1, rfl⟩ := okWide_slice Yba.underlying23 (hval 1 23 v1 rfl rfl)
  have k1 := h1
  have lt1 : ∀ x ∈ p1, x.block < W.heap.size := by obtain ⟨m, hm⟩ := k1; exact DataW.trod_lt m _ _ _ hm
  have c1 : Edges W a1 len1 := by
    obtain ⟨fuel, hf⟩ := h1
    exact edges_of hf
  obtain ⟨a2, rfl, rfl, rfl, w2⟩ := open_int Yba.underlying24 (hval 2 24 v2 rfl rfl) h2
  obtain ⟨a3, rfl, rfl, rfl, w3⟩ := open_int Yba.underlying3 (hval 3 3 v3 rfl rfl) h3
  obtain ⟨a4, rfl, rfl, rfl, w4⟩ := open_int Yba.underlying24 (hval 4 24 v4 rfl rfl) h4
  obtain ⟨a5, rfl, rfl, rfl, w5⟩ := open_int Yba.underlying3 (hval 5 3 v5 rfl rfl) h5
  clear hA0 hval0
  refine (law3_walk a0 a1 len1 cap1 a2 a3 a4 a5 w0 w2 w4 W c1).mono fun e W' ⟨he, bel⟩ => ?_
  subst he
  exact ⟨_, rfl, _, _, _, [], _, [], hW', trodAll_mk1 (shut_bool Yba.underlying4 _), (trodAll_cons_mk (shut_int Yba.underlying22 w0) (trodAll_cons_mk (Below.trod laidOut (by kernel_rfl) (of_decide_eq_true (by kernel_rfl)) k1 bel lt1) (trodAll_cons_mk (shut_int Yba.underlying24 w2) (trodAll_cons_mk (shut_int Yba.underlying3 w3) (trodAll_cons_mk (shut_int Yba.underlying24 w4) (trodAll_cons_mk (shut_int Yba.underlying3 w5) trodAll_mk0)))))), rfl, bel.frame _, fun h => by cases h⟩

theorem walk_against_model : Rows.LawS2809BWalkAgainstModelSaid :=
  OpenClaim.holds_of_wide 3 Yba.f3 rfl rfl rfl rfl rfl rfl rfl ⟨rfl, rfl, rfl, rfl, rfl⟩ rfl rfl rfl rfl rfl (by kernel_rfl) Yba.func3 (by kernel_rfl)
    (of_decide_eq_true (by kernel_rfl)) (by unfold Func.isWrapper; first | (rw [if_pos (by decide +kernel)]; kernel_rfl) | (rw [if_neg (by decide +kernel)]; exact ⟨rfl, rfl⟩))
    (fun os started H enc _ => law3_lifted os started H enc)

end Go.Proofs.Ybulkbfdo
