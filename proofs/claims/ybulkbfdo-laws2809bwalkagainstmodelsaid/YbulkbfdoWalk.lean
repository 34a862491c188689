import Derived.Test.YbulkbfdoNew
import Derived.Test.YbulkbfdoBfs
namespace Go.Proofs.Ybulkbfdo
open Go.RowKit
set_option linter.unusedSimpArgs false

/-- Neighbours on g gives nb v, whatever has been written from block D on. -/
def NB (D : Nat) (w : World) (g : Value) (n : Nat) (nb : Nat → List Nat) : Prop := ∀ v, v < n → ∀ W : World, Below D w W →
  (nb v).length ≤ 100000 ∧ ∃ (a : Option Addr) (c : Nat), (Calls Yba.prog 19 #[g, .int .i32 v] W fun e w' => e = .returned (.slice a (nb v).length c) ∧ ∃ k, w' = W.drewN k) ∧
    ∀ i, i < (nb v).length → ∃ b o, a = some ⟨b, o, none⟩ ∧ b < D ∧ W.cell? ⟨b, o + i, none⟩ = some (.int .i32 ((nb v).getD i 0 : Nat))

/-- What the last walk left: each node that is not at -1 stands in the queue. -/
def Old (n : Nat) (dist qf : Nat → Int) (len : Nat) : Prop := len ≤ n ∧ (∀ j, j < len → ∃ u : Nat, u < n ∧ qf j = (u : Int)) ∧ ∀ u, u < n → dist u = -1 ∨ ∃ j, j < len ∧ qf j = (u : Int)

theorem WK.below {w w' : World} {D n : Nat} {dist qf : Nat → Int} {len : Nat} {B : Nat} (h : WK w D n dist qf len) (hb : Below B w w') (hB : D + 3 ≤ B) : WK w' D n dist qf len :=
  ⟨h.1.below hb (by omega), h.2.1.below hb (by omega), h.2.2.below hb (by omega)⟩
theorem WK.putD {w : World} {D n : Nat} {dist qf : Nat → Int} {len : Nat} (h : WK w D n dist qf len) (j : Nat) (x : Int) : WK (w.setCell ⟨D, j, none⟩ (.int .i32 x)) D n (upd dist j x) qf len :=
  ⟨h.1.put j x, h.2.1.set_other (by simp) _, h.2.2.set_other (by simp) _⟩
theorem WK.putQ {w : World} {D n : Nat} {dist qf : Nat → Int} {len : Nat} (h : WK w D n dist qf len) (j : Nat) (x : Int) : WK (w.setCell ⟨D + 1, j, none⟩ (.int .i32 x)) D n dist (upd qf j x) len :=
  ⟨h.1.set_other (by simp) _, h.2.1.put j x, h.2.2.set_other (by simp) _⟩
theorem WK.alloc {w : World} {D n : Nat} {dist qf : Nat → Int} {len : Nat} (h : WK w D n dist qf len) (o : Obj) : WK (w.alloc o) D n dist qf len := ⟨h.1.alloc _, h.2.1.alloc _, h.2.2.alloc _⟩

/-- The walker's rows hold the state s. -/
def Holds (w : World) (D n len0 : Nat) (s : Bfs.St) : Prop := ∃ f qf, WK w D n f qf len0 ∧ (∀ u, u < n → f u = s.1 u) ∧ ∀ j, j < s.2.length → qf j = (s.2.getD j 0 : Nat)

theorem Holds.dist {w : World} {D n len0 : Nat} {s : Bfs.St} (h : Holds w D n len0 s) {u : Nat} (hu : u < n) : w.cell? ⟨D, u, none⟩ = some (.int .i32 (s.1 u)) ∧ w.frozen? ⟨D, u, none⟩ = false := by
  obtain ⟨f, qf, h, h1, h2⟩ := h
  exact ⟨by rw [h.1.int hu, h1 u hu], h.1.frozen u⟩
theorem Holds.queue {w : World} {D n len0 : Nat} {s : Bfs.St} (h : Holds w D n len0 s) {j : Nat} (hj : j < s.2.length) (hn : s.2.length ≤ n) : w.cell? ⟨D + 1, j, none⟩ = some (.int .i32 (s.2.getD j 0 : Nat)) := by
  obtain ⟨f, qf, h, h1, h2⟩ := h
  rw [h.2.1.int (show j < n by omega), h2 j hj]
theorem Holds.room {w : World} {D n len0 : Nat} {s : Bfs.St} (h : Holds w D n len0 s) {j : Nat} (hj : j < n) : (∃ v, w.cell? ⟨D + 1, j, none⟩ = some v) ∧ w.frozen? ⟨D + 1, j, none⟩ = false := by
  obtain ⟨f, qf, h, h1, h2⟩ := h
  exact ⟨⟨_, h.2.1.int hj⟩, h.2.1.frozen j⟩
theorem Holds.box {w : World} {D n len0 : Nat} {s : Bfs.St} (h : Holds w D n len0 s) : w.cell? ⟨D + 2, 0, none⟩ = some (.slice (some ⟨D, 0, none⟩) n n) ∧ w.cell? ⟨D + 2, 1, none⟩ = some (.slice (some ⟨D + 1, 0, none⟩) len0 n) ∧ w.frozen? ⟨D + 2, 1, none⟩ = false := by
  obtain ⟨f, qf, h, h1, h2⟩ := h
  exact ⟨by simpa using h.2.2.cell 0, by simpa using h.2.2.cell 1, h.2.2.frozen 1⟩
theorem Holds.drewN {w : World} {D n len0 : Nat} {s : Bfs.St} (h : Holds w D n len0 s) (k : Nat) : Holds (w.drewN k) D n len0 s := h
theorem Holds.visit {w : World} {D n len0 : Nat} {s : Bfs.St} (h : Holds w D n len0 s) {d : Int} {u : Nat} (hu : u < n) (hneg : s.1 u < 0) (o : Obj) :
    Holds (((w.setCell ⟨D, u, none⟩ (.int .i32 (d + 1))).setCell ⟨D + 1, s.2.length, none⟩ (.int .i32 u)).alloc o) D n len0 (Bfs.visit d s u) := by
  obtain ⟨f, qf, h, h1, h2⟩ := h
  rw [Bfs.visit_neg hneg]
  refine ⟨_, _, ((h.putD u (d + 1)).putQ s.2.length u).alloc o, fun v hv => ?_, fun j hj => ?_⟩
  · by_cases e : v = u
    · subst e; rw [upd_same]; simp [Bfs.put]
    · rw [upd_other _ _ e, h1 v hv]; simp [Bfs.put, e]
  · simp only [List.length_append, List.length_singleton] at hj
    by_cases e : j = s.2.length
    · subst e; rw [upd_same, Bfs.getD_snoc_new]
    · rw [upd_other _ _ e, Bfs.getD_snoc_old (by omega), h2 j (by omega)]

theorem Holds.finish {w : World} {D n len0 : Nat} {s S : Bfs.St} (h : Holds w D n len0 s) (e : s = S) :
    ∃ qf, WK (w.setCell ⟨D + 2, 1, none⟩ (.slice (some ⟨D + 1, 0, none⟩) s.2.length n)) D n S.1 qf S.2.length ∧ ∀ j, j < S.2.length → qf j = (S.2.getD j 0 : Nat) := by
  subst e
  obtain ⟨f, qf, ⟨a, b, c⟩, h1, h2⟩ := h
  refine ⟨qf, ⟨?_, b.set_other (by simp) _, ?_⟩, h2⟩
  · rw [← rowOf_congr .i32 h1]; exact a.set_other (by simp) _
  · have := c.set 1 (.slice (some ⟨D + 1, 0, none⟩) s.2.length n)
    simpa using this
theorem ret_slice {D n : Nat} {s S : Bfs.St} (e : s = S) : Ending.returned (.slice (some ⟨D + 1, 0, none⟩) s.2.length n) = .returned (.slice (some ⟨D + 1, 0, none⟩) S.2.length n) := by rw [e]

set_option maxRecDepth 100000 in
set_option maxHeartbeats 1000000 in
theorem walk_any (D n src : Nat) (hops : Int) (g : Value) (nb : Nat → List Nat) (hnb : ∀ v, v < n → ∀ u ∈ nb v, u < n) (hn : n ≤ 1024) (hsrc : src < n) (dist0 qf0 : Nat → Int) (len0 : Nat) (w : World)
    (hW : WK w D n dist0 qf0 len0) (hO : Old n dist0 qf0 len0) (hN : NB D w g n nb) (S : Bfs.St) (hS : Bfs.bfs n hops nb n 0 (Bfs.put (fun _ => -1) src 0, [src]) = S) :
    Calls Yba.prog 8 #[.pointer (some ⟨D + 2, 0, none⟩), g, .int .i32 src, .int .i64 hops] w fun e w' => e = .returned (.slice (some ⟨D + 1, 0, none⟩) S.2.length n) ∧
      (∃ qf, WK w' D n S.1 qf S.2.length ∧ ∀ j, j < S.2.length → qf j = (S.2.getD j 0 : Nat)) ∧ Below D w w' := by
  have HNB : Hid (∀ v, v < n → ∀ u ∈ nb v, u < n) := hnb
  have HN : Hid (NB D w g n nb) := hN
  have HS : Hid (Bfs.bfs n hops nb n 0 (Bfs.put (fun _ => -1) src 0, [src]) = S) := hS
  have HO : Hid (Old n dist0 qf0 len0) := hO
  have HW : Hid (WK w D n dist0 qf0 len0) := hW
  have hl0 : len0 ≤ n := hO.1
  have w0 := hW.2.2.cell 0
  have w1 := hW.2.2.cell 1
  simp at w0 w1
  clear hnb hN hS hO hW
  have hn' : (n : Int) ≤ 1024 := by omega
  have hsrc' : (src : Int) < n := by omega
  go_enter Yba.func8, Yba.ntmps8
  go_wp2
  go_loopw [23] (fun i wr => ∃ k : Nat, k ≤ len0 ∧ i = .int .i64 k ∧ (∃ f, WK wr D n f qf0 len0 ∧ ∀ u, u < n → f u = -1 ∨ ∃ j, k ≤ j ∧ j < len0 ∧ qf0 j = (u : Int)) ∧ Below D w wr) (fun i _ => len0 - (intOf i).toNat)
  case atStart => exact ⟨0, Nat.zero_le _, rfl, ⟨dist0, HW.out, fun u hu => by rcases HO.out.2.2 u hu with h | ⟨j, h1, h2⟩; exact .inl h; exact .inr ⟨j, Nat.zero_le _, h1, h2⟩⟩, Below.refl _ _⟩
  case round =>
    obtain ⟨k, hk, rfl, ⟨f, hWK, hf⟩, hb⟩ := hrel
    clear w0 w1
    have w0 := hWK.2.2.cell 0
    have w1 := hWK.2.2.cell 1
    simp at w0 w1
    have HWK : Hid (WK wr D n f qf0 len0) := hWK
    have HF : Hid (∀ u, u < n → f u = -1 ∨ ∃ j, k ≤ j ∧ j < len0 ∧ qf0 j = (u : Int)) := hf
    by_cases hlt : k < len0
    · obtain ⟨u, hu, hqu⟩ := HO.out.2.1 k hlt
      have q0 := hWK.2.1.int (show k < n by omega)
      rw [hqu] at q0
      have HQU : Hid (qf0 k = (u : Int)) := hqu
      have d0 := hWK.1.int hu
      have fd := hWK.1.frozen u
      have hu' : (u : Int) < n := by omega
      clear hWK hf hqu
      go_wp2
      go_roundw
      case rel =>
        refine ⟨k + 1, by omega, by go_num, ⟨_, HWK.out.putD u (-1), fun v hv => ?_⟩, hb.setCell (by simp) _⟩
        by_cases e : v = u
        · subst e; exact .inl (upd_same _ _ _)
        · rw [upd_other _ _ e]
          rcases HF.out v hv with h | ⟨j, h1, h2, h3⟩
          · exact .inl h
          · refine .inr ⟨j, ?_, h2, h3⟩
            by_cases ej : j = k
            · subst ej; have := HQU.out; rw [this] at h3; exact absurd (by omega) e
            · omega
      case measure => simp [intOf]; omega
    · have hf1 : Hid (∀ u, u < n → f u = -1) := fun u hu => by
        rcases hf u hu with h | ⟨j, h1, h2, h3⟩
        · exact h
        · omega
      have q0 := hWK.2.1.int (show 0 < n by omega)
      have fq := hWK.2.1.frozen 0
      have d0 := hWK.1.int hsrc
      have fd := hWK.1.frozen src
      have hDs : D + 2 < wr.heap.size := hWK.2.2.lt
      have hD1 : D + 1 < wr.heap.size := by omega
      have hD0 : D < wr.heap.size := by omega
      have h1n : 1 ≤ n := by omega
      clear hWK hf HF HO HW
      have hH0 : Hid (Holds (((wr.setCell ⟨D + 1, 0, none⟩ (.int .i32 src)).setCell ⟨D, src, none⟩ (.int .i32 0)).alloc (.cells #[.int .i32 src] 21)).drew D n len0 (Bfs.put (fun _ => -1) src 0, [src])) := by
        refine ⟨_, _, ((HWK.out.putQ 0 src).putD src 0).alloc _, fun u hu => ?_, fun j hj => ?_⟩
        · by_cases e : u = src
          · subst e; rw [upd_same]; simp [Bfs.put]
          · rw [upd_other _ _ e, hf1.out u hu]; simp [Bfs.put, e]
        · simp at hj; subst hj; rw [upd_same]; rfl
      clear HWK hf1
      go_wp2
      go_region
      go_wp2_with fail
      go_loopw [12, 13] (fun qv iv wq => ∃ (i : Nat) (s : Bfs.St), iv = .int .i64 i ∧ qv = .slice (some ⟨D + 1, 0, none⟩) s.2.length n ∧ i ≤ n ∧ Hid (Bfs.Good n s) ∧ Hid (Bfs.bfs n hops nb (n - i) i s = S) ∧ Hid (Holds wq D n len0 s) ∧ Below D w wq ∧ D + 2 < wq.heap.size) (fun _ iv _ => n - (intOf iv).toNat)
      case atStart => exact ⟨0, _, rfl, rfl, Nat.zero_le _, Bfs.good_start n src hsrc, HS.out, hH0, ((hb.setCell (by simp) _).setCell (by simp) _).alloc (by simp; omega) _ |>.drew, by show _ < (World.alloc _ _).heap.size; simp; omega⟩
      case round =>
        obtain ⟨i, s, rfl, rfl, hin, hG, hbfs, hH, hbq, hDq⟩ := hrel
        have hsl := Bfs.good_le hG.out
        clear w0 w1 q0 fq d0 fd hDs hD1 hD0 hH0 HS
        by_cases hc : i < s.2.length ∧ s.2.length < n
        · obtain ⟨hc1, hc2⟩ := hc
          have HC : Hid (i < s.2.length ∧ s.2.length < n) := ⟨hc1, hc2⟩
          have hc1' : (i : Int) < (s.2.length : Int) := by omega
          have hc2' : (s.2.length : Int) < (n : Int) := by omega
          have q0 := hH.out.queue hc1 hsl
          obtain ⟨v, hv⟩ : ∃ v, v = s.2.getD i 0 := ⟨_, rfl⟩
          have hvm : v ∈ s.2 := by rw [hv]; exact Bfs.getD_mem hc1
          have hvn : v < n := hG.out.2.1 v hvm
          rw [← hv] at q0
          obtain ⟨d, hd⟩ : ∃ d, d = s.1 v := ⟨_, rfl⟩
          have hd0 : 0 ≤ d := by rw [hd]; exact hG.out.2.2.1 v hvn hvm
          have hd1 : d < s.2.length := by rw [hd]; exact hG.out.2.2.2.2 v hvm
          have d0 := (hH.out.dist hvn).1
          rw [← hd] at d0
          have HV : Hid (v = s.2.getD i 0) := hv
          have HD : Hid (d = s.1 v) := hd
          clear hv hd hvm
          have hvn' : (v : Int) < n := by omega
          by_cases hh : d = hops
          · have hdb : (d == hops) = true := by simpa using hh
            have hdone : Hid (s = S) := by
              have h1 := hbfs.out
              rw [Bfs.bfs_hop n hops nb _ i s (by rw [← HV.out, ← HD.out]; exact hh)] at h1
              exact h1
            obtain ⟨b0, b1, b2⟩ := hH.out.box
            clear hh
            go_wp2
            go_ret
            exact ⟨ret_slice hdone.out, hH.out.finish hdone.out, hbq.setCell (by simp) _⟩
          · have hdb : (d == hops) = false := by simpa using hh
            have HH : Hid (d ≠ hops) := hh
            clear hh
            obtain ⟨hnl, a, c, hcall, hcells⟩ := HN.out v hvn wr hbq
            have HCALL : Hid (Calls Yba.prog 19 #[g, .int .i32 v] wr fun e w' => e = .returned (.slice a (nb v).length c) ∧ ∃ k, w' = wr.drewN k) := hcall
            have HCELLS : Hid (∀ i, i < (nb v).length → ∃ b o, a = some ⟨b, o, none⟩ ∧ b < D ∧ w.cell? ⟨b, o + i, none⟩ = some (.int .i32 ((nb v).getD i 0 : Nat))) := fun i hi => by
              obtain ⟨b, o, e, hbD, h⟩ := hcells i hi
              exact ⟨b, o, e, hbD, (hbq.cell (p := ⟨b, o + i, none⟩) hbD).symm.trans h⟩
            clear hcall hcells
            go_wp2_with fail
            refine HCALL.out.mono ?_
            rintro e w2 ⟨rfl, k2, rfl⟩
            clear HCALL
            have hnbl : Hid (∀ u ∈ nb v, u < n) := HNB.out v hvn
            go_wp2_with fail
            go_loopw [12, 78] (fun qv jv wq => ∃ (p : Nat) (s' : Bfs.St), p ≤ (nb v).length ∧ jv = .int .i64 p ∧ qv = .slice (some ⟨D + 1, 0, none⟩) s'.2.length n ∧ Hid (s' = Bfs.scan d ((nb v).take p) s) ∧ s.2.length ≤ s'.2.length ∧ Hid (Bfs.Good n s') ∧ Hid (Holds wq D n len0 s') ∧ Below D w wq ∧ D + 2 < wq.heap.size) (fun _ jv _ => (nb v).length - (intOf jv).toNat)
            case atStart => exact ⟨0, s, Nat.zero_le _, rfl, rfl, rfl, Nat.le_refl _, hG, hH.out.drewN k2, below_drewN hbq k2, hDq⟩
            case round =>
              obtain ⟨p, s', hp, rfl, rfl, hs', hle, hG', hH', hbq', hDq'⟩ := hrel
              have hsl' := Bfs.good_le hG'.out
              by_cases hlt : p < (nb v).length
              · obtain ⟨b, o, ha, hbD, hcell⟩ := HCELLS.out p hlt
                subst ha
                have cu := (hbq'.cell (p := ⟨b, o + p, none⟩) hbD).trans hcell
                clear hcell
                obtain ⟨u, hu⟩ : ∃ u, u = (nb v).getD p 0 := ⟨_, rfl⟩
                rw [← hu] at cu
                have hun : u < n := by rw [hu]; exact hnbl.out _ (Bfs.getD_mem hlt)
                have HU : Hid (u = (nb v).getD p 0) := hu
                clear hu
                have hun' : (u : Int) < n := by omega
                have hlt' : (p : Int) < ((nb v).length : Int) := by omega
                obtain ⟨du, fu⟩ := hH'.out.dist hun
                obtain ⟨x, hx⟩ : ∃ x, x = s'.1 u := ⟨_, rfl⟩
                rw [← hx] at du
                have HX : Hid (x = s'.1 u) := hx
                clear hx
                have hnext : Hid (Bfs.visit d s' u = Bfs.scan d ((nb v).take (p + 1)) s) := by
                  have h1 := hs'.out
                  have h2 := HU.out
                  show Bfs.visit d s' u = Bfs.scan d ((nb v).take (p + 1)) s
                  rw [Bfs.take_succ_getD hlt, Bfs.scan_snoc, ← h1, ← h2]
                have hgv := Bfs.good_visit hG'.out (d := d) hd0 (by omega) hun
                have HGV : Hid (Bfs.Good n (Bfs.visit d s' u) ∧ s'.2.length ≤ (Bfs.visit d s' u).2.length) := hgv
                clear hgv
                by_cases hneg : x < 0
                · have hroom : s'.2.length < n := Bfs.good_room hG'.out hun ((Bfs.good_neg hG'.out hun).1 (by rw [← HX.out]; exact hneg))
                  have hroom1 : s'.2.length + 1 ≤ n := hroom
                  obtain ⟨⟨y, cy⟩, fy⟩ := hH'.out.room hroom
                  have hD1 : D + 1 < wr.heap.size := by omega
                  have hD0 : D < wr.heap.size := by omega
                  go_wp2
                  go_roundw
                  case rel =>
                    have hv := hH'.out.visit (d := d) hun (by rw [← HX.out]; exact hneg) (.cells #[.int .i32 u] 21)
                    have e1 : (Bfs.visit d s' u).2.length = s'.2.length + 1 := by rw [Bfs.visit_neg (by rw [← HX.out]; exact hneg)]; simp
                    exact ⟨p + 1, Bfs.visit d s' u, by omega, by go_num, by rw [e1], hnext.out, by omega, HGV.out.1, hv, ((hbq'.setCell (by simp) _).setCell (by simp) _).alloc (by simp; omega) _, by simp; omega⟩
                  case measure => simp [intOf]; omega
                · go_wp2
                  go_roundw
                  case rel =>
                    have e1 : Bfs.visit d s' u = s' := Bfs.visit_pos (by rw [← HX.out]; exact hneg)
                    have h1 := hnext.out
                    rw [e1] at h1
                    exact ⟨p + 1, s', by omega, by go_num, rfl, h1, hle, hG', hH', hbq', hDq'⟩
                  case measure => simp [intOf]; omega
              · go_wp2
                go_roundw
                case rel =>
                  have h1 := hbfs.out
                  rw [Bfs.bfs_step n hops nb i s (by omega) HC.out (by rw [← HV.out, ← HD.out]; exact HH.out), ← HV.out, ← HD.out] at h1
                  have h2 := hs'.out
                  rw [List.take_of_length_le (by omega)] at h2
                  rw [← h2] at h1
                  exact ⟨i + 1, s', by go_num, rfl, by omega, hG', h1, hH', hbq', hDq'⟩
                case measure => simp [intOf]; omega
        · have hdone : Hid (s = S) := by
            have h1 := hbfs.out
            rw [Bfs.bfs_stop n hops nb _ i s hc] at h1
            exact h1
          obtain ⟨b0, b1, b2⟩ := hH.out.box
          by_cases hc1 : i < s.2.length
          · have hc2 : ¬ s.2.length < n := fun h => hc ⟨hc1, h⟩
            have hc1' : (i : Int) < (s.2.length : Int) := by omega
            have hc2' : ¬ (s.2.length : Int) < (n : Int) := by omega
            clear hc
            go_wp2
            go_ret
            exact ⟨ret_slice hdone.out, hH.out.finish hdone.out, hbq.setCell (by simp) _⟩
          · have hc1' : ¬ (i : Int) < (s.2.length : Int) := by omega
            clear hc
            go_wp2
            go_ret
            exact ⟨ret_slice hdone.out, hH.out.finish hdone.out, hbq.setCell (by simp) _⟩

end Go.Proofs.Ybulkbfdo
