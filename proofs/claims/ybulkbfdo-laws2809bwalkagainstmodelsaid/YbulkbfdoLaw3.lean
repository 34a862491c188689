import Derived.Test.YbulkbfdoRelax
import Derived.Test.YbulkbfdoCheck
import Derived.Test.YbulkbfdoAdj
namespace Go.Proofs.Ybulkbfdo
open Go.RowKit
set_option linter.unusedSimpArgs false

/-- The edges that came in. -/
def Edges (w : World) (a : Option Addr) (n : Nat) : Prop := ∀ j, j < n → ∃ b o U V, a = some ⟨b, o, none⟩ ∧ b < w.heap.size ∧ w.cell? ⟨b, o + j * 2, none⟩ = some (.int .u16 (U : Nat)) ∧ w.cell? ⟨b, o + j * 2 + 1, none⟩ = some (.int .u16 (V : Nat)) ∧ U < 65536 ∧ V < 65536

/-- The row that append makes. -/
def AdjI (wx : World) (St : Nat) (av : Value) (xs : List Nat) : Prop :=
  wx.ownsRow (St + 1) 21 1 av xs.length (xs.map fun x => .int .i32 (x : Nat)) ∧ ∃ g c, av = .slice (some ⟨g, 0, none⟩) xs.length c ∧ St + 1 ≤ g
theorem AdjI.start (wx : World) (St : Nat) (h : wx.heap.size = St + 1) : AdjI (wx.alloc (.cells (rowOf .i32 (fun _ => 0) 0) 21)) St (.slice (some ⟨St + 1, 0, none⟩) 0 0) [] := by
  have hB := Blk.new wx 21 (rowOf .i32 (fun _ => 0) 0)
  rw [h] at hB
  exact ⟨⟨by simp, .inr ⟨St + 1, 0, rowOf .i32 (fun _ => 0) 0, rfl, Nat.le_refl _, hB, by simp, by simp, by simp [rowOf], by simp⟩⟩, ⟨St + 1, 0, rfl, Nat.le_refl _⟩⟩
theorem AdjI.set {wx : World} {St : Nat} {av : Value} {xs : List Nat} (h : AdjI wx St av xs) (o : Nat) (v : Value) : AdjI (wx.setCell ⟨St, o, none⟩ v) St av xs := by
  refine ⟨⟨h.1.1, ?_⟩, h.2⟩
  rcases h.1.2 with h5 | ⟨g, cap, cur, e, hb, hh, r⟩
  · exact .inl h5
  · exact .inr ⟨g, cap, cur, e, hb, (heap_setCell_other wx ⟨St, o, none⟩ g v (by simp; omega)).trans hh, r⟩
theorem AdjI.sg {wx : World} {St n c g : Nat} {nb : Nat → List Nat} {sf : Nat → Int} (h : AdjI wx St (.slice (some ⟨g, 0, none⟩) (catN nb n).length c) (catN nb n)) (hB : Blk wx St 3 (rowOf .i64 sf (n + 1))) :
    SG (wx.alloc (.cells #[.slice (some ⟨St, 0, none⟩) (n + 1) (n + 1), .slice (some ⟨g, 0, none⟩) (catN nb n).length c, .nilFunc] 33)) wx.heap.size St g n (catN nb n).length c sf (fun j => ((catN nb n).getD j 0 : Nat)) ∧ c ≤ 9223372036854775807 ∧ g < wx.heap.size := by
  rcases h.1.2 with ⟨h5, _⟩ | ⟨g', cap, cur, e, hb, hh, r1, r2, r3, r4⟩
  · cases h5
  · simp only [Value.slice.injEq, Option.some.injEq, Addr.mk.injEq] at e
    obtain ⟨⟨rfl, -, -⟩, -, rfl⟩ := e
    have hK : Blk wx g 21 cur := hh
    refine ⟨⟨Blk.new _ _ _, hB.alloc _, ⟨(hK.alloc _).lt, fun j hj => ?_⟩, r1⟩, by simpa [maxLen] using r2, hK.lt⟩
    rw [(hK.alloc _).cell j]
    have h6 : (cur.toList.take ((catN nb n).length * 1))[j]? = some (.int .i32 ((catN nb n)[j] : Nat)) := by rw [r4]; simp [hj]
    rw [List.getElem?_take_of_lt (by omega)] at h6
    rw [← Array.getElem?_toList, h6]
    simp [List.getD, hj]
theorem NB.mono {D : Nat} {w w' : World} {g : Value} {n : Nat} {nb : Nat → List Nat} (h : NB D w g n nb) (hb : Below D w w') : NB D w' g n nb := fun v hv W hW => h v hv W (hb.trans hW)
theorem Mat.below {w w' : World} {B G n : Nat} {mf : Nat → Bool} (h : Mat w G n mf) (hb : Below B w w') (hG : G < B) : Mat w' G n mf := ⟨Nat.lt_of_lt_of_le h.1 hb.size, fun j hj => (hb.cell (p := ⟨G, j, none⟩) hG).trans (h.2 j hj)⟩
theorem old_of {n : Nat} {S : Bfs.St} {qf : Nat → Int} (hg : Bfs.Good n S) (hq : ∀ j, j < S.2.length → qf j = (S.2.getD j 0 : Nat)) : Old n S.1 qf S.2.length := by
  refine ⟨Bfs.good_le hg, fun j hj => ⟨S.2.getD j 0, hg.2.1 _ (Bfs.getD_mem hj), hq j hj⟩, fun u hu => ?_⟩
  by_cases hm : u ∈ S.2
  · obtain ⟨a, ha, e⟩ := Bfs.mem_getD hm
    exact .inr ⟨a, ha, by rw [hq a ha, e]⟩
  · exact .inl (hg.2.2.2.1 u hu hm)
theorem cell_mul_lt {n x y : Nat} (hx : x < n) (hy : y < n) : x * n + y < n * n := by
  have h1 : x * n + n ≤ n * n := by
    have := Nat.mul_le_mul_right n (show x + 1 ≤ n by omega)
    rwa [Nat.add_mul, Nat.one_mul] at this
  omega

set_option maxRecDepth 100000 in
set_option maxHeartbeats 1000000 in
theorem law3_core (n len cap : Nat) (a1 : Option Addr) (s1 s2 : Nat) (h1 h2 : Int) (hn0 : 0 < n) (hn : n ≤ 256) (hl : len ≤ 1024) (hs1 : s1 < 4294967296) (hs2 : s2 < 4294967296) (w : World) (hE : Edges w a1 len) :
    Calls Yba.prog 3 #[.int .u16 n, .slice a1 len cap, .int .u32 s1, .int .i64 h1, .int .u32 s2, .int .i64 h2] w fun e w' => e = .returned (.bool true) ∧ Below w.heap.size w w' := by
  have HE : Hid (Edges w a1 len) := hE
  have hnn : n * n ≤ 65536 := Nat.mul_le_mul hn hn
  have mb := mk_bool (n * n) (by omega)
  have mi := mk_int (n + 1) (n + 1) (Nat.le_refl _) (by omega)
  have mj : ∀ w : World, (Instr.makeSlice 29 (.int .i64 0) (.int .i64 0)).run Yba.prog w = .ok (.slice (some ⟨w.heap.size, 0, none⟩) 0 0) (w.alloc (.cells (rowOf .i32 (fun _ => 0) 0) 21)) := mk_i32 0 0 (Nat.le_refl _) (by omega)
  rw [Int.natCast_mul] at mb
  rw [Int.natCast_add] at mi
  simp only [Int.natCast_one] at mi
  have nn0 : 0 ≤ (n : Int) * n := Int.mul_nonneg (by omega) (by omega)
  have nn1 : (n : Int) * n ≤ 65536 := by rw [← Int.natCast_mul]; omega
  have hn0' : ((n : Int) == 0) = false := by simp; omega
  have hn' : ¬ 256 < (n : Int) := by omega
  have hl' : ¬ 1024 < (len : Int) := by omega
  have dn : decide (256 < (n : Int)) = false := by simpa using hn'
  have dl : decide (1024 < (len : Int)) = false := by simpa using hl'
  clear hE
  obtain ⟨i0, hi, hz0, hz1, hz2⟩ := info_parts Yba.info21
  go_enter Yba.func3, Yba.ntmps3
  go_wp2_with fail
  go_loopw [48] (fun iv wx => ∃ j : Nat, j ≤ len ∧ iv = .int .i64 j ∧ (∃ mf, Hid (Blk wx w.heap.size 4 (bRow mf (n * n)))) ∧ Below w.heap.size w wx) (fun i _ => len - (intOf i).toNat)
  case atStart => exact ⟨0, Nat.zero_le _, rfl, ⟨_, Blk.new _ _ _⟩, bel1 _ _⟩
  case round =>
    obtain ⟨j, hj, rfl, ⟨mf, hB⟩, hb⟩ := hrel
    by_cases hlt : j < len
    · obtain ⟨b, o, U, V, ha, hbw, hU, hV, bU, bV⟩ := HE.out j hlt
      subst ha
      have cU := (hb.cell (p := ⟨b, o + j * 2, none⟩) hbw).trans hU
      have cV := (hb.cell (p := ⟨b, o + j * 2 + 1, none⟩) hbw).trans hV
      have hlt' : (j : Int) < len := by omega
      have hx : U % n < n := Nat.mod_lt _ hn0
      have hy : V % n < n := Nat.mod_lt _ hn0
      have tx : Int.tmod (U : Int) n = ((U % n : Nat) : Int) := by rw [Int.tmod_eq_emod_of_nonneg (by omega)]; omega
      have ty : Int.tmod (V : Int) n = ((V % n : Nat) : Int) := by rw [Int.tmod_eq_emod_of_nonneg (by omega)]; omega
      have zw : w.heap.size < wr.heap.size := hB.out.lt
      clear hU hV
      generalize U % n = x at *
      generalize V % n = y at *
      have bU' : (U : Int) < 65536 := by omega
      have bV' : (V : Int) < 65536 := by omega
      by_cases hxy : x = y
      · subst hxy
        go_wp2_with fail
        go_roundw
        case rel => exact ⟨j + 1, by omega, by go_num, ⟨_, hB.out.alloc _⟩, hb.alloc hb.size _⟩
        case measure => simp [intOf]; omega
      have hxy' : ((x : Int) != y) = true := by simp; omega
      have HXY : Hid (¬ x = y) := hxy
      clear hxy
      go_upto_region 11 with fail
      have hxy := HXY.out
      have ixy := cell_mul_lt hx hy
      have iyx := cell_mul_lt hy hx
      have c1 := hB.out.bool ixy
      have c2 := hB.out.bool iyx
      have f1 := hB.out.frozen (x * n + y)
      have f2 := hB.out.frozen (y * n + x)
      have T1 : ((x : Int) * n + y).toNat = x * n + y := by rw [← Int.natCast_mul]; omega
      have T2 : ((y : Int) * n + x).toNat = y * n + x := by rw [← Int.natCast_mul]; omega
      have L1 : (x : Int) * n + y < n * n := by rw [← Int.natCast_mul, ← Int.natCast_mul]; omega
      have L2 : (y : Int) * n + x < n * n := by rw [← Int.natCast_mul, ← Int.natCast_mul]; omega
      have Z1 : 0 ≤ (x : Int) * n := Int.mul_nonneg (by omega) (by omega)
      have Z2 : 0 ≤ (y : Int) * n := Int.mul_nonneg (by omega) (by omega)
      have hne : x * n + y ≠ y * n + x := fun e => by
        have e2 := congrArg (· % n) e
        simp only [Nat.mul_add_mod_of_lt hy, Nat.mul_add_mod_of_lt hx, Nat.mul_add_mod_self_right, Nat.mod_eq_of_lt hx, Nat.mod_eq_of_lt hy] at e2
        exact hxy e2.symm
      have hne2 : y * n + x ≠ x * n + y := fun e => hne e.symm
      have U1 : (x : Int) * n ≤ 65536 := by omega
      have U2 : (y : Int) * n ≤ 65536 := by omega
      clear ixy iyx hnn
      go_wp2_with fail
      go_roundw
      case rel =>
        have hb2 := (hb.setCell (p := ⟨w.heap.size, x * n + y, none⟩) (Nat.le_refl _) (.bool true)).setCell (p := ⟨w.heap.size, y * n + x, none⟩) (Nat.le_refl _) (.bool true)
        exact ⟨j + 1, by omega, by go_num, ⟨_, ((hB.out.putB (x * n + y) true).putB (y * n + x) true).alloc _⟩, hb2.alloc hb2.size _⟩
      case measure => simp [intOf]; omega
    · have HM : Hid (Mat wr w.heap.size n mf) := ⟨hB.out.lt, fun i hi => hB.out.bool hi⟩
      have hnbl : Hid (∀ v, (Bfs.nbM n mf v).length ≤ n) := nbM_len n mf
      obtain ⟨wM, hwM⟩ : ∃ wM, wM = wr := ⟨_, rfl⟩
      subst hwM
      go_wp2_with fail
      go_loopw [20, 21] (fun av iv wx => ∃ v : Nat, v ≤ n ∧ iv = .int .i64 v ∧ Hid (AdjI wx wM.heap.size av (catN (Bfs.nbM n mf) v)) ∧ (∃ sf, Hid (Blk wx wM.heap.size 3 (rowOf .i64 sf (n + 1))) ∧ Hid (∀ i, i ≤ v → sf i = ((catN (Bfs.nbM n mf) i).length : Nat))) ∧ Below wM.heap.size wM wx) (fun _ i _ => n - (intOf i).toNat)
      case atStart =>
        refine ⟨0, Nat.zero_le _, rfl, AdjI.start (wM.alloc (.cells (rowOf .i64 (fun _ => 0) (n + 1)) 3)) wM.heap.size (World.size_alloc _ _), ⟨_, (Blk.new _ _ _).alloc _, fun i hi => ?_⟩, (bel1 _ _).alloc (bel1 wM _).size _⟩
        rw [show i = 0 by omega]; rfl
      case round =>
        obtain ⟨v, hv, rfl, hA, ⟨sf, hB2, hsf⟩, hb2⟩ := hrel
        by_cases hlv : v < n
        · have hlv' : (v : Int) < n := by omega
          go_wp2_with fail
          go_loopw [20, 22] (fun av iv wx => ∃ u : Nat, u ≤ n ∧ iv = .int .i64 u ∧ Hid (AdjI wx wM.heap.size av (catN (Bfs.nbM n mf) v ++ nbU n mf v u)) ∧ Hid (Blk wx wM.heap.size 3 (rowOf .i64 sf (n + 1))) ∧ Below wM.heap.size wM wx) (fun _ i _ => n - (intOf i).toNat)
          case atStart =>
            refine ⟨0, Nat.zero_le _, rfl, ?_, hB2, hb2⟩
            rw [nbU_zero, List.append_nil]; exact hA
          case round =>
            clear hA hB2 hb2
            obtain ⟨u, hu, rfl, hA, hB2, hb2⟩ := hrel
            by_cases hlu : u < n
            · have hlu' : (u : Int) < n := by omega
              have hj := cell_mul_lt hlv hlu
              have cm := (hb2.cell (p := ⟨w.heap.size, v * n + u, none⟩) HM.out.1).trans (HM.out.2 _ hj)
              have hT : ((v : Int) * n + u).toNat = v * n + u := by rw [← Int.natCast_mul]; omega
              have hjj : (v : Int) * n + u < n * n := by rw [← Int.natCast_mul, ← Int.natCast_mul]; omega
              have hb0 : 0 ≤ (v : Int) * n := Int.mul_nonneg (by omega) (by omega)
              have hb1 : (v : Int) * n ≤ 65536 := by omega
              clear hj
              cases hm : mf (v * n + u)
              · rw [hm] at cm
                go_wp2_with fail
                go_roundw
                case rel => exact ⟨u + 1, by omega, by go_num, by rw [nbU_no hlu hm]; exact hA, hB2, hb2⟩
                case measure => simp [intOf]; omega
              · rw [hm] at cm
                have hlx : Hid ((catN (Bfs.nbM n mf) v ++ nbU n mf v u).length ≤ 70000) := by
                  have e1 := catN_le (Bfs.nbM n mf) n hnbl.out v
                  have e2 := nbU_len n mf v u
                  have e3 : v * n ≤ 256 * 256 := Nat.mul_le_mul (by omega) hn
                  show (catN (Bfs.nbM n mf) v ++ nbU n mf v u).length ≤ 70000
                  rw [List.length_append]; omega
                obtain ⟨hO, g, c, rfl, hg⟩ := hA.out
                obtain ⟨ys, hys⟩ : ∃ ys, ys = catN (Bfs.nbM n mf) v ++ nbU n mf v u := ⟨_, rfl⟩
                rw [← hys] at hO hlx ⊢
                have HYS : Hid (ys = catN (Bfs.nbM n mf) v ++ nbU n mf v u) := hys
                have HO : Hid (wr.ownsRow (wM.heap.size + 1) 21 1 (.slice (some ⟨g, 0, none⟩) ys.length c) ys.length (ys.map fun x => .int .i32 (x : Nat))) := hO
                clear hA hO hys
                go_wp2_with (at_builtin; refine wpList_append_own _ rfl _ _ 29 rfl (wM.heap.size + 1) 21 i0 (.int .i32 0) 1 4 Yba.underlying29 hi hz0 hz1 hz2 rfl (by decide) _ ys.length (ys.map fun x => .int .i32 (x : Nat)) rfl ?c0 ⟨wr.heap.size, 0, none⟩ 1 1 [.int .i32 (u : Nat)] rfl ?c1 ?c2 ?c3 ?c4 ?c5 ?c6 ?c7)
                case c0 => exact HO.out.alloc _
                case c1 => rfl
                case c2 =>
                  intro j x hj
                  cases j with
                  | zero =>
                    simp at hj
                    subst hj
                    simp [Addr.add]
                  | succ j => simp at hj
                case c3 =>
                  intro x hx
                  simp at hx
                  subst hx
                  rfl
                case c4 => have := hlx.out; unfold maxLen; omega
                case c5 => have := hlx.out; omega
                case c6 => have := hb2.size; simp; omega
                case c7 =>
                  intro v' w1 hown hgrow hnil
                  have zS := hB2.out.lt
                  have hb3 : Below wM.heap.size wM w1 := (hb2.alloc hb2.size _).grown hgrow (by have := hb2.size; simp; omega) (fun k hk => by simp [Value.ownBlock] at hk; omega)
                  have hB3 : Blk w1 wM.heap.size 3 (rowOf .i64 sf (n + 1)) := (hgrow.block _ (by simp; omega) (by simp [Value.ownBlock]; omega)).trans (hB2.out.alloc _)
                  have hsh : ∃ g' c', v' = .slice (some ⟨g', 0, none⟩) (ys.length + 1) c' ∧ wM.heap.size + 1 ≤ g' := by
                    rcases hown.2 with ⟨h5, _⟩ | ⟨g', c', cur, h5, h6, _⟩
                    · exact absurd h5 hnil
                    · exact ⟨g', c', h5, h6⟩
                  obtain ⟨g', c', rfl, hg'⟩ := hsh
                  have HO3 : Hid (w1.ownsRow (wM.heap.size + 1) 21 1 (.slice (some ⟨g', 0, none⟩) (ys.length + 1) c') (ys.length + 1) ((ys.map fun x => .int .i32 (x : Nat)) ++ [.int .i32 (u : Nat)])) := hown
                  have HB3 : Hid (Blk w1 wM.heap.size 3 (rowOf .i64 sf (n + 1))) := hB3
                  clear hown hgrow hnil hB3 HO cm
                  go_wp2_with fail
                  go_roundw
                  case rel =>
                    refine ⟨u + 1, by omega, by go_num, ?_, HB3, hb3⟩
                    rw [nbU_yes hlu hm, ← List.append_assoc, ← HYS.out]
                    exact ⟨by simpa using HO3.out, g', c', by simp, hg'⟩
                  case measure => simp [intOf]; omega
            · obtain rfl : n = u := by omega
              rw [nbU_full] at hA
              have hA2 : AdjI wr wM.heap.size u20 (catN (Bfs.nbM n mf) (v + 1)) := hA.out
              obtain ⟨hO, g, c, rfl, hg⟩ := hA2
              have cS := hB2.out.int (show v + 1 < n + 1 by omega)
              have fS := hB2.out.frozen (v + 1)
              have HA2 : Hid (AdjI wr wM.heap.size (.slice (some ⟨g, 0, none⟩) (catN (Bfs.nbM n mf) (v + 1)).length c) (catN (Bfs.nbM n mf) (v + 1))) := ⟨hO, g, c, rfl, hg⟩
              clear hA hO
              generalize hL : (catN (Bfs.nbM n mf) (v + 1)).length = Lc at *
              go_wp2_with fail
              go_roundw
              case rel =>
                refine ⟨v + 1, by omega, by go_num, HA2.out.set _ _, ⟨_, hB2.out.put (v + 1) _, fun i hi => ?_⟩, hb2.setCell (Nat.le_refl _) _⟩
                by_cases e : i = v + 1
                · subst e; rw [upd_same, hL]
                · rw [upd_other _ _ e]; exact hsf.out i (by omega)
              case measure => simp [intOf]; omega
        · obtain rfl : n = v := by omega
          obtain ⟨hO, g, c, rfl, hg⟩ := hA.out
          obtain ⟨hSG, hcc, hgz⟩ := AdjI.sg hA.out hB2.out
          have HSG : Hid (SG (wr.alloc (.cells #[.slice (some ⟨wM.heap.size, 0, none⟩) (n + 1) (n + 1), .slice (some ⟨g, 0, none⟩) (catN (Bfs.nbM n mf) n).length c, .nilFunc] 33)) wr.heap.size wM.heap.size g n (catN (Bfs.nbM n mf) n).length c sf (fun j => ((catN (Bfs.nbM n mf) n).getD j 0 : Nat))) := hSG
          clear hSG hO
          go_wp2_with fail
          refine (newWalker_any n (by omega) _).mono ?_
          rintro e w5 ⟨rfl, hWK, hb5⟩
          have hWK' : WK w5 (wr.heap.size + 1) n (fun _ => -1) (fun _ => 0) 0 := by simpa using hWK
          have HWK : Hid (WK w5 (wr.heap.size + 1) n (fun _ => -1) (fun _ => 0) 0) := hWK'
          clear hWK hWK'
          have zr := hb2.size
          have zM := HM.out.1
          have hNB0 := nb_sg wr.heap.size wM.heap.size g (wr.heap.size + 1) n c sf _ (Bfs.nbM n mf) (by omega) hcc (fun v => by have := hnbl.out v; omega) hsf.out (fun j _ => rfl) _ HSG.out (by omega) (by omega) (by omega)
          have hb5' : Below (wr.heap.size + 1) (wr.alloc (.cells #[.slice (some ⟨wM.heap.size, 0, none⟩) (n + 1) (n + 1), .slice (some ⟨g, 0, none⟩) (catN (Bfs.nbM n mf) n).length c, .nilFunc] 33)) w5 := by simpa using hb5
          have HNB : Hid (NB (wr.heap.size + 1) w5 (.pointer (some ⟨wr.heap.size, 0, none⟩)) n (Bfs.nbM n mf)) := hNB0.mono hb5'
          have HB5 : Hid (Below wM.heap.size wM w5) := (hb2.alloc hb2.size _).trans (hb5'.mono (by omega))
          clear hNB0 hb5 hb5' HSG
          have e1 : ((s1 : Int) % (n : Int)) = ((s1 % n : Nat) : Int) := by omega
          have e2 : ((s2 : Int) % (n : Int)) = ((s2 % n : Nat) : Int) := by omega
          have q1 : s1 % n < n := Nat.mod_lt _ hn0
          have q2 : s2 % n < n := Nat.mod_lt _ hn0
          generalize s1 % n = t1 at *
          generalize s2 % n = t2 at *
          have q1' : (t1 : Int) < n := by omega
          have q2' : (t2 : Int) < n := by omega
          go_wp2_with fail
          refine (walk_any (wr.heap.size + 1) n t1 h1 _ (Bfs.nbM n mf) (Bfs.nbM_lt n mf) (by omega) q1 _ _ 0 w5 HWK.out ⟨Nat.zero_le _, fun j hj => by omega, fun u _ => .inl rfl⟩ HNB.out _ rfl).mono ?_
          have hSp := Bfs.walk_spec (hops := h1) (Bfs.nbM_lt n mf) q1
          generalize Bfs.bfs n h1 (Bfs.nbM n mf) n 0 (Bfs.put (fun _ => -1) t1 0, [t1]) = S1 at *
          have HSp : Hid (Bfs.Spec n h1 (Bfs.nbM n mf) t1 S1) := hSp
          clear hSp
          rintro e w6 ⟨rfl, ⟨qf1, hK6, hq6⟩, hb6⟩
          have HK6 : Hid (WK w6 (wr.heap.size + 1) n S1.1 qf1 S1.2.length) := hK6
          have HQ6 : Hid (∀ j, j < S1.2.length → qf1 j = (S1.2.getD j 0 : Nat)) := hq6
          have HB6 : Hid (Below wM.heap.size wM w6) := HB5.out.trans (hb6.mono (by omega))
          have HNB6 := HNB.out.mono hb6
          clear hK6 hq6 HWK HNB HB5
          go_wp2_with fail
          have z6 : wr.heap.size + 4 ≤ w6.heap.size := HK6.out.2.2.lt
          refine (dist_any w.heap.size n t1 (n * n) mf hn q1 w6 (HM.out.below HB6.out zM)).mono ?_
          rintro e w7 ⟨rfl, ⟨md1, hE7, hM7⟩, hb7⟩
          have HE7 : Hid (Blk w7 w6.heap.size 3 (rowOf .i64 md1 n)) := hE7
          have HM7 : Hid (Bfs.Mod n (Bfs.nbM n mf) t1 md1) := hM7
          have HK7 : Hid (WK w7 (wr.heap.size + 1) n S1.1 qf1 S1.2.length) := HK6.out.below hb7 (by omega)
          have HB7 : Hid (Below wM.heap.size wM w7) := HB6.out.trans (hb7.mono (by omega))
          have HNB7 := HNB6.mono (hb7.mono (by omega))
          clear hE7 hM7
          go_wp2_with fail
          refine (check_any (wr.heap.size + 1) w6.heap.size n t1 h1 (Bfs.nbM n mf) md1 qf1 S1 (by omega) w7 HK7.out HQ6.out HE7.out HSp.out HM7.out).mono ?_
          rintro e w8 ⟨rfl, hb8⟩
          have z7 : wr.heap.size + 4 ≤ w7.heap.size := HK7.out.2.2.lt
          have HK8 : Hid (WK w8 (wr.heap.size + 1) n S1.1 qf1 S1.2.length) := HK7.out.below hb8 (by omega)
          have HB8 : Hid (Below wM.heap.size wM w8) := HB7.out.trans (hb8.mono (by omega))
          have HNB8 : Hid (NB (wr.heap.size + 1) w8 (.pointer (some ⟨wr.heap.size, 0, none⟩)) n (Bfs.nbM n mf)) := HNB7.mono (hb8.mono (by omega))
          have HO8 : Hid (Old n S1.1 qf1 S1.2.length) := old_of HSp.out.good HQ6.out
          clear HK6 HK7 HB6 HB7 HNB6 HNB7 HE7 HM7 HSp HQ6 hb6 hb7 hb8
          go_wp2_with fail
          refine (walk_any (wr.heap.size + 1) n t2 h2 _ (Bfs.nbM n mf) (Bfs.nbM_lt n mf) (by omega) q2 _ _ _ w8 HK8.out HO8.out HNB8.out _ rfl).mono ?_
          have hSp2 := Bfs.walk_spec (hops := h2) (Bfs.nbM_lt n mf) q2
          generalize Bfs.bfs n h2 (Bfs.nbM n mf) n 0 (Bfs.put (fun _ => -1) t2 0, [t2]) = S2 at *
          have HSp2 : Hid (Bfs.Spec n h2 (Bfs.nbM n mf) t2 S2) := hSp2
          clear hSp2
          rintro e w9 ⟨rfl, ⟨qf2, hK9, hq9⟩, hb9⟩
          have HK9 : Hid (WK w9 (wr.heap.size + 1) n S2.1 qf2 S2.2.length) := hK9
          have HQ9 : Hid (∀ j, j < S2.2.length → qf2 j = (S2.2.getD j 0 : Nat)) := hq9
          have HB9 : Hid (Below wM.heap.size wM w9) := HB8.out.trans (hb9.mono (by omega))
          clear hK9 hq9 HK8 HB8 HNB8 HO8
          go_wp2_with fail
          have z9 : wr.heap.size + 4 ≤ w9.heap.size := HK9.out.2.2.lt
          refine (dist_any w.heap.size n t2 (n * n) mf hn q2 w9 (HM.out.below HB9.out zM)).mono ?_
          rintro e w10 ⟨rfl, ⟨md2, hE10, hM10⟩, hb10⟩
          have HE10 : Hid (Blk w10 w9.heap.size 3 (rowOf .i64 md2 n)) := hE10
          have HM10 : Hid (Bfs.Mod n (Bfs.nbM n mf) t2 md2) := hM10
          have HK10 : Hid (WK w10 (wr.heap.size + 1) n S2.1 qf2 S2.2.length) := HK9.out.below hb10 (by omega)
          have HB10 : Hid (Below wM.heap.size wM w10) := HB9.out.trans (hb10.mono (by omega))
          clear hE10 hM10
          go_wp2_with fail
          refine (check_any (wr.heap.size + 1) w9.heap.size n t2 h2 (Bfs.nbM n mf) md2 qf2 S2 (by omega) w10 HK10.out HQ9.out HE10.out HSp2.out HM10.out).mono ?_
          rintro e w11 ⟨rfl, hb11⟩
          have z10 : wr.heap.size + 4 ≤ w10.heap.size := HK10.out.2.2.lt
          have HB11 : Hid (Below wM.heap.size wM w11) := HB10.out.trans (hb11.mono (by omega))
          go_wp2_with fail
          go_ret
          exact ⟨rfl, hb.trans (HB11.out.mono (by omega))⟩

end Go.Proofs.Ybulkbfdo
