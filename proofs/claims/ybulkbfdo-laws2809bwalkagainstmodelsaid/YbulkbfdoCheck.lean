import Derived.Test.YbulkbfdoTools
import Derived.Test.YbulkbfdoWalk
import Derived.Test.YbulkbfdoRx
namespace Go.Proofs.Ybulkbfdo
open Go.RowKit
set_option linter.unusedSimpArgs false

/-! ### A row of bools -/
def bRow (f : Nat → Bool) (n : Nat) : Array Value := Array.ofFn (n := n) fun i => .bool (f i)
theorem bRow_at (f : Nat → Bool) {n j : Nat} (h : j < n) : (bRow f n)[j]? = some (.bool (f j)) := by
  simp [bRow, h]
def updB (f : Nat → Bool) (j : Nat) (x : Bool) : Nat → Bool := fun i => if i = j then x else f i
theorem updB_same (f : Nat → Bool) (j : Nat) (x : Bool) : updB f j x j = x := by simp [updB]
theorem updB_other (f : Nat → Bool) {j i : Nat} (x : Bool) (h : i ≠ j) : updB f j x i = f i := by simp [updB, h]
theorem bRow_set (f : Nat → Bool) (n j : Nat) (x : Bool) : (bRow f n).setIfInBounds j (.bool x) = bRow (updB f j x) n := by
  apply Array.ext
  · simp [bRow]
  · intro i h1 h2
    have h3 : i < (bRow f n).size := by simpa using h1
    by_cases e : j = i
    · subst e; simp [bRow, updB]
    · have e' : ¬ i = j := fun h => e h.symm
      rw [Array.getElem_setIfInBounds h3, if_neg e]
      simp [bRow, updB, e']
theorem bRow_zero (n : Nat) : madeCells #[.bool false] n = bRow (fun _ => false) n := by
  apply Array.ext
  · simp [madeCells, bRow]
  · intro i h1 h2
    simp [madeCells, bRow, Nat.mod_one]
theorem Blk.bool {w : World} {g : Nat} {t : TypeId} {f : Nat → Bool} {n : Nat} (h : Blk w g t (bRow f n)) {j : Nat} (hj : j < n) : w.cell? ⟨g, j, none⟩ = some (.bool (f j)) := (h.cell j).trans (bRow_at f hj)
theorem Blk.putB {w : World} {g : Nat} {t : TypeId} {f : Nat → Bool} {n : Nat} (h : Blk w g t (bRow f n)) (j : Nat) (x : Bool) : Blk (w.setCell ⟨g, j, none⟩ (.bool x)) g t (bRow (updB f j x) n) := by
  have h1 := h.set j (.bool x)
  rwa [bRow_set] at h1
theorem Yba.info4 : (Yba.prog.info? 4).map (fun i => (i.zero, i.size, i.bytes)) = some (some (.bool false), 1, 1) := by kernel_rfl
theorem mk_bool (m : Nat) (hn : m ≤ 100000) (w : World) : (Instr.makeSlice 25 (.int .i64 (m : Int)) (.int .i64 (m : Int))).run Yba.prog w = .ok (.slice (some ⟨w.heap.size, 0, none⟩) m m) (w.alloc (.cells (bRow (fun _ => false) m) 4)) := by
  obtain ⟨i, hi, hz0, hz1, hz2⟩ := info_parts Yba.info4
  have h := run_make (P := Yba.prog) w 25 4 i (.bool false) Yba.underlying25 hi hz0 .i64 .i64 m m (by omega) (by omega) (by rw [hz2]; omega) (by omega)
  simpa [hz1, Value.cells, bRow_zero] using h

set_option maxHeartbeats 400000 in
theorem reached_yes (d hops : Int) (h0 : 0 ≤ d) (h1 : hops < 0 ∨ d ≤ hops) (w : World) : Calls Yba.prog 20 #[.int .i64 d, .int .i64 hops] w fun e w' => e = .returned (.bool true) ∧ w' = w := by
  by_cases hh : hops < 0
  · go_enter Yba.func20, Yba.ntmps20
    go_wp2
    go_ret
    exact ⟨rfl, rfl⟩
  · have h2 : d ≤ hops := by omega
    go_enter Yba.func20, Yba.ntmps20
    go_wp2
    go_ret
    exact ⟨rfl, rfl⟩
set_option maxHeartbeats 400000 in
theorem reached_no (d hops : Int) (h : ¬ (0 ≤ d ∧ (hops < 0 ∨ d ≤ hops))) (w : World) : Calls Yba.prog 20 #[.int .i64 d, .int .i64 hops] w fun e w' => e = .returned (.bool false) ∧ w' = w := by
  by_cases h0 : 0 ≤ d
  · have h1 : ¬ hops < 0 := by omega
    have h2 : ¬ d ≤ hops := by omega
    clear h
    go_enter Yba.func20, Yba.ntmps20
    go_wp2
    go_ret
    exact ⟨rfl, rfl⟩
  · clear h
    go_enter Yba.func20, Yba.ntmps20
    go_wp2
    go_ret
    exact ⟨rfl, rfl⟩

set_option maxRecDepth 100000 in
set_option maxHeartbeats 1000000 in
theorem check_any (D E n src : Nat) (hops : Int) (nb : Nat → List Nat) (md qf : Nat → Int) (S : Bfs.St) (hn : n ≤ 1024) (w : World)
    (hW : WK w D n S.1 qf S.2.length) (hq : ∀ j, j < S.2.length → qf j = (S.2.getD j 0 : Nat)) (hE : Blk w E 3 (rowOf .i64 md n)) (hS : Bfs.Spec n hops nb src S) (hM : Bfs.Mod n nb src md) :
    Calls Yba.prog 9 #[.pointer (some ⟨D + 2, 0, none⟩), .slice (some ⟨E, 0, none⟩) n n, .int .i64 hops, .int .i32 src, .slice (some ⟨D + 1, 0, none⟩) S.2.length n] w fun e w' => e = .returned (.bool true) ∧ Below w.heap.size w w' := by
  have HW : Hid (WK w D n S.1 qf S.2.length) := hW
  have HQ : Hid (∀ j, j < S.2.length → qf j = (S.2.getD j 0 : Nat)) := hq
  have HE : Hid (Blk w E 3 (rowOf .i64 md n)) := hE
  have HS : Hid (Bfs.Spec n hops nb src S) := hS
  have HR : Hid (∀ v, v < n → (v ∈ S.2 → S.1 v = md v ∧ 0 ≤ md v ∧ (hops < 0 ∨ md v ≤ hops)) ∧ (v ∉ S.2 → S.1 v = -1 ∧ ¬ (0 ≤ md v ∧ (hops < 0 ∨ md v ≤ hops)))) := fun v hv => hM.reached hS hv
  have hlen : S.2.length ≤ n := Bfs.good_le hS.good
  have hlen0 : 0 < S.2.length := hS.head.2
  have mb := mk_bool n (by omega)
  have hn' : (n : Int) ≤ 1024 := by omega
  clear hW hq hE hS hM
  go_enter Yba.func9, Yba.ntmps9
  go_wp2_with fail
  go_loopw [12, 13] (fun cv iv wx => ∃ k : Nat, k ≤ n ∧ cv = .int .i64 (Bfs.cnt S.2 k : Nat) ∧ iv = .int .i64 k ∧ wx = w) (fun _ i _ => n - (intOf i).toNat)
  case atStart => exact ⟨0, Nat.zero_le _, rfl, rfl, rfl⟩
  case round =>
    obtain ⟨k, hk, rfl, rfl, hwr⟩ := hrel
    have hwr' := hwr.symm
    clear hwr
    subst hwr'
    by_cases hlt : k < n
    · have hlt' : (k : Int) < n := by omega
      have cE := HE.out.int hlt
      have hcl := Bfs.cnt_le S.2 k
      by_cases hm : k ∈ S.2
      · obtain ⟨-, r1, r2⟩ := (HR.out k hlt).1 hm
        have hcs : Bfs.cnt S.2 (k + 1) = Bfs.cnt S.2 k + 1 := by simp [Bfs.cnt, hm]
        have HCS : Hid (Bfs.cnt S.2 (k + 1) = Bfs.cnt S.2 k + 1) := hcs
        clear hcs
        go_wp2_with fail
        refine (reached_yes (md k) hops r1 r2 _).mono ?_
        rintro e w2 ⟨rfl, rfl⟩
        go_wp2_with fail
        go_roundw
        case rel => exact ⟨k + 1, by omega, by rw [HCS.out]; go_num, by go_num, by first | rfl | trivial⟩
        case measure => simp [intOf]; omega
      · obtain ⟨-, r1⟩ := (HR.out k hlt).2 hm
        have hcs : Bfs.cnt S.2 (k + 1) = Bfs.cnt S.2 k := by simp [Bfs.cnt, hm]
        have HCS : Hid (Bfs.cnt S.2 (k + 1) = Bfs.cnt S.2 k) := hcs
        clear hcs
        go_wp2_with fail
        refine (reached_no (md k) hops r1 _).mono ?_
        rintro e w2 ⟨rfl, rfl⟩
        go_wp2_with fail
        go_roundw
        case rel => exact ⟨k + 1, by omega, by rw [HCS.out], by go_num, by first | rfl | trivial⟩
        case measure => simp [intOf]; omega
    · obtain rfl : n = k := by omega
      have hcn : Bfs.cnt S.2 n = S.2.length := Bfs.cnt_all n S.2 HS.out.good.1 HS.out.good.2.1
      rw [hcn]
      have q0 : w.cell? ⟨D + 1, 0, none⟩ = some (.int .i32 src) := by
        have h1 := HW.out.2.1.int (show 0 < n by omega)
        rw [HQ.out 0 hlen0, HS.out.head.1] at h1
        exact h1
      have zD := HW.out.2.1.lt
      have zE := HE.out.lt
      have hne : S.2 ≠ [] := fun e => by rw [e] at hlen0; simp at hlen0
      have hl0 : ((S.2.length : Int) == 0) = false := by simpa using hne
      clear hcn
      go_wp2_with fail
      go_loopw [15, 55] (fun pv iv wx => ∃ i : Nat, i ≤ S.2.length ∧ iv = .int .i64 i ∧ (∃ p : Int, pv = .int .i64 p ∧ Hid (∀ j, i ≤ j → j < S.2.length → p ≤ md (S.2.getD j 0))) ∧ (∃ sf, Hid (Blk wx w.heap.size 4 (bRow sf n)) ∧ Hid (∀ x, x < n → sf x = true → x ∈ S.2.take i)) ∧ Below w.heap.size w wx) (fun _ i _ => S.2.length - (intOf i).toNat)
      case atStart =>
        refine ⟨0, Nat.zero_le _, rfl, ⟨0, rfl, fun j _ hj => ?_⟩, ⟨_, Blk.new _ _ _, fun x _ h => by cases h⟩, bel1 _ _⟩
        have hm := Bfs.getD_mem hj
        exact ((HR.out _ (HS.out.good.2.1 _ hm)).1 hm).2.1
      case round =>
        obtain ⟨i, hi, rfl, ⟨p, rfl, hp⟩, ⟨sf, hB, hsf⟩, hb⟩ := hrel
        have HW2 : Hid (WK wr D n S.1 qf S.2.length) := HW.out.below hb (by have := HW.out.2.2.lt; omega)
        have HE2 : Hid (Blk wr E 3 (rowOf .i64 md n)) := HE.out.below hb zE
        by_cases hlt2 : i < S.2.length
        · have hlt2' : (i : Int) < S.2.length := by omega
          have hm := Bfs.getD_mem hlt2
          have hvn := HS.out.good.2.1 _ hm
          have hnt : S.2.getD i 0 ∉ S.2.take i := by
            have h1 : (S.2.take (i + 1)).Nodup := HS.out.good.1.sublist (List.take_sublist _ _)
            rw [Bfs.take_succ_getD hlt2, List.nodup_append] at h1
            intro hx
            exact h1.2.2 _ hx _ (by simp) rfl
          obtain ⟨hSv, r1, r2⟩ := (HR.out _ hvn).1 hm
          have hpv := hp.out i (Nat.le_refl _) hlt2
          have hsv : sf (S.2.getD i 0) = false := by
            cases e : sf (S.2.getD i 0)
            · rfl
            · exact absurd (hsf.out _ hvn e) hnt
          have cq : wr.cell? ⟨D + 1, i, none⟩ = some (.int .i32 (S.2.getD i 0 : Nat)) := by
            have h1 := HW2.out.2.1.int (show i < n by omega)
            rw [HQ.out i hlt2] at h1
            exact h1
          have cE := HE2.out.int hvn
          have cs := hB.out.bool hvn
          rw [hsv] at cs
          have fs := hB.out.frozen (S.2.getD i 0)
          have hpn : Hid (∀ j, i + 1 ≤ j → j < S.2.length → md (S.2.getD i 0) ≤ md (S.2.getD j 0)) := fun j hj hjl => by
            have hmj := Bfs.getD_mem hjl
            have h2 := HS.out.sorted i j (by omega) hjl
            rw [((HR.out _ (HS.out.good.2.1 _ hmj)).1 hmj).1, hSv] at h2
            exact h2
          have hsn : Hid (∀ x, x < n → updB sf (S.2.getD i 0) true x = true → x ∈ S.2.take (i + 1)) := fun x hx hxt => by
            rw [Bfs.take_succ_getD hlt2]
            by_cases e : x = S.2.getD i 0
            · simp [e]
            · rw [updB_other _ _ e] at hxt
              exact List.mem_append.2 (.inl (hsf.out x hx hxt))
          clear hm hnt hSv hp hsf hsv HW2 HE2
          have hzE : E < w.heap.size := zE
          generalize S.2.getD i 0 = x at *
          have hvn' : (x : Int) < n := by omega
          go_wp2_with fail
          refine (reached_yes (md x) hops r1 r2 _).mono ?_
          rintro e w2 ⟨rfl, rfl⟩
          go_wp2_with fail
          go_roundw
          case rel => exact ⟨i + 1, by omega, by go_num, ⟨_, rfl, hpn⟩, ⟨_, hB.out.putB x true, hsn⟩, hb.setCell (Nat.le_refl _) _⟩
          case measure => simp [intOf]; omega
        · have HB2 : Hid (Below w.heap.size w wr) := hb
          clear hp hsf hB hb
          go_wp2_with fail
          go_loopw [18] (fun iv wx => ∃ k : Nat, k ≤ n ∧ iv = .int .i64 k ∧ wx = wr) (fun i _ => n - (intOf i).toNat)
          case atStart => exact ⟨0, Nat.zero_le _, rfl, rfl⟩
          case round =>
            obtain ⟨k, hk, rfl, rfl⟩ := hrel
            by_cases hlt3 : k < n
            · have hlt3' : (k : Int) < n := by omega
              have cE := HE2.out.int hlt3
              by_cases hm : k ∈ S.2
              · obtain ⟨hSv, r1, r2⟩ := (HR.out k hlt3).1 hm
                have hdv := distance_any D n k hlt3 S.1 qf S.2.length wr HW2.out
                rw [hSv] at hdv
                have hlm : md k < n := by
                  have h1 := HS.out.good.2.2.2.2 k hm
                  rw [hSv] at h1
                  omega
                have HD : Hid (Calls Yba.prog 12 #[.pointer (some ⟨D + 2, 0, none⟩), .int .i32 k] wr fun e w' => e = .returned (.int .i32 (md k)) ∧ w' = wr) := hdv
                clear hdv hSv
                go_wp2_with fail
                refine HD.out.mono ?_
                rintro e w2 ⟨rfl, rfl⟩
                go_wp2_with fail
                refine (reached_yes (md k) hops r1 r2 _).mono ?_
                rintro e w2 ⟨rfl, rfl⟩
                go_wp2_with fail
                go_roundw
                case rel => exact ⟨k + 1, by omega, by go_num, by first | rfl | trivial⟩
                case measure => simp [intOf]; omega
              · obtain ⟨hSv, r1⟩ := (HR.out k hlt3).2 hm
                have hdv := distance_any D n k hlt3 S.1 qf S.2.length wr HW2.out
                rw [hSv] at hdv
                have HD : Hid (Calls Yba.prog 12 #[.pointer (some ⟨D + 2, 0, none⟩), .int .i32 k] wr fun e w' => e = .returned (.int .i32 (-1)) ∧ w' = wr) := hdv
                clear hdv hSv
                go_wp2_with fail
                refine HD.out.mono ?_
                rintro e w2 ⟨rfl, rfl⟩
                go_wp2_with fail
                refine (reached_no (md k) hops r1 _).mono ?_
                rintro e w2 ⟨rfl, rfl⟩
                go_wp2_with fail
                go_roundw
                case rel => exact ⟨k + 1, by omega, by go_num, by first | rfl | trivial⟩
                case measure => simp [intOf]; omega
            · go_wp2_with fail
              go_ret
              exact ⟨rfl, HB2.out⟩

end Go.Proofs.Ybulkbfdo
