import Derived.Test.YbulkbfdoComplete
namespace Go.Proofs.Ybulkbfdo
open Go.RowKit
set_option linter.unusedSimpArgs false

theorem walk_at (x : Int) (D n src : Nat) (hx : x = (src : Int)) (hops : Int) (g : Value) (nb : Nat → List Nat) (hnb : ∀ v, v < n → ∀ u ∈ nb v, u < n) (hn : n ≤ 1024) (hsrc : src < n) (dist0 qf0 : Nat → Int) (len0 : Nat) (w : World)
    (hW : WK w D n dist0 qf0 len0) (hO : Old n dist0 qf0 len0) (hN : NB D w g n nb) (S : Bfs.St) (hS : Bfs.bfs n hops nb n 0 (Bfs.put (fun _ => -1) src 0, [src]) = S) :
    Calls Yba.prog 8 #[.pointer (some ⟨D + 2, 0, none⟩), g, .int .i32 x, .int .i64 hops] w fun e w' => e = .returned (.slice (some ⟨D + 1, 0, none⟩) S.2.length n) ∧
      (∃ qf, WK w' D n S.1 qf S.2.length ∧ ∀ j, j < S.2.length → qf j = (S.2.getD j 0 : Nat)) ∧ Below D w w' := by
  subst hx; exact walk_any D n src hops g nb hnb hn hsrc dist0 qf0 len0 w hW hO hN S hS

theorem old_new (n : Nat) : Old n (fun _ => -1) (fun _ => 0) 0 := ⟨Nat.zero_le _, fun j hj => by omega, fun u _ => .inl rfl⟩

set_option maxRecDepth 100000 in
set_option maxHeartbeats 1000000 in
theorem complete_core (n s : Nat) (hops : Int) (h0 : 0 < n) (hn : n ≤ 1024) (hs : s ≤ 4294967295) (w : World) :
    Calls Yba.prog 4 #[.int .u16 n, .int .u32 s, .int .i64 hops] w fun e w' => e = .returned (.bool true) ∧ Below w.heap.size w w' := by
  have hn0 : ((n : Int) == 0) = false := by simp; omega
  have hn1 : ¬ 1024 < (n : Int) := by omega
  have hs' : (s : Int) ≤ 4294967295 := by omega
  obtain ⟨src, hsrc⟩ : ∃ src, src = s % n := ⟨_, rfl⟩
  have hsn : src < n := by rw [hsrc]; exact Nat.mod_lt _ h0
  have HX : Hid ((s : Int) % (n : Int) = (src : Int)) := by rw [hsrc]; show (s : Int) % (n : Int) = ((s % n : Nat) : Int); omega
  have hx0 : 0 ≤ (s : Int) % (n : Int) := by have := HX.out; omega
  have hx1 : (s : Int) % (n : Int) < n := by have := HX.out; omega
  clear hsrc
  obtain ⟨S, hS⟩ : ∃ S, Bfs.bfs n hops (Full.nb n) n 0 (Bfs.put (fun _ => -1) src 0, [src]) = S := ⟨_, rfl⟩
  have HS : Hid (Bfs.bfs n hops (Full.nb n) n 0 (Bfs.put (fun _ => -1) src 0, [src]) = S) := hS
  clear hS
  go_enter Yba.func4, Yba.ntmps4
  go_wp2_with fail
  refine (complete_any n h0 hn _).mono ?_
  rintro e w1 ⟨rfl, hG, hb1⟩
  have HG : Hid (CG w1 w.heap.size n) := hG
  have hz1 : w.heap.size + 1 < w1.heap.size := hG.2.lt
  clear hG
  go_wp2_with fail
  refine (newWalker_any n hn _).mono ?_
  rintro e w2 ⟨rfl, hK, hb2⟩
  have HK : Hid (WK w2 w1.heap.size n (fun _ => -1) (fun _ => 0) 0) := hK
  have hG2 : Hid (CG w2 w.heap.size n) := ⟨HG.out.1.below hb2 (by omega), HG.out.2.below hb2 (by omega)⟩
  have hB2 : Below w.heap.size w w2 := hb1.trans (hb2.mono (by omega))
  clear hK HG hb1 hb2
  go_wp2_with fail
  refine (walk_at _ w1.heap.size n src HX.out hops _ (Full.nb n) (fun v hv => Full.nb_lt n v h0) hn hsn _ _ 0 _ HK.out (old_new n) (nb_full w.heap.size w1.heap.size n h0 hn w2 hG2.out hz1) S HS.out).mono ?_
  rintro e w3 ⟨rfl, ⟨qf, hK3, hq3⟩, hb3⟩
  have HK3 : Hid (WK w3 w1.heap.size n S.1 qf S.2.length) := hK3
  have HQ3 : Hid (∀ j, j < S.2.length → qf j = (S.2.getD j 0 : Nat)) := hq3
  have hB3 : Below w.heap.size w w3 := hB2.trans (hb3.mono (by omega))
  clear hK3 hq3 HK hG2 hB2 hb3
  by_cases hall : hops = 0 ∨ n ≤ 1
  · have hS1 := Full.bfs_one n src hops hall S HS.out
    have hS2 : Hid (S = (Bfs.put (fun _ => -1) src 0, [src])) := hS1
    have hlen : S.2.length = 1 := by rw [hS1]; rfl
    have q0 := HK3.out.2.1.int (show 0 < n by omega)
    rw [HQ3.out 0 (by omega), show (S.2.getD 0 0) = src by rw [hS1]; rfl, ← HX.out] at q0
    have HL : Hid (S.2.length = 1) := hlen
    rw [hlen]
    clear hS1 hlen HS
    have hq1 : Hid (True) := trivial
    by_cases hh : hops = 0
    · have hb0 : (hops != 0) = false := by simpa using hh
      clear hh hall
      go_wp2_with fail
      go_loop [15] (fun i => ∃ k : Nat, k ≤ n ∧ i = .int .i64 k) (fun i => n - (intOf i).toNat)
      case atStart => exact ⟨0, Nat.zero_le _, rfl⟩
      case round =>
        obtain ⟨k, hk, rfl⟩ := hrel
        by_cases hlt : k < n
        · by_cases e : k = src
          · have eb : ((k : Int) == (s : Int) % (n : Int)) = true := by have := HX.out; simp; omega
            have hd : S.1 k = 0 := by rw [hS2.out, e]; simp [Bfs.put]
            have hcall := distance_any w1.heap.size n k hlt S.1 qf S.2.length w3 HK3.out
            rw [hd] at hcall
            have HCALL : Hid (Calls Yba.prog 12 #[.pointer (some ⟨w1.heap.size + 2, 0, none⟩), .int .i32 k] w3 fun e w' => e = .returned (.int .i32 0) ∧ w' = w3) := hcall
            clear hcall hd e
            go_wp2_with fail
            refine HCALL.out.mono ?_
            rintro e w4 ⟨rfl, hw4⟩
            rw [hw4]
            clear HCALL hw4
            go_wp2
            go_round
            case rel => exact ⟨k + 1, by omega, by go_num⟩
            case measure => simp [intOf]; omega
          · have eb : ((k : Int) == (s : Int) % (n : Int)) = false := by have := HX.out; simp; omega
            have hd : S.1 k = -1 := by rw [hS2.out]; simp [Bfs.put, e]
            have hcall := distance_any w1.heap.size n k hlt S.1 qf S.2.length w3 HK3.out
            rw [hd] at hcall
            have HCALL : Hid (Calls Yba.prog 12 #[.pointer (some ⟨w1.heap.size + 2, 0, none⟩), .int .i32 k] w3 fun e w' => e = .returned (.int .i32 (-1)) ∧ w' = w3) := hcall
            clear hcall hd e
            go_wp2_with fail
            refine HCALL.out.mono ?_
            rintro e w4 ⟨rfl, hw4⟩
            rw [hw4]
            clear HCALL hw4
            go_wp2
            go_round
            case rel => exact ⟨k + 1, by omega, by go_num⟩
            case measure => simp [intOf]; omega
        · go_wp2
          go_ret
          exact ⟨rfl, hB3⟩
    · have hb0 : (hops != 0) = true := by simpa using hh
      have hn2 : ¬ 1 < (n : Int) := by omega
      have hn4 : decide (1 < (n : Int)) = false := by simpa using hn2
      clear hh hall
      go_wp2_with fail
      go_loop [15] (fun i => ∃ k : Nat, k ≤ n ∧ i = .int .i64 k) (fun i => n - (intOf i).toNat)
      case atStart => exact ⟨0, Nat.zero_le _, rfl⟩
      case round =>
        obtain ⟨k, hk, rfl⟩ := hrel
        by_cases hlt : k < n
        · by_cases e : k = src
          · have eb : ((k : Int) == (s : Int) % (n : Int)) = true := by have := HX.out; simp; omega
            have hd : S.1 k = 0 := by rw [hS2.out, e]; simp [Bfs.put]
            have hcall := distance_any w1.heap.size n k hlt S.1 qf S.2.length w3 HK3.out
            rw [hd] at hcall
            have HCALL : Hid (Calls Yba.prog 12 #[.pointer (some ⟨w1.heap.size + 2, 0, none⟩), .int .i32 k] w3 fun e w' => e = .returned (.int .i32 0) ∧ w' = w3) := hcall
            clear hcall hd e
            go_wp2_with fail
            refine HCALL.out.mono ?_
            rintro e w4 ⟨rfl, hw4⟩
            rw [hw4]
            clear HCALL hw4
            go_wp2
            go_round
            case rel => exact ⟨k + 1, by omega, by go_num⟩
            case measure => simp [intOf]; omega
          · have eb : ((k : Int) == (s : Int) % (n : Int)) = false := by have := HX.out; simp; omega
            have hd : S.1 k = -1 := by rw [hS2.out]; simp [Bfs.put, e]
            have hcall := distance_any w1.heap.size n k hlt S.1 qf S.2.length w3 HK3.out
            rw [hd] at hcall
            have HCALL : Hid (Calls Yba.prog 12 #[.pointer (some ⟨w1.heap.size + 2, 0, none⟩), .int .i32 k] w3 fun e w' => e = .returned (.int .i32 (-1)) ∧ w' = w3) := hcall
            clear hcall hd e
            go_wp2_with fail
            refine HCALL.out.mono ?_
            rintro e w4 ⟨rfl, hw4⟩
            rw [hw4]
            clear HCALL hw4
            go_wp2
            go_round
            case rel => exact ⟨k + 1, by omega, by go_num⟩
            case measure => simp [intOf]; omega
        · go_wp2
          go_ret
          exact ⟨rfl, hB3⟩
  · obtain ⟨hS1, hSd0⟩ := Full.bfs_all n src hops hsn (by omega) (by omega) S HS.out
    have hSd : Hid (∀ v, v < n → S.1 v = if v = src then 0 else 1) := hSd0
    clear hSd0
    have hlen : S.2.length = n := by rw [hS1]; simp [Full.nb_len]; omega
    have HQ : Hid (∀ j : Nat, j < n → w3.cell? ⟨w1.heap.size + 1, j, none⟩ = some (.int .i32 (((s : Int) % (n : Int) + (j : Int)) % (n : Int)))) := by
      intro j hj
      rw [HK3.out.2.1.int hj, HQ3.out j (by omega)]
      have e : S.2.getD j 0 = (src + j) % n := by
        rw [hS1]
        cases j with
        | zero => simp [List.getD, Nat.mod_eq_of_lt hsn]
        | succ j =>
          have := Full.nb_at n src j (by omega)
          simp only [List.getD, List.getElem?_cons_succ] at this ⊢
          rw [this, show src + 1 + j = src + (j + 1) by omega]
      rw [e, HX.out]
      rw [Int.natCast_emod, Int.natCast_add]
    have q0 := HQ.out 0 h0
    have q0' : w3.cell? ⟨w1.heap.size + 1, 0, none⟩ = some (.int .i32 ((s : Int) % (n : Int))) := by
      rw [q0]
      have : ((s : Int) % (n : Int) + ((0 : Nat) : Int)) % (n : Int) = (s : Int) % (n : Int) := by have := HX.out; simp
      rw [this]
    rw [hlen]
    have hb0 : (hops != 0) = true := by simp; omega
    have hn2 : 1 < (n : Int) := by omega
    have hn3 : (0 : Int) < (n : Int) := by omega
    clear q0 hS1 hlen HS hall HQ3
    go_wp2_with fail
    go_loop [13] (fun i => ∃ k : Nat, 1 ≤ k ∧ k ≤ n ∧ i = .int .i64 k) (fun i => n - (intOf i).toNat)
    case atStart => exact ⟨1, Nat.le_refl _, by omega, rfl⟩
    case round =>
      obtain ⟨k, hk1, hk, rfl⟩ := hrel
      have hy0 : 0 ≤ ((s : Int) % (n : Int) + (k : Int)) % (n : Int) := Int.emod_nonneg _ (by omega)
      have hy1 : ((s : Int) % (n : Int) + (k : Int)) % (n : Int) < n := Int.emod_lt_of_pos _ (by omega)
      have hy2 : 0 ≤ ((s : Int) + (k : Int)) % (n : Int) := Int.emod_nonneg _ (by omega)
      have hy3 : ((s : Int) + (k : Int)) % (n : Int) < n := Int.emod_lt_of_pos _ (by omega)
      by_cases hlt : k < n
      · have qk := HQ.out k hlt
        go_wp2
        go_round
        case rel => exact ⟨k + 1, by omega, by omega, by go_num⟩
        case measure => simp [intOf]; omega
      · clear HQ
        go_wp2_with fail
        go_loop [15] (fun i => ∃ k : Nat, k ≤ n ∧ i = .int .i64 k) (fun i => n - (intOf i).toNat)
        case atStart => exact ⟨0, Nat.zero_le _, rfl⟩
        case round =>
          obtain ⟨k, hk, rfl⟩ := hrel
          by_cases hlt : k < n
          · by_cases e : k = src
            · have eb : ((k : Int) == (s : Int) % (n : Int)) = true := by have := HX.out; simp; omega
              have hd : S.1 k = 0 := by rw [hSd.out k hlt, if_pos e]
              have hcall := distance_any w1.heap.size n k hlt S.1 qf S.2.length w3 HK3.out
              rw [hd] at hcall
              have HCALL : Hid (Calls Yba.prog 12 #[.pointer (some ⟨w1.heap.size + 2, 0, none⟩), .int .i32 k] w3 fun e w' => e = .returned (.int .i32 0) ∧ w' = w3) := hcall
              clear hcall hd e
              go_wp2_with fail
              refine HCALL.out.mono ?_
              rintro e w4 ⟨rfl, hw4⟩
              rw [hw4]
              clear HCALL hw4
              go_wp2
              go_round
              case rel => exact ⟨k + 1, by omega, by go_num⟩
              case measure => simp [intOf]; omega
            · have eb : ((k : Int) == (s : Int) % (n : Int)) = false := by have := HX.out; simp; omega
              have hd : S.1 k = 1 := by rw [hSd.out k hlt, if_neg e]
              have hcall := distance_any w1.heap.size n k hlt S.1 qf S.2.length w3 HK3.out
              rw [hd] at hcall
              have HCALL : Hid (Calls Yba.prog 12 #[.pointer (some ⟨w1.heap.size + 2, 0, none⟩), .int .i32 k] w3 fun e w' => e = .returned (.int .i32 (1)) ∧ w' = w3) := hcall
              clear hcall hd e
              go_wp2_with fail
              refine HCALL.out.mono ?_
              rintro e w4 ⟨rfl, hw4⟩
              rw [hw4]
              clear HCALL hw4
              go_wp2
              go_round
              case rel => exact ⟨k + 1, by omega, by go_num⟩
              case measure => simp [intOf]; omega
          · go_wp2
            go_ret
            exact ⟨rfl, hB3⟩

end Go.Proofs.Ybulkbfdo
