import Derived.Test.YbulkbfcmFmtRows
import Derived.WalkKit
import Derived.WalkSpells
import Derived.WalkLawsBesides
import Derived.Lib.Mul64
import Derived.Laws.Bits64b
import Derived.RegionTactic
import Derived.ChangeAlike
import Derived.Deep.QuietTactic
import Derived.BigQuiet
import Derived.Below
namespace Go.Proofs.YbulkbfcmFmt
open Go.RowKit

theorem ret_int {k : IntKind} {a b : Int} (h : a = b) : Ending.returned (.int k a) = .returned (.int k b) := by rw [h]

set_option maxHeartbeats 400000 in
theorem mag_any (c : Int) (h1 : -9000000000000000000 ≤ c) (h2 : c ≤ 9000000000000000000) (w : World) :
    Calls Ybaf.prog 18 #[.int .i64 c] w fun e w' => e = .returned (.int .u64 (c.natAbs : Int)) ∧ w' = w := by
  by_cases hc : c < 0
  · go_enter Ybaf.func18, Ybaf.ntmps18
    go_wp2
    go_ret
    exact ⟨ret_int (by omega), rfl⟩
  · go_enter Ybaf.func18, Ybaf.ntmps18
    go_wp2
    go_ret
    exact ⟨ret_int (by omega), rfl⟩

set_option maxHeartbeats 400000 in
theorem new_any (c s : Int) (h1 : -9223372036854775807 ≤ c) (hs : 0 ≤ s) (hs' : s ≤ 18) (w : World) :
    Calls Ybaf.prog 6 #[.int .i64 c, .int .i64 s] w fun e w' => e = .returned (.agg #[.int .i64 c, .int .u8 s]) ∧ w' = w.alloc (.cells #[.int .i64 c, .int .u8 s] 26) := by
  have k1 : decide (s < 0) = false := by simp; omega
  have k2 : decide (18 < s) = false := by simp; omega
  have k3 : (c == -9223372036854775808) = false := by simp; omega
  clear h1
  go_enter Ybaf.func6, Ybaf.ntmps6
  go_wp2
  exact bodyPost_ret (v := .agg #[.int .i64 c, .int .u8 s]) (by simp [results, Ybaf.results6, go_sem]) rfl ⟨rfl, rfl⟩

set_option maxHeartbeats 400000 in
theorem fix_any (c : Int) (w : World) :
    Calls Ybaf.prog 5 #[.int .i64 c] w fun e w' => e = .returned (.int .i64 (if c = -9223372036854775808 then 9223372036854775807 else c)) ∧ w' = w := by
  by_cases hc : c = -9223372036854775808
  · subst hc
    go_enter Ybaf.func5, Ybaf.ntmps5
    go_wp2
    go_ret
    exact ⟨rfl, rfl⟩
  · rw [if_neg hc]
    go_enter Ybaf.func5, Ybaf.ntmps5
    go_wp2
    go_ret
    exact ⟨rfl, rfl⟩

theorem maskN (a : Nat) (ha : a < 18446744073709551616) : bits .and .u64 (a : Int) 4294967295 = ((a % 4294967296 : Nat) : Int) := by
  have h := bits_and_u64_nat a 4294967295 ha (by omega)
  have e : a &&& 4294967295 = a % 4294967296 := Nat.and_two_pow_sub_one_eq_mod a 32
  rw [e] at h
  exact h
theorem divN (a : Nat) : (a : Int) / 4294967296 = ((a / 4294967296 : Nat) : Int) := by omega
theorem mulN (a b : Nat) : (a : Int) * (b : Int) = ((a * b : Nat) : Int) := (Int.natCast_mul a b).symm
theorem addN (a b : Nat) : (a : Int) + (b : Int) = ((a + b : Nat) : Int) := (Int.natCast_add a b).symm
theorem wrapN (a : Nat) (ha : a < 18446744073709551616) : IntKind.u64.wrap (a : Int) = (a : Int) := by rw [IntKind.wrap_u64]; omega
theorem wrapM (a : Nat) : IntKind.u64.wrap (a : Int) = ((a % 18446744073709551616 : Nat) : Int) := by rw [IntKind.wrap_u64]; omega

set_option maxHeartbeats 1000000 in
theorem mul64_any (x y : Nat) (hx : x < 18446744073709551616) (hy : y < 18446744073709551616) (w : World) :
    Calls Ybaf.prog 17 #[.int .u64 x, .int .u64 y] w fun e w' => e = .returned (.tuple #[.int .u64 ((x * y / 18446744073709551616 : Nat) : Int), .int .u64 ((x * y % 18446744073709551616 : Nat) : Int)]) ∧ w' = w := by
  obtain ⟨bd, bt, bw, hhi⟩ := Lib.mul64_hi x y hx hy
  have ba := Lib.half_mul_le (a := x / 4294967296) (b := y / 4294967296) (by omega) (by omega)
  have bb := Lib.half_mul_le (a := x / 4294967296) (b := y % 4294967296) (by omega) (by omega)
  have bc := Lib.half_mul_le (a := x % 4294967296) (b := y / 4294967296) (by omega) (by omega)
  have ba' : x / 4294967296 * (y / 4294967296) < 18446744073709551616 := by omega
  have bb' : x / 4294967296 * (y % 4294967296) < 18446744073709551616 := by omega
  have bc' : x % 4294967296 * (y / 4294967296) < 18446744073709551616 := by omega
  have bh1 : x / 4294967296 * (y / 4294967296) + (x / 4294967296 * (y % 4294967296) + x % 4294967296 * (y % 4294967296) / 4294967296) / 4294967296 < 18446744073709551616 := by omega
  have bh : x / 4294967296 * (y / 4294967296) + (x / 4294967296 * (y % 4294967296) + x % 4294967296 * (y % 4294967296) / 4294967296) / 4294967296 + ((x / 4294967296 * (y % 4294967296) + x % 4294967296 * (y % 4294967296) / 4294967296) % 4294967296 + x % 4294967296 * (y / 4294967296)) / 4294967296 < 18446744073709551616 := by omega
  go_enter Ybaf.func17, Ybaf.ntmps17
  go_wp2
  simp only [maskN x hx, maskN y hy, divN, mulN, addN, wrapN _ bd, wrapN _ bb', wrapN _ bt, maskN _ bt, wrapN _ bc', wrapN _ bw, wrapN _ ba', wrapN _ bh1, wrapN _ bh, wrapM (x * y)]
  rw [hhi]
  go_ret2
  exact ⟨rfl, rfl⟩

theorem pow_le (n : Nat) (h : n ≤ 6) : (1 : Int) ≤ 10 ^ n ∧ (10 : Int) ^ n ≤ 1000000 := by
  match n, h with
  | 0, _ | 1, _ | 2, _ | 3, _ | 4, _ | 5, _ | 6, _ => decide

set_option maxHeartbeats 400000 in
theorem pow_any (n : Nat) (hn : n ≤ 6) (w : World) :
    Calls Ybaf.prog 9 #[.int .i64 n] w fun e w' => e = .returned (.int .i64 (10 ^ n)) ∧ w' = w := by
  go_enter Ybaf.func9, Ybaf.ntmps9
  go_wp2
  go_loop [3, 4] (fun p i => ∃ (k : Nat) (P : Int), k ≤ n ∧ i = .int .i64 k ∧ p = .int .i64 P ∧ Hid (P = 10 ^ k)) (fun _ i => n - (intOf i).toNat)
  case atStart => exact ⟨0, 1, Nat.zero_le _, rfl, rfl, rfl⟩
  case round =>
    obtain ⟨k, P, hk, rfl, rfl, hP⟩ := hrel
    have hb : 1 ≤ P ∧ P ≤ 1000000 := by have := pow_le k (by omega); have h := hP.out; rw [← h] at this; exact this
    obtain ⟨hb1, hb2⟩ := hb
    by_cases hlt : k < n
    · go_wp2
      go_round
      case rel => exact ⟨k + 1, P * 10, by omega, by go_num, by go_num, by have h := hP.out; exact (by rw [h, Int.pow_succ] : P * 10 = 10 ^ (k + 1))⟩
      case measure => simp [intOf]; omega
    · go_wp2
      go_ret
      have e : k = n := by omega
      subst e
      exact ⟨ret_int hP.out, rfl⟩

end Go.Proofs.YbulkbfcmFmt
