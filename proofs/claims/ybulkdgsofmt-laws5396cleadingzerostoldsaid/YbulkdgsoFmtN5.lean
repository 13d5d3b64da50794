/-
  maxPow(10), pow(10, n).
-/
import Derived.Test.YbulkdgsoFmtM1
namespace Go.Proofs.YbulkdgsoFmt.M
open Go.RowKit

theorem pow_step (x k n : Nat) (h : x = 10 ^ k) (hk : k < n) (hn : n ≤ 19) : x * 10 = 10 ^ (k + 1) ∧ x * 10 < 2 ^ 64 := by
  subst h
  have e : 10 ^ (k + 1) = 10 ^ k * 10 := Nat.pow_succ ..
  refine ⟨e.symm, ?_⟩
  rw [← e]
  have : 10 ^ (k + 1) ≤ 10 ^ 19 := Nat.pow_le_pow_right (by decide) (by omega)
  omega

set_option maxHeartbeats 1000000 in
set_option maxRecDepth 100000 in
theorem maxPow_10 (w : World) : Calls Ybaf.prog 52 #[.int .u64 10] w fun e w' => e = .returned (.tuple #[.int .u64 10000000000000000000, .int .i64 19]) ∧ w' = w := by
  go_enter Ybaf.func52, Ybaf.ntmps52
  go_wp2_with fail
  go_loop [2, 3] (fun p n => ∃ k x : Nat, 1 ≤ k ∧ k ≤ 19 ∧ x = 10 ^ k ∧ p = .int .u64 x ∧ n = .int .i64 k) (fun _ n => 19 - (intOf n).toNat)
  case atStart => exact ⟨1, 10, by omega, by omega, rfl, rfl, rfl⟩
  case round =>
    obtain ⟨k, x, h1, hk, hx, rfl, rfl⟩ := hrel
    by_cases hlt : k < 19
    · have ⟨e1, e2⟩ := pow_step x k 19 hx hlt (by omega)
      have hle : (x : Int) ≤ 1844674407370955161 := by omega
      have e3 : IntKind.u64.wrap ((x : Int) * 10) = ((x * 10 : Nat) : Int) := by
        rw [show (x : Int) * 10 = ((x * 10 : Nat) : Int) by omega]
        exact wrapN _ (by omega)
      have E1 := hide e1
      clear hx e1
      go_wp2_with fail
      refine ⟨⟨k + 1, x * 10, by omega, by omega, E1.out, rfl, rfl⟩, ?_⟩
      simp only [intOf]
      omega
    · obtain rfl : k = 19 := by omega
      subst hx
      go_wp2_with fail
      go_ret2
      exact ⟨rfl, rfl⟩

theorem pow_inv (p b k n : Nat) (h : p * b ^ k % 18446744073709551616 = n) : (if k % 2 = 1 then p * b % 18446744073709551616 else p) * (b * b % 18446744073709551616) ^ (k / 2) % 18446744073709551616 = n := by
  have hk : b ^ k = (b * b) ^ (k / 2) * (if k % 2 = 1 then b else 1) := by
    rw [← Nat.pow_two, ← Nat.pow_mul]
    split
    · rename_i h; rw [← Nat.pow_succ, show (2 * (k / 2)).succ = k by omega]
    · rw [show 2 * (k / 2) = k by omega, Nat.mul_one]
  rw [← h, hk]
  split
  · rw [Nat.mul_mod, Nat.mod_mod, ← Nat.pow_mod, ← Nat.mul_mod, Nat.mul_comm ((b * b) ^ (k / 2)) b, ← Nat.mul_assoc]
  · rw [Nat.mul_mod, ← Nat.pow_mod, ← Nat.mul_mod, Nat.mul_one]

theorem and_1 (k : Nat) (hk : k ≤ 19) : bits .and .i64 (k : Int) 1 = ((k % 2 : Nat) : Int) := by
  have : ∀ k : Nat, k < 20 → bits .and .i64 (k : Int) 1 = ((k % 2 : Nat) : Int) := by decide
  exact this k (by omega)

set_option maxHeartbeats 1000000 in
set_option maxRecDepth 100000 in
theorem pow_10 (n P : Nat) (hn : n ≤ 19) (hP : P = 10 ^ n) (w : World) : Calls Ybaf.prog 54 #[.int .u64 10, .int .i64 (n : Int)] w fun e w' => e = .returned (.int .u64 (P : Int)) ∧ w' = w := by
  have HP := hide hP
  clear hP
  go_enter Ybaf.func54, Ybaf.ntmps54
  go_wp2_with fail
  go_loop [0, 1, 4] (fun x m p => ∃ b k q : Nat, k ≤ 19 ∧ b < 18446744073709551616 ∧ q < 18446744073709551616 ∧ q * b ^ k % 18446744073709551616 = 10 ^ n ∧ x = .int .u64 b ∧ m = .int .i64 k ∧ p = .int .u64 q) (fun _ m _ => (intOf m).toNat)
  case atStart =>
    have h19 : 10 ^ n ≤ 10 ^ 19 := Nat.pow_le_pow_right (by decide) hn
    exact ⟨10, n, 1, hn, by omega, by omega, by rw [Nat.one_mul, Nat.mod_eq_of_lt (by omega)], rfl, rfl, rfl⟩
  case round =>
    obtain ⟨b, k, q, hk, hb, hq, hi, rfl, rfl, rfl⟩ := hrel
    by_cases h0 : k = 0
    · subst h0
      have HI := hide hi
      clear hi
      go_wp2_with fail
      go_ret
      have := HI.out
      rw [Nat.pow_zero, Nat.mul_one, Nat.mod_eq_of_lt hq, ← HP.out] at this
      rw [← this]
      exact ⟨rfl, rfl⟩
    · have hp : (0 : Int) < (k : Int) := by omega
      have ha := and_1 k hk
      have hinv := pow_inv q b k _ hi
      have m1 : IntKind.u64.wrap ((q : Int) * (b : Int)) = ((q * b % 18446744073709551616 : Nat) : Int) := by rw [← Int.natCast_mul]; exact wrapM _
      have m2 : IntKind.u64.wrap ((b : Int) * (b : Int)) = ((b * b % 18446744073709551616 : Nat) : Int) := by rw [← Int.natCast_mul]; exact wrapM _
      obtain ⟨b2, hb2⟩ : ∃ b2, b2 = b * b % 18446744073709551616 := ⟨_, rfl⟩
      obtain ⟨q2, hq2⟩ : ∃ q2, q2 = q * b % 18446744073709551616 := ⟨_, rfl⟩
      have lb : b2 < 18446744073709551616 := by omega
      have lq : q2 < 18446744073709551616 := by omega
      rw [← hb2] at m2 hinv
      rw [← hq2] at m1 hinv
      have HI := hide hinv
      clear hi hinv hb2 hq2
      by_cases ho : k % 2 = 1
      · rw [ho] at ha
        go_wp2_with fail
        have := HI.out
        rw [if_pos ho] at this
        refine ⟨⟨b2, k / 2, q2, by omega, lb, lq, this, rfl, rfl, rfl⟩, ?_⟩
        simp only [intOf]
        omega
      · rw [show k % 2 = 0 by omega] at ha
        go_wp2_with fail
        have := HI.out
        rw [if_neg ho] at this
        refine ⟨⟨b2, k / 2, q, by omega, lb, hq, this, rfl, rfl, rfl⟩, ?_⟩
        simp only [intOf]
        omega

end Go.Proofs.YbulkdgsoFmt.M
