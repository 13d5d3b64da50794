/-
  A shift to the left by 1 or 3: the plain law and lshVU_g.
-/
import Derived.Test.YbulkdgsoFmtM2
import Derived.Deep.RegionHeld3
namespace Go.Proofs.YbulkdgsoFmt.M
open Go.RowKit

/-- The words of x * M + cin, M * D = 2^64. -/
def shl (M D : Nat) : Nat → List Nat → List Nat
  | _, [] => []
  | cin, x :: xs => (x * M % 18446744073709551616 + cin) :: shl M D (x / D) xs
/-- What falls out at the top. -/
def shc (D : Nat) : Nat → List Nat → Nat
  | cin, [] => cin
  | _, x :: xs => shc D (x / D) xs

theorem shl_len (M D : Nat) : ∀ (xs : List Nat) (cin : Nat), (shl M D cin xs).length = xs.length
  | [], _ => rfl
  | _ :: xs, _ => by simp [shl, shl_len M D xs]

theorem shl_val {M D : Nat} (h : M * D = 18446744073709551616) : ∀ (xs : List Nat) (cin : Nat), val (shl M D cin xs) + shc D cin xs * pw xs.length = val xs * M + cin
  | [], cin => by simp [shl, shc, val, pw]
  | x :: xs, cin => by
    have ih := shl_val h xs (x / D)
    have hM : 0 < M := by
      rcases Nat.eq_zero_or_pos M with h0 | h0
      · subst h0; simp at h
      · exact h0
    have e : x * M / 18446744073709551616 = x / D := by
      rw [← h, Nat.mul_comm M D, Nat.mul_div_mul_right _ _ hM]
    have e2 := Nat.div_add_mod (x * M) 18446744073709551616
    rw [e] at e2
    rw [shl, shc, val_cons, val_cons, List.length_cons, pw_succ, Nat.add_mul]
    have e3 : shc D (x / D) xs * (18446744073709551616 * pw xs.length) = 18446744073709551616 * (shc D (x / D) xs * pw xs.length) := by rw [Nat.mul_left_comm]
    have e4 : 18446744073709551616 * val xs * M = 18446744073709551616 * (val xs * M) := Nat.mul_assoc _ _ _
    omega

theorem shl_at (M D : Nat) : ∀ (xs : List Nat) (cin j : Nat), j < xs.length → (shl M D cin xs).getD j 0 = xs.getD j 0 * M % 18446744073709551616 + (if j = 0 then cin else xs.getD (j - 1) 0 / D)
  | [], _, j, h => by simp at h
  | x :: xs, cin, 0, _ => by simp [shl]
  | x :: xs, cin, j + 1, h => by
    have ih := shl_at M D xs (x / D) j (by simpa using h)
    rw [shl]
    simp only [List.getD_cons_succ]
    rw [ih]
    cases j with
    | zero => simp
    | succ j => simp

theorem shc_last (D : Nat) : ∀ (xs : List Nat) (cin : Nat), xs ≠ [] → shc D cin xs = xs.getD (xs.length - 1) 0 / D
  | [], _, h => absurd rfl h
  | [x], _, _ => by simp [shc]
  | x :: y :: ys, cin, _ => by
    rw [shc, shc_last D (y :: ys) _ (by simp)]
    simp

theorem shl_words {M D : Nat} (h : M * D = 18446744073709551616) : ∀ (xs : List Nat) (cin : Nat), Words xs → cin < M → Words (shl M D cin xs)
  | [], _, _, _ => Words.nil
  | x :: xs, cin, hw, hc => by
    have hx : x < 18446744073709551616 := hw x (by simp)
    have hD : x / D < M := by
      rw [← h] at hx
      exact Nat.div_lt_of_lt_mul (by rw [Nat.mul_comm]; exact hx)
    have ih := shl_words h xs (x / D) (fun y hy => hw y (by simp [hy])) hD
    have hr : x * M % 18446744073709551616 + cin < 18446744073709551616 := by
      rw [← h, Nat.mul_comm M D, Nat.mul_mod_mul_right]
      have hDp : 0 < D := by
        rcases Nat.eq_zero_or_pos D with h0 | h0
        · subst h0; simp at h
        · exact h0
      have h1 := Nat.mod_lt x hDp
      have h2 : (x % D + 1) * M ≤ D * M := Nat.mul_le_mul_right M h1
      rw [Nat.add_mul] at h2
      omega
    intro y hy
    rw [shl] at hy
    rcases List.mem_cons.1 hy with rfl | hy
    · exact hr
    · exact ih y hy

/-- A row that is written from the top down. -/
theorem top_at {zl : List Value} {fin : List Nat} {n i : Nat} (hn : n ≤ zl.length) (hf : fin.length = n) (hi : i < n) : (zl.take (i + 1) ++ (fin.drop (i + 1)).map U ++ zl.drop n)[i]? = zl[i]? := by
  rw [List.append_assoc, List.getElem?_append_left (by simp; omega)]
  simp [show i < i + 1 by omega]
theorem top_set {zl : List Value} {fin : List Nat} {n i : Nat} (hn : n ≤ zl.length) (hf : fin.length = n) (hi : i < n) :
    (zl.take (i + 1) ++ (fin.drop (i + 1)).map U ++ zl.drop n).set i (U (fin.getD i 0)) = zl.take i ++ (fin.drop i).map U ++ zl.drop n := by
  have h2 : fin.drop i = fin.getD i 0 :: fin.drop (i + 1) := by
    rw [List.drop_eq_getElem_cons (by omega)]; simp [List.getD, show i < fin.length by omega]
  have h3 : zl.take (i + 1) = zl.take i ++ [zl[i]] := by
    rw [List.take_succ_eq_append_getElem (by omega)]
  rw [h2, h3, List.append_assoc, List.append_assoc, List.set_append_right _ _ (by simp; omega), List.length_take, Nat.min_eq_left (by omega), Nat.sub_self]
  simp
theorem top_start {zl : List Value} {fin : List Nat} {n : Nat} (hf : fin.length = n) (h0 : 0 < n) : zl.take (n - 1 + 1) ++ (fin.drop (n - 1 + 1)).map U ++ zl.drop n = zl := by
  rw [show n - 1 + 1 = n by omega, List.drop_of_length_le (by omega)]
  simp

theorem wrap_i64_of {x : Int} (h0 : -9223372036854775808 ≤ x) (h1 : x ≤ 9223372036854775807) : IntKind.i64.wrap x = x := by
  rw [IntKind.wrap_i64]; omega

theorem wrap_mul_3 (X : Nat) : IntKind.u64.wrap ((X : Int) * 8) = ((X * 8 % 18446744073709551616 : Nat) : Int) := by
  have := wrapM (X * 8)
  rwa [Int.natCast_mul] at this

theorem or_3 (X Y : Nat) (hY : Y < 18446744073709551616) : bits .or .u64 (IntKind.u64.wrap ((X : Int) * 8)) ((Y : Int) / 2305843009213693952) = ((X * 8 % 18446744073709551616 + Y / 2305843009213693952 : Nat) : Int) := by
  have e1 : IntKind.u64.wrap ((X : Int) * 8) = ((X * 8 % 18446744073709551616 : Nat) : Int) := wrap_mul_3 X
  have e2 : (Y : Int) / 2305843009213693952 = ((Y / 2305843009213693952 : Nat) : Int) := by omega
  rw [e1, e2, bits_or_u64_nat _ _ (by omega) (by omega)]
  have e3 : X * 8 % 18446744073709551616 = (X % 2305843009213693952) <<< 3 := by rw [Nat.shiftLeft_eq]; omega
  rw [e3, Nat.shiftLeft_add_eq_or_of_lt (by omega : Y / 2305843009213693952 < 2 ^ 3)]

theorem orU_3 (X Y : Nat) (hY : Y < 18446744073709551616) : U (X * 8 % 18446744073709551616 + Y / 2305843009213693952) = .int .u64 (bits .or .u64 (IntKind.u64.wrap ((X : Int) * 8)) ((Y : Int) / 2305843009213693952)) := by
  rw [or_3 X Y hY]

set_option maxHeartbeats 1000000 in
set_option maxRecDepth 100000 in
theorem lshVU_3 (zb zc xb xc n : Nat) (zl : List Value) (xs : List Nat) (w : World) (hn : n ≤ 4096) (h0 : 0 < n) (hxl : xs.length = n) (hxw : Words xs)
    (hz : At w zb 48 zl) (hzn : n ≤ zl.length) (hx : ∀ j, j < n → w.cell? ⟨xb, j, none⟩ = some (U (xs.getD j 0))) (hal : xb ≠ zb) :
    Calls Ybaf.prog 15 #[.slice (some ⟨zb, 0, none⟩) n zc, .slice (some ⟨xb, 0, none⟩) n xc, .int .u64 3] w fun e w' => e = .returned (U (shc 2305843009213693952 0 xs)) ∧
      At w' zb 48 ((shl 8 2305843009213693952 0 xs).map U ++ zl.drop n) ∧ Kept w w' (· = zb) := by
  have hn0 : ((n : Int) == 0) = false := by simp; omega
  have c0 := hx (n - 1) (by omega)
  have b0 : 0 ≤ (n : Int) - 1 := by omega
  have b1 : (n : Int) - 1 < n := by omega
  have a1 : bits .and .u64 3 63 = 3 := by decide
  have a2 : bits .and .u64 61 63 = 61 := by decide
  have hfl := shl_len 8 2305843009213693952 xs 0
  have hcl := shc_last 2305843009213693952 xs 0 (by intro h; subst h; simp at hxl; omega)
  have HCL := hide hcl
  clear hcl
  obtain ⟨T, hT⟩ : ∃ T, T = xs.getD (n - 1) 0 := ⟨_, rfl⟩
  rw [← hT] at c0
  have HT := hide hT
  clear hT
  go_enter Ybaf.func15, Ybaf.ntmps15
  go_wp2_with fail
  go_loopw [8] (fun iv wr => ∃ k : Nat, k < n ∧ iv = .int .i64 k ∧ At wr zb 48 (zl.take (k + 1) ++ ((shl 8 2305843009213693952 0 xs).drop (k + 1)).map U ++ zl.drop n) ∧ Kept w wr (· = zb))
    (fun iv _ => (intOf iv).toNat)
  case atStart => exact ⟨n - 1, by omega, by go_num, by rw [top_start (by omega) h0]; exact hz, Kept.refl _ _⟩
  case round =>
    obtain ⟨k, hk, rfl, hat, hkp⟩ := hrel
    have hfz := hat.frozen k
    obtain ⟨ov, hov⟩ : ∃ ov, wr.cell? ⟨zb, k, none⟩ = some ov := ⟨zl[k], hat.cell (by rw [top_at hzn (by omega) hk]; simp [show k < zl.length by omega])⟩
    have cx := hkp.cell (hx k hk) hal
    by_cases hpos : 0 < k
    · obtain ⟨k, rfl⟩ : ∃ j, k = j + 1 := ⟨k - 1, by omega⟩
      have cy := hkp.cell (hx k (by omega)) hal
      have l1 : (k : Int) + 1 < (n : Int) := by omega
      have l3 : (k : Int) < (n : Int) := by omega
      have l5 : (0 : Int) ≤ (k : Int) + 1 := by omega
      have l4 : IntKind.i64.wrap (k : Int) = (k : Int) := wrap_i64_of (by omega) (by omega)
      have hal' : zb ≠ xb := Ne.symm hal
      have hfk := shl_at 8 2305843009213693952 xs 0 (k + 1) (by omega)
      rw [if_neg (by omega), Nat.add_sub_cancel] at hfk
      have HFK := hide hfk
      clear hfk
      have Y1 := hxw.at k
      generalize xs.getD (k + 1) 0 = X at *
      generalize xs.getD k 0 = Y at *
      go_wp2_with fail
      go_region_held3 (fun w' => w'.cell? ⟨xb, k + 1, none⟩ = some (U X) ∧ w'.cell? ⟨xb, k, none⟩ = some (U Y)) (go_keep) (fail)
      go_wp2_with fail
      go_roundw
      case rel =>
        have hset := hat.set (k + 1) (U ((shl 8 2305843009213693952 0 xs).getD (k + 1) 0))
        rw [top_set hzn (by omega) (by omega)] at hset
        rw [HFK.out, orU_3 X Y Y1] at hset
        exact ⟨k, by omega, rfl, hset, ((hkp.setCell (fun _ => rfl) _).drew)⟩
      case measure => simp [intOf]
    · have e : k = 0 := by omega
      subst e
      have hf0 := shl_at 8 2305843009213693952 xs 0 0 (by omega)
      rw [if_pos rfl, Nat.add_zero] at hf0
      generalize xs.getD 0 0 = X at *
      go_wp2_with fail
      go_ret
      have hset := hat.set 0 (U ((shl 8 2305843009213693952 0 xs).getD 0 0))
      rw [top_set hzn (by omega) (by omega), hf0] at hset
      refine ⟨?_, ?_, hkp.setCell (fun _ => rfl) _⟩
      · rw [HCL.out, hxl, ← HT.out]; go_num
      · rw [wrap_mul_3 X]; rw [List.take_zero, List.nil_append, List.drop_zero] at hset; exact hset

theorem wrap_mul_1 (X : Nat) : IntKind.u64.wrap ((X : Int) * 2) = ((X * 2 % 18446744073709551616 : Nat) : Int) := by
  have := wrapM (X * 2)
  rwa [Int.natCast_mul] at this

theorem or_1 (X Y : Nat) (hY : Y < 18446744073709551616) : bits .or .u64 (IntKind.u64.wrap ((X : Int) * 2)) ((Y : Int) / 9223372036854775808) = ((X * 2 % 18446744073709551616 + Y / 9223372036854775808 : Nat) : Int) := by
  have e1 : IntKind.u64.wrap ((X : Int) * 2) = ((X * 2 % 18446744073709551616 : Nat) : Int) := wrap_mul_1 X
  have e2 : (Y : Int) / 9223372036854775808 = ((Y / 9223372036854775808 : Nat) : Int) := by omega
  rw [e1, e2, bits_or_u64_nat _ _ (by omega) (by omega)]
  have e3 : X * 2 % 18446744073709551616 = (X % 9223372036854775808) <<< 1 := by rw [Nat.shiftLeft_eq]; omega
  rw [e3, Nat.shiftLeft_add_eq_or_of_lt (by omega : Y / 9223372036854775808 < 2 ^ 1)]

theorem orU_1 (X Y : Nat) (hY : Y < 18446744073709551616) : U (X * 2 % 18446744073709551616 + Y / 9223372036854775808) = .int .u64 (bits .or .u64 (IntKind.u64.wrap ((X : Int) * 2)) ((Y : Int) / 9223372036854775808)) := by
  rw [or_1 X Y hY]

set_option maxHeartbeats 1000000 in
set_option maxRecDepth 100000 in
theorem lshVU_1 (zb zc xb xc n : Nat) (zl : List Value) (xs : List Nat) (w : World) (hn : n ≤ 4096) (h0 : 0 < n) (hxl : xs.length = n) (hxw : Words xs)
    (hz : At w zb 48 zl) (hzn : n ≤ zl.length) (hx : ∀ j, j < n → w.cell? ⟨xb, j, none⟩ = some (U (xs.getD j 0))) (hal : xb ≠ zb) :
    Calls Ybaf.prog 15 #[.slice (some ⟨zb, 0, none⟩) n zc, .slice (some ⟨xb, 0, none⟩) n xc, .int .u64 1] w fun e w' => e = .returned (U (shc 9223372036854775808 0 xs)) ∧
      At w' zb 48 ((shl 2 9223372036854775808 0 xs).map U ++ zl.drop n) ∧ Kept w w' (· = zb) := by
  have hn0 : ((n : Int) == 0) = false := by simp; omega
  have c0 := hx (n - 1) (by omega)
  have b0 : 0 ≤ (n : Int) - 1 := by omega
  have b1 : (n : Int) - 1 < n := by omega
  have a1 : bits .and .u64 1 63 = 1 := by decide
  have a2 : bits .and .u64 63 63 = 63 := by decide
  have hfl := shl_len 2 9223372036854775808 xs 0
  have hcl := shc_last 9223372036854775808 xs 0 (by intro h; subst h; simp at hxl; omega)
  have HCL := hide hcl
  clear hcl
  obtain ⟨T, hT⟩ : ∃ T, T = xs.getD (n - 1) 0 := ⟨_, rfl⟩
  rw [← hT] at c0
  have HT := hide hT
  clear hT
  go_enter Ybaf.func15, Ybaf.ntmps15
  go_wp2_with fail
  go_loopw [8] (fun iv wr => ∃ k : Nat, k < n ∧ iv = .int .i64 k ∧ At wr zb 48 (zl.take (k + 1) ++ ((shl 2 9223372036854775808 0 xs).drop (k + 1)).map U ++ zl.drop n) ∧ Kept w wr (· = zb))
    (fun iv _ => (intOf iv).toNat)
  case atStart => exact ⟨n - 1, by omega, by go_num, by rw [top_start (by omega) h0]; exact hz, Kept.refl _ _⟩
  case round =>
    obtain ⟨k, hk, rfl, hat, hkp⟩ := hrel
    have hfz := hat.frozen k
    obtain ⟨ov, hov⟩ : ∃ ov, wr.cell? ⟨zb, k, none⟩ = some ov := ⟨zl[k], hat.cell (by rw [top_at hzn (by omega) hk]; simp [show k < zl.length by omega])⟩
    have cx := hkp.cell (hx k hk) hal
    by_cases hpos : 0 < k
    · obtain ⟨k, rfl⟩ : ∃ j, k = j + 1 := ⟨k - 1, by omega⟩
      have cy := hkp.cell (hx k (by omega)) hal
      have l1 : (k : Int) + 1 < (n : Int) := by omega
      have l3 : (k : Int) < (n : Int) := by omega
      have l5 : (0 : Int) ≤ (k : Int) + 1 := by omega
      have l4 : IntKind.i64.wrap (k : Int) = (k : Int) := wrap_i64_of (by omega) (by omega)
      have hal' : zb ≠ xb := Ne.symm hal
      have hfk := shl_at 2 9223372036854775808 xs 0 (k + 1) (by omega)
      rw [if_neg (by omega), Nat.add_sub_cancel] at hfk
      have HFK := hide hfk
      clear hfk
      have Y1 := hxw.at k
      generalize xs.getD (k + 1) 0 = X at *
      generalize xs.getD k 0 = Y at *
      go_wp2_with fail
      go_region_held3 (fun w' => w'.cell? ⟨xb, k + 1, none⟩ = some (U X) ∧ w'.cell? ⟨xb, k, none⟩ = some (U Y)) (go_keep) (fail)
      go_wp2_with fail
      go_roundw
      case rel =>
        have hset := hat.set (k + 1) (U ((shl 2 9223372036854775808 0 xs).getD (k + 1) 0))
        rw [top_set hzn (by omega) (by omega)] at hset
        rw [HFK.out, orU_1 X Y Y1] at hset
        exact ⟨k, by omega, rfl, hset, ((hkp.setCell (fun _ => rfl) _).drew)⟩
      case measure => simp [intOf]
    · have e : k = 0 := by omega
      subst e
      have hf0 := shl_at 2 9223372036854775808 xs 0 0 (by omega)
      rw [if_pos rfl, Nat.add_zero] at hf0
      generalize xs.getD 0 0 = X at *
      go_wp2_with fail
      go_ret
      have hset := hat.set 0 (U ((shl 2 9223372036854775808 0 xs).getD 0 0))
      rw [top_set hzn (by omega) (by omega), hf0] at hset
      refine ⟨?_, ?_, hkp.setCell (fun _ => rfl) _⟩
      · rw [HCL.out, hxl, ← HT.out]; go_num
      · rw [wrap_mul_1 X]; rw [List.take_zero, List.nil_append, List.drop_zero] at hset; exact hset

end Go.Proofs.YbulkdgsoFmt.M
