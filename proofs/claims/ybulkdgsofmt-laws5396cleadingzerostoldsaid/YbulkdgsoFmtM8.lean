/-
  nat.mulAddWW; nat.cmp at equal nats.
-/
import Derived.Test.YbulkdgsoFmtM7
namespace Go.Proofs.YbulkdgsoFmt.M
open Go.RowKit

set_option maxHeartbeats 400000 in
set_option maxRecDepth 100000 in
theorem mulAddWW_0 (z : Value) (xa : Option Addr) (xc B y r : Nat) (w : World) (hz : Place w B z) (hr : r < 18446744073709551616) (hB : B ≤ w.heap.size) :
    Calls Ybaf.prog 53 #[z, .slice xa 0 xc, U y, U r] w fun e w' => ∃ v ws, e = .returned v ∧ Res w w' B z v ws r := by
  go_enter Ybaf.func53, Ybaf.ntmps53
  go_wp2_with fail
  refine (setWord_any z B r w hz hr hB).mono ?_
  rintro e w1 ⟨v, ws, rfl, q⟩
  go_wp2_with fail
  go_ret
  exact ⟨v, ws, rfl, q⟩

set_option maxHeartbeats 1000000 in
set_option maxRecDepth 100000 in
theorem mulAddWW_pos (z : Value) (xg xc m B y r : Nat) (xl : List Value) (xs : List Nat) (w : World) (hz : Place w B z) (hr : r < 18446744073709551616) (hy : y < 18446744073709551616) (hy0 : 0 < y) (hB : B ≤ w.heap.size) (hm0 : 0 < m) (hm : m ≤ 4000) (hxl : xs.length = m) (hxw : Words xs) (hxa : At w xg 48 xl) (hxt : xl.take m = xs.map U) :
    Calls Ybaf.prog 53 #[z, .slice (some ⟨xg, 0, none⟩) m xc, U y, U r] w fun e w' => ∃ v ws, e = .returned v ∧ Res w w' B z v ws (val xs * y + r) := by
  have hb0 : ((m : Int) == 0) = false := by simp; omega
  have hb1 : ((y : Int) == 0) = false := by simp; omega
  go_enter Ybaf.func53, Ybaf.ntmps53
  go_wp2_with fail
  rw [show ((m : Int) + 1) = ((m + 1 : Nat) : Int) from by omega]
  refine (make_any z (m + 1) B w hz (by omega) (by omega) hB).mono ?_
  rintro e w1 ⟨g, c, l, rfl, r1, r2, r3, r4, r5, r6, r7⟩
  have i1 : (m : Int) ≤ (c : Int) := by omega
  have xa1 := hxa.kept r6 (fun h => h)
  have cxs := take_cells xa1 hxl hxt
  have CXS := hide cxs
  clear cxs
  go_wp2_with fail
  refine (mulAddVWW_any g 0 c xg 0 xc m y r l xs w1 (by omega) hxl hxw hy hr r2 (by omega) CXS.out (fun _ => rfl)).mono ?_
  rintro e w2 ⟨R, cc, rfl, hcw, hln, hwr, hvl, q1, q2⟩
  have hkz : Kept w w2 (blk z) := (r6.mono (fun _ _ h => h.elim)).trans q2 (fun j hj e => by
    subst e
    rcases r7 with h | h
    · exact h
    · omega)
  rw [List.take_zero, List.nil_append, Nat.zero_add] at q1
  have HVL := hide hvl
  clear hvl
  obtain ⟨p1, p2, p3, p4⟩ := add_tail (z := z) q1 (by omega) hln hwr hcw r3 r4 hkz r7
  obtain ⟨ov, hov⟩ := p1
  have t1 : Hid (((R ++ [cc]).map U ++ l.drop (m + 1)).length = c) := by show _ = _; simp; omega
  have t2 : Hid ((R ++ [cc]).length = m + 1) := by show _ = _; simp; omega
  have t3 : Hid (((R ++ [cc]).map U ++ l.drop (m + 1)).take (m + 1) = (R ++ [cc]).map U) := List.take_left' (by simp; omega)
  have P3 := hide p3
  have P4 := hide p4
  clear p3 p4 q1
  go_wp2_with fail
  refine (norm_row g (m + 1) c B (R ++ [cc]) _ _ r1 P3.out t1.out r5 t2.out r4 t3.out (by omega) (hwr.snoc hcw)).mono ?_
  rintro e w3 ⟨ws', rfl, s1, s2, s3, s4, rfl⟩
  go_wp2_with fail
  go_ret
  refine ⟨_, ws', rfl, s1, s2, s3, ?_, P4.out, fun j hj => by obtain rfl := blk_slice.1 hj; exact r7⟩
  rw [s4, val_snoc, hln, Nat.mul_comm]
  exact HVL.out

/-- z.mulAddWW(x, y, r), y not 0. -/
theorem mulAddWW_any (z x : Value) (B Bx y r : Nat) (xs : List Nat) (w : World) (hz : Place w B z) (hx : Row w Bx x xs) (hxw : Words xs) (hr : r < 18446744073709551616) (hy : y < 18446744073709551616) (hy0 : 0 < y) (hB : B ≤ w.heap.size) (hm : xs.length ≤ 4000) :
    Calls Ybaf.prog 53 #[z, x, U y, U r] w fun e w' => ∃ v ws, e = .returned v ∧ Res w w' B z v ws (val xs * y + r) := by
  by_cases h0 : xs = []
  · subst h0
    obtain ⟨xa, xc, rfl, _, _⟩ := hx.form
    have := mulAddWW_0 z xa xc B y r w hz hr hB
    simpa [val] using this
  · rcases hx with ⟨_, h⟩ | ⟨xg, m, xc, xl, rfl, x1, x2, x3, x4, x5, x6, x7⟩
    · exact absurd h h0
    have : 0 < xs.length := List.length_pos_iff.2 h0
    exact mulAddWW_pos z xg xc m B y r xl xs w hz hr hy hy0 hB (by omega) (by omega) x6 hxw x2 x7

set_option maxHeartbeats 400000 in
set_option maxRecDepth 100000 in
theorem cmp_0 (xa ya : Option Addr) (xc yc : Nat) (w : World) :
    Calls Ybaf.prog 19 #[.slice xa 0 xc, .slice ya 0 yc] w fun e w' => e = .returned (.int .i64 0) ∧ ∃ q, w' = w.drewN q := by
  go_enter Ybaf.func19, Ybaf.ntmps19
  go_wp2_with fail
  go_ret
  exact ⟨rfl, 0, rfl⟩

set_option maxHeartbeats 1000000 in
set_option maxRecDepth 100000 in
theorem cmp_pos (xg yg xc yc n : Nat) (ws : List Nat) (w : World) (h0 : 0 < n) (hn : n ≤ 4096) (hx : ∀ j, j < n → w.cell? ⟨xg, 0 + j, none⟩ = some (U (ws.getD j 0))) (hy : ∀ j, j < n → w.cell? ⟨yg, 0 + j, none⟩ = some (U (ws.getD j 0))) :
    Calls Ybaf.prog 19 #[.slice (some ⟨xg, 0, none⟩) n xc, .slice (some ⟨yg, 0, none⟩) n yc] w fun e w' => e = .returned (.int .i64 0) ∧ ∃ q, w' = w.drewN q := by
  simp only [Nat.zero_add] at hx hy
  have hb0 : ((n : Int) == 0) = false := by simp; omega
  go_enter Ybaf.func19, Ybaf.ntmps19
  go_wp2_with fail
  go_loopw [7] (fun iv wr => ∃ k : Nat, k < n ∧ iv = .int .i64 k ∧ ∃ q, wr = w.drewN q) (fun iv _ => (intOf iv).toNat)
  case atStart => exact ⟨n - 1, by omega, by go_num, 0, rfl⟩
  case round =>
    obtain ⟨k, hk, rfl, q, rfl⟩ := hrel
    have cx : (w.drewN q).cell? ⟨xg, k, none⟩ = some (U (ws.getD k 0)) := hx k hk
    have cy : (w.drewN q).cell? ⟨yg, k, none⟩ = some (U (ws.getD k 0)) := hy k hk
    have l1 : (k : Int) < (n : Int) := by omega
    generalize ws.getD k 0 = X at cx cy
    by_cases h : 0 < k
    · have hd : decide ((0 : Int) < (k : Int)) = true := by simp; omega
      go_wp2_with fail
      go_quiet (fail)
      go_wp2_with fail
      go_roundw
      case rel => exact ⟨k - 1, by omega, by go_num, _, rfl⟩
      case measure => simp [intOf]; omega
    · have e : k = 0 := by omega
      subst e
      have hd : decide ((0 : Int) < ((0 : Nat) : Int)) = false := by simp
      go_wp2_with fail
      go_quiet (fail)
      go_wp2_with fail
      go_quiet (fail)
      go_wp2_with fail
      go_quiet (fail)
      go_wp2_with fail
      go_ret
      refine ⟨rfl, ?_⟩
      simp only [World.drewN_drewN]
      exact ⟨_, rfl⟩

/-- Two nats of the same words. -/
theorem cmp_any (x y : Value) (Bx By : Nat) (ws : List Nat) (w : World) (hx : Row w Bx x ws) (hy : Row w By y ws) (hn : ws.length ≤ 4096) :
    Calls Ybaf.prog 19 #[x, y] w fun e w' => e = .returned (.int .i64 0) ∧ ∃ q, w' = w.drewN q := by
  by_cases h0 : ws = []
  · subst h0
    obtain ⟨xa, xc, rfl, _, _⟩ := hx.form
    obtain ⟨ya, yc, rfl, _, _⟩ := hy.form
    exact cmp_0 xa ya xc yc w
  · obtain ⟨xg, xc, rfl, _, _⟩ := hx.some h0
    obtain ⟨yg, yc, rfl, _, _⟩ := hy.some h0
    exact cmp_pos xg yg xc yc ws.length ws w (List.length_pos_iff.2 h0) hn hx.cells hy.cells
end Go.Proofs.YbulkdgsoFmt.M
