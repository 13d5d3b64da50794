/-
  nat: make, norm, setWord, setUint64, set.
-/
import Derived.Test.YbulkdgsoFmtM3
namespace Go.Proofs.YbulkdgsoFmt.M
open Go.RowKit

theorem info48 : (Ybaf.prog.info? 48).map (fun i => (i.zero, i.size, i.bytes)) = some (some (.int .u64 0), 1, 8) := by kernel_rfl

/-- A new row of c words. -/
theorem makes (n c : Nat) (hn : n ≤ c) (hc : c ≤ 8192) : ∃ L : List Value, L.length = c ∧ ∀ w : World, (Instr.makeSlice 32 (.int .i64 (n : Int)) (.int .i64 (c : Int))).run Ybaf.prog w = .ok (.slice (some ⟨w.heap.size, 0, none⟩) n c) (w.alloc (.cells L.toArray 48)) := by
  obtain ⟨i0, hi, hz0, hz1, hz2⟩ := info_parts info48
  refine ⟨(madeCells (Value.cells (.int .u64 0)) (c * i0.size)).toList, by rw [Array.length_toList, size_madeCells, hz1]; omega, fun w => ?_⟩
  have := run_make (P := Ybaf.prog) w 32 48 i0 (.int .u64 0) Ybaf.underlying32 hi hz0 .i64 .i64 (n : Int) (c : Int) (by omega) (by omega) (by rw [hz2]; omega) (by omega)
  rw [this]
  simp

/-- Where a nat may be laid: nil, or a row of the call's own. -/
def Place (w : World) (B : Nat) (v : Value) : Prop :=
  v = .slice none 0 0 ∨ ∃ g n c l, v = .slice (some ⟨g, 0, none⟩) n c ∧ B ≤ g ∧ At w g 48 l ∧ l.length = c ∧ c ≤ maxLen ∧ n ≤ c
theorem Row.place {w : World} {B : Nat} {v : Value} {ws : List Nat} (h : Row w B v ws) : Place w B v := by
  rcases h with ⟨rfl, _⟩ | ⟨g, n, c, l, rfl, h1, h2, h3, h4, h5, _⟩
  · exact .inl rfl
  · exact .inr ⟨g, n, c, l, rfl, h1, h2, h3, h4, h5⟩

set_option maxHeartbeats 400000 in
set_option maxRecDepth 100000 in
theorem make_new (ao : Option Addr) (m c n : Nat) (w : World) (h : c < n) (hn : n ≤ 4096) :
    Calls Ybaf.prog 32 #[.slice ao m c, .int .i64 n] w fun e w' => ∃ c' l, e = .returned (.slice (some ⟨w.heap.size, 0, none⟩) n c') ∧ At w' w.heap.size 48 l ∧ l.length = c' ∧ n ≤ c' ∧ c' ≤ maxLen ∧ Kept w w' (fun _ => False) := by
  by_cases h1 : n = 1
  · subst h1
    obtain ⟨L, hL, hmk0⟩ := makes 1 1 (by omega) (by omega)
    have hmk : ∀ w : World, (Instr.makeSlice 32 (.int .i64 1) (.int .i64 1)).run Ybaf.prog w = .ok (.slice (some ⟨w.heap.size, 0, none⟩) 1 1) (w.alloc (.cells L.toArray 48)) := hmk0
    clear hmk0
    go_enter Ybaf.func32, Ybaf.ntmps32
    go_wp2
    go_ret
    exact ⟨1, L, rfl, At.new w 48 L, hL, by omega, by unfold maxLen; omega, (Kept.refl w _).alloc _⟩
  · have hb : ((n : Int) == 1) = false := by simp; omega
    obtain ⟨L, hL, hmk⟩ := makes n (n + 4) (by omega) (by omega)
    rw [show (((n + 4 : Nat) : Int)) = (n : Int) + 4 from by omega] at hmk
    go_enter Ybaf.func32, Ybaf.ntmps32
    go_wp2
    go_ret
    exact ⟨n + 4, L, rfl, At.new w 48 L, hL, by omega, by unfold maxLen; omega, (Kept.refl w _).alloc _⟩

set_option maxHeartbeats 400000 in
set_option maxRecDepth 100000 in
theorem make_old (g m c n : Nat) (w : World) (h : n ≤ c) :
    Calls Ybaf.prog 32 #[.slice (some ⟨g, 0, none⟩) m c, .int .i64 n] w fun e w' => e = .returned (.slice (some ⟨g, 0, none⟩) n c) ∧ w' = w := by
  go_enter Ybaf.func32, Ybaf.ntmps32
  go_wp2
  go_ret
  exact ⟨rfl, rfl⟩

/-- make(n), n > 0: a row of n words or more: z's own, or a new one. -/
theorem make_any (z : Value) (n B : Nat) (w : World) (hz : Place w B z) (h0 : 0 < n) (hn : n ≤ 4096) (hB : B ≤ w.heap.size) :
    Calls Ybaf.prog 32 #[z, .int .i64 n] w fun e w' => ∃ g c l, e = .returned (.slice (some ⟨g, 0, none⟩) n c) ∧ B ≤ g ∧ At w' g 48 l ∧ l.length = c ∧ n ≤ c ∧ c ≤ maxLen ∧ Kept w w' (fun _ => False) ∧ (blk z g ∨ w.heap.size ≤ g) := by
  rcases hz with rfl | ⟨g, m, c, l, rfl, h1, h2, h3, h4, h5⟩
  · refine (make_new none 0 0 n w h0 hn).mono ?_
    rintro e w' ⟨c', l, rfl, r1, r2, r3, r4, r5⟩
    exact ⟨_, c', l, rfl, hB, r1, r2, r3, r4, r5, .inr (Nat.le_refl _)⟩
  · by_cases hc : n ≤ c
    · refine (make_old g m c n w hc).mono ?_
      rintro e w' ⟨rfl, rfl⟩
      exact ⟨g, c, l, rfl, h1, h2, h3, hc, h4, Kept.refl _ _, .inl (blk_slice.2 rfl)⟩
    · refine (make_new _ m c n w (by omega) hn).mono ?_
      rintro e w' ⟨c', l, rfl, r1, r2, r3, r4, r5⟩
      exact ⟨_, c', l, rfl, hB, r1, r2, r3, r4, r5, .inr (Nat.le_refl _)⟩

set_option maxHeartbeats 1000000 in
set_option maxRecDepth 100000 in
theorem norm_any (g n c : Nat) (ws : List Nat) (w : World) (hl : ws.length = n) (hn : n ≤ 4096) (hc : n ≤ c) (hx : ∀ j, j < n → w.cell? ⟨g, j, none⟩ = some (U (ws.getD j 0))) :
    Calls Ybaf.prog 38 #[.slice (some ⟨g, 0, none⟩) n c] w fun e w' => ∃ k, e = .returned (.slice (some ⟨g, 0, none⟩) k c) ∧ k ≤ n ∧ (∀ j, k ≤ j → j < n → ws.getD j 0 = 0) ∧ (k = 0 ∨ ws.getD (k - 1) 0 ≠ 0) ∧ w' = w := by
  go_enter Ybaf.func38, Ybaf.ntmps38
  go_wp2_with fail
  go_loop [3] (fun iv => ∃ k : Nat, k ≤ n ∧ iv = .int .i64 k ∧ ∀ j, k ≤ j → j < n → ws.getD j 0 = 0) (fun iv => (intOf iv).toNat)
  case atStart => exact ⟨n, Nat.le_refl _, rfl, fun j h1 h2 => by omega⟩
  case round =>
    obtain ⟨k, hk, rfl, hzr⟩ := hrel
    have HZ := hide hzr
    clear hzr
    by_cases h0 : k = 0
    · subst h0
      go_wp2_with fail
      go_ret
      exact ⟨0, rfl, by omega, HZ.out, .inl rfl, rfl⟩
    · obtain ⟨k, rfl⟩ : ∃ j, k = j + 1 := ⟨k - 1, by omega⟩
      have cx := hx k (by omega)
      have l1 : (k : Int) < (n : Int) := by omega
      have l5 : (0 : Int) < (k : Int) + 1 := by omega
      obtain ⟨X, hX⟩ : ∃ X, X = ws.getD k 0 := ⟨_, rfl⟩
      rw [← hX] at cx
      have HX := hide hX
      clear hX
      by_cases h1 : X = 0
      · subst h1
        go_wp2_with fail
        go_round
        case rel => exact ⟨k, by omega, by go_num, fun j h2 h3 => by
          by_cases e : j = k
          · subst e; exact HX.out.symm
          · exact HZ.out j (by omega) h3⟩
        case measure => simp [intOf]
      · have h2 : ((X : Int) == 0) = false := by simp; omega
        go_wp2_with fail
        go_ret
        exact ⟨k + 1, rfl, by omega, HZ.out, .inr (by rw [Nat.add_sub_cancel]; intro h; exact h1 (HX.out.trans h)), rfl⟩

theorem Row.mk {w : World} {B g n c : Nat} {l : List Value} {ws : List Nat} (hB : B ≤ g) (hat : At w g 48 l) (hl : l.length = c) (hc : c ≤ maxLen) (hn : ws.length = n) (hnc : n ≤ c) (ht : l.take n = ws.map U) : Row w B (.slice (some ⟨g, 0, none⟩) n c) ws :=
  .inr ⟨g, n, c, l, rfl, hB, hat, hl, hc, hnc, hn, ht⟩

/-- What a function of nats leaves: the nat of N, in z's row or in a new one; all else is kept. -/
structure Res (w w' : World) (B : Nat) (z v : Value) (ws : List Nat) (N : Nat) : Prop where
  row : Row w' B v ws
  words : Words ws
  norm : Norm ws
  val : val ws = N
  kept : Kept w w' (blk z)
  lies : ∀ j, blk v j → blk z j ∨ w.heap.size ≤ j

/-- norm, over a row whose first n words are known. -/
theorem norm_row (g n c B : Nat) (ws : List Nat) (l : List Value) (w : World) (hB : B ≤ g) (hat : At w g 48 l) (hl : l.length = c) (hc : c ≤ maxLen) (hn : ws.length = n) (hnc : n ≤ c) (ht : l.take n = ws.map U) (h4 : n ≤ 4096) (hw : Words ws) :
    Calls Ybaf.prog 38 #[.slice (some ⟨g, 0, none⟩) n c] w fun e w' => ∃ ws', e = .returned (.slice (some ⟨g, 0, none⟩) ws'.length c) ∧ Row w B (.slice (some ⟨g, 0, none⟩) ws'.length c) ws' ∧ Words ws' ∧ Norm ws' ∧ val ws' = val ws ∧ w' = w := by
  refine (norm_any g n c ws w hn h4 hnc (fun j hj => hat.cell ?_)).mono ?_
  · have e : (l.take n)[j]? = l[j]? := by simp [hj]
    rw [← e, ht]
    simp [List.getD, show j < ws.length by omega]
  · rintro e w' ⟨k, rfl, hk, h1, h2, rfl⟩
    have e : (ws.take k).length = k := by simp; omega
    refine ⟨ws.take k, by rw [e], ?_, hw.take k, norm_take ws k (by omega) h2, val_take_zeros ws k (by rw [hn]; exact h1), rfl⟩
    rw [e]
    refine Row.mk hB hat hl hc e (by omega) ?_
    rw [List.map_take, ← ht, List.take_take]
    congr 1
    omega

theorem norm_one {x : Nat} (h : x ≠ 0) : Norm [x] := .inr (by simpa using h)

set_option maxHeartbeats 400000 in
set_option maxRecDepth 100000 in
theorem setWord_0 (z : Value) (B : Nat) (w : World) (hz : Place w B z) :
    Calls Ybaf.prog 31 #[z, .int .u64 0] w fun e w' => ∃ v ws, e = .returned v ∧ Res w w' B z v ws 0 := by
  rcases hz with rfl | ⟨g, m, c, l, rfl, h1, h2, h3, h4, h5⟩
  · go_enter Ybaf.func31, Ybaf.ntmps31
    go_wp2_with fail
    go_ret
    exact ⟨_, [], rfl, Row.nil _ _, Words.nil, .inl rfl, rfl, Kept.refl _ _, fun j hj => absurd hj blk_nil⟩
  · go_enter Ybaf.func31, Ybaf.ntmps31
    go_wp2_with fail
    go_ret
    exact ⟨_, [], rfl, Row.mk h1 h2 h3 h4 rfl (by omega) (by simp), Words.nil, .inl rfl, rfl, Kept.refl _ _, fun j hj => .inl (blk_slice.2 (blk_slice.1 hj))⟩

set_option maxHeartbeats 400000 in
set_option maxRecDepth 100000 in
theorem setWord_pos (z : Value) (B x : Nat) (w : World) (hz : Place w B z) (hx : x < 18446744073709551616) (h0 : 0 < x) (hB : B ≤ w.heap.size) :
    Calls Ybaf.prog 31 #[z, .int .u64 x] w fun e w' => ∃ v ws, e = .returned v ∧ Res w w' B z v ws x := by
  have hx0 : ((x : Int) == 0) = false := by simp; omega
  go_enter Ybaf.func31, Ybaf.ntmps31
  go_wp2_with fail
  refine (make_any z 1 B w hz (by omega) (by omega) hB).mono ?_
  rintro e w1 ⟨g, c, l, rfl, r1, r2, r3, r4, r5, r6, r7⟩
  obtain ⟨ov, hov⟩ : ∃ ov, w1.cell? ⟨g, 0, none⟩ = some ov := ⟨l[0], r2.cell (by simp [show 0 < l.length by omega])⟩
  have hfz := r2.frozen 0
  go_wp2_with fail
  go_ret
  refine ⟨_, [x], rfl, Row.mk r1 (r2.set 0 (U x)) (by simpa using r3) r5 rfl r4 ?_, fun y hy => by simp at hy; omega, norm_one (by omega), by simp [val], ?_, ?_⟩
  · match l, r3 with
    | [], h => simp at h; omega
    | a :: l, _ => simp
  · refine (r6.mono (fun _ _ h => h.elim)).setCell (fun hlt => ?_) _
    rcases r7 with h | h
    · exact h
    · simp at hlt; omega
  · intro j hj
    obtain rfl := blk_slice.1 hj
    exact r7

theorem setWord_any (z : Value) (B x : Nat) (w : World) (hz : Place w B z) (hx : x < 18446744073709551616) (hB : B ≤ w.heap.size) :
    Calls Ybaf.prog 31 #[z, .int .u64 x] w fun e w' => ∃ v ws, e = .returned v ∧ Res w w' B z v ws x := by
  by_cases h : x = 0
  · subst h; exact setWord_0 z B w hz
  · exact setWord_pos z B x w hz hx (by omega) hB

set_option maxHeartbeats 400000 in
set_option maxRecDepth 100000 in
theorem setUint64_any (z : Value) (B x : Nat) (w : World) (hz : Place w B z) (hx : x < 18446744073709551616) (hB : B ≤ w.heap.size) :
    Calls Ybaf.prog 23 #[z, .int .u64 x] w fun e w' => ∃ v ws, e = .returned v ∧ Res w w' B z v ws x := by
  go_enter Ybaf.func23, Ybaf.ntmps23
  go_wp2_with fail
  refine (setWord_any z B x w hz hx hB).mono ?_
  rintro e w1 ⟨v, ws, rfl, r⟩
  go_wp2_with fail
  go_ret
  exact ⟨v, ws, rfl, r⟩
end Go.Proofs.YbulkdgsoFmt.M
