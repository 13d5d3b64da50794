/-
  nat.add whole; nat.lsh; nat.mulAddWW; nat.cmp at equal nats.
-/
import Derived.Test.YbulkdgsoFmtM6
namespace Go.Proofs.YbulkdgsoFmt.M
open Go.RowKit

/-- z[:0]. -/
theorem Place.cut0 {w : World} {B : Nat} {z : Value} (h : Place w B z) : ∃ ao m c, z = .slice ao m c ∧ Row w B (.slice ao 0 c) [] ∧ ∀ j, blk (.slice ao 0 c) j → blk z j := by
  rcases h with rfl | ⟨g, m, c, l, rfl, h1, h2, h3, h4, h5⟩
  · exact ⟨none, 0, 0, rfl, Row.nil _ _, fun j hj => absurd hj blk_nil⟩
  · exact ⟨_, m, c, rfl, Row.mk h1 h2 h3 h4 rfl (by omega) (by simp), fun j hj => blk_slice.2 (blk_slice.1 hj)⟩

set_option maxHeartbeats 400000 in
set_option maxRecDepth 100000 in
theorem add_00 (z : Value) (B xc yc : Nat) (xa ya : Option Addr) (w : World) (hz : Place w B z) :
    Calls Ybaf.prog 28 #[z, .slice xa 0 xc, .slice ya 0 yc] w fun e w' => ∃ v ws, e = .returned v ∧ Res w w' B z v ws 0 := by
  obtain ⟨ao, m, c, rfl, hr, hb⟩ := hz.cut0
  rcases hz with hz | ⟨g, m, c, l, hz, h1, h2, h3, h4, h5⟩
  · simp only [Value.slice.injEq] at hz
    obtain ⟨rfl, rfl, rfl⟩ := hz
    go_enter Ybaf.func28, Ybaf.ntmps28
    go_wp2_with fail
    go_ret
    exact ⟨_, [], rfl, hr, Words.nil, .inl rfl, rfl, Kept.refl _ _, fun j hj => .inl (hb j hj)⟩
  · simp only [Value.slice.injEq] at hz
    obtain ⟨rfl, rfl, rfl⟩ := hz
    go_enter Ybaf.func28, Ybaf.ntmps28
    go_wp2_with fail
    go_ret
    exact ⟨_, [], rfl, hr, Words.nil, .inl rfl, rfl, Kept.refl _ _, fun j hj => .inl (hb j hj)⟩

set_option maxHeartbeats 400000 in
set_option maxRecDepth 100000 in
theorem add_x0 (z x : Value) (B Bx yc : Nat) (ya : Option Addr) (xs : List Nat) (w : World) (hz : Place w B z) (hx : Row w Bx x xs) (h0 : xs ≠ []) (hw : Words xs) (hn : Norm xs) (h4 : xs.length ≤ 4000) (hB : B ≤ w.heap.size) :
    Calls Ybaf.prog 28 #[z, x, .slice ya 0 yc] w fun e w' => ∃ v ws, e = .returned v ∧ Res w w' B z v ws (val xs) := by
  obtain ⟨xg, xc, rfl, hxc, hxm⟩ := hx.some h0
  have hpos : 0 < xs.length := List.length_pos_iff.2 h0
  have hm0 : ((xs.length : Int) == 0) = false := by simp; omega
  have hlt : decide ((xs.length : Int) < 0) = false := by simp
  go_enter Ybaf.func28, Ybaf.ntmps28
  go_wp2_with fail
  refine (set_any z _ B Bx xs w hz hx h0 hw hn (by omega) hB).mono ?_
  rintro e w1 ⟨v, ws, rfl, r⟩
  go_wp2_with fail
  go_ret
  exact ⟨v, ws, rfl, r⟩

/-- x at least as long as y. -/
theorem add_any (z x y : Value) (B Bx By : Nat) (xs ys : List Nat) (w : World) (hz : Place w B z) (hx : Row w Bx x xs) (hy : Row w By y ys) (hxw : Words xs) (hyw : Words ys) (hxn : Norm xs) (hle : ys.length ≤ xs.length) (h4 : xs.length ≤ 4000) (hB : B ≤ w.heap.size)
    (hap : ys ≠ [] → ∀ j, blk y j → ¬ blk z j) :
    Calls Ybaf.prog 28 #[z, x, y] w fun e w' => ∃ v ws, e = .returned v ∧ Res w w' B z v ws (val xs + val ys) := by
  by_cases hy0 : ys = []
  · subst hy0
    obtain ⟨ya, yc, rfl, _, _⟩ := hy.form
    by_cases hx0 : xs = []
    · subst hx0
      obtain ⟨xa, xc, rfl, _, _⟩ := hx.form
      exact add_00 z B xc yc xa ya w hz
    · have := add_x0 z x B Bx yc ya xs w hz hx hx0 hxw hxn h4 hB
      simpa [val] using this
  · rcases hy with ⟨_, h⟩ | ⟨yg, n, yc, yl, rfl, y1, y2, y3, y4, y5, y6, y7⟩
    · exact absurd h hy0
    have hyl : 0 < ys.length := List.length_pos_iff.2 hy0
    rcases hx with ⟨_, h⟩ | ⟨xg, m, xc, xl, rfl, x1, x2, x3, x4, x5, x6, x7⟩
    · subst h; rw [List.length_nil] at hle; omega
    exact add_ge z B xg xc yg yc m n xl yl xs ys w hz hB (by omega) (by omega) (by omega) x6 y6 hxw hyw x2 x5 x7 y2 y5 y7 (hap hy0 yg (blk_slice.2 rfl))

set_option maxHeartbeats 400000 in
set_option maxRecDepth 100000 in
/-- x is nothing, y is something: the call turns the two round. -/
theorem add_0y (z y : Value) (B By xc : Nat) (xa : Option Addr) (ys : List Nat) (w : World) (hz : Place w B z) (hy : Row w By y ys) (h0 : ys ≠ []) (hw : Words ys) (hn : Norm ys) (h4 : ys.length ≤ 4000) (hB : B ≤ w.heap.size) :
    Calls Ybaf.prog 28 #[z, .slice xa 0 xc, y] w fun e w' => ∃ v ws, e = .returned v ∧ Res w w' B z v ws (val ys) := by
  obtain ⟨yg, yc, rfl, hyc, hym⟩ := hy.some h0
  have hpos : 0 < ys.length := List.length_pos_iff.2 h0
  have hlt : decide ((0 : Int) < (ys.length : Int)) = true := by simp; omega
  go_enter Ybaf.func28, Ybaf.ntmps28
  go_wp2_with fail
  refine (add_x0 z _ B By xc xa ys w hz hy h0 hw hn h4 hB).mono ?_
  rintro e w1 ⟨v, ws, rfl, r⟩
  go_wp2_with fail
  go_ret
  exact ⟨v, ws, rfl, r⟩

set_option maxHeartbeats 400000 in
set_option maxRecDepth 100000 in
theorem lsh_0 (xa : Option Addr) (xc : Nat) (B : Nat) (s : Int) (hs : (s == 0) = false) (w : World) :
    Calls Ybaf.prog 27 #[.slice none 0 0, .slice xa 0 xc, .int .u64 s] w fun e w' => ∃ v ws, e = .returned v ∧ Res w w' B (.slice none 0 0) v ws 0 := by
  go_enter Ybaf.func27, Ybaf.ntmps27
  go_wp2_with fail
  go_ret
  exact ⟨_, [], rfl, Row.nil _ _, Words.nil, .inl rfl, rfl, Kept.refl _ _, fun j hj => absurd hj blk_nil⟩

theorem clear_0 (a : Addr) (c : Nat) (w : World) : (Builtin.clear_ #[32] 0 #[.slice (some a) 0 c]).run Ybaf.prog w = .ok (.tuple #[]) w := by
  simp [Builtin.clear_, run_underlying Ybaf.underlying32]

set_option maxHeartbeats 1000000 in
set_option maxRecDepth 100000 in
theorem lsh_3 (xg xc m B : Nat) (xl : List Value) (xs : List Nat) (w : World) (hB : B ≤ w.heap.size) (hm0 : 0 < m) (hm : m ≤ 4000) (hxl : xs.length = m) (hxw : Words xs) (hxa : At w xg 48 xl) (hxt : xl.take m = xs.map U) :
    Calls Ybaf.prog 27 #[.slice none 0 0, .slice (some ⟨xg, 0, none⟩) m xc, .int .u64 3] w fun e w' => ∃ v ws, e = .returned v ∧ Res w w' B (.slice none 0 0) v ws (val xs * 8) := by
  have hb0 : ((m : Int) == 0) = false := by simp; omega
  go_enter Ybaf.func27, Ybaf.ntmps27
  go_wp2_with fail
  rw [show ((m : Int) + 1) = ((m + 1 : Nat) : Int) from by omega]
  refine (make_any (.slice none 0 0) (m + 1) B w (.inl rfl) (by omega) (by omega) hB).mono ?_
  rintro e w1 ⟨g, c, l, rfl, r1, r2, r3, r4, r5, r6, r7⟩
  have i1 : (m : Int) ≤ (c : Int) := by omega
  have xa1 := hxa.kept r6 (fun h => h)
  have hgn : w.heap.size ≤ g := r7.elim (fun h => absurd h blk_nil) id
  have hne : xg ≠ g := by have := hxa.lt; omega
  have cxs := take_cells xa1 hxl hxt
  simp only [Nat.zero_add] at cxs
  have CXS := hide cxs
  clear cxs
  go_wp2_with fail
  refine (lshVU_3 g c xg xc m l xs w1 (by omega) hm0 hxl hxw r2 (by omega) CXS.out hne).mono ?_
  rintro e w2 ⟨rfl, q1, q2⟩
  have hkz : Kept w w2 (blk (.slice none 0 0)) := (r6.mono (fun _ _ h => h.elim)).trans q2 (fun j hj e => by omega)
  have hwr := shl_words (M := 8) (D := 2305843009213693952) (by decide) xs 0 hxw (by decide)
  have hln := (shl_len 8 2305843009213693952 xs 0).trans hxl
  have hvl := shl_val (M := 8) (D := 2305843009213693952) (by decide) xs 0
  have hcl := shc_last 2305843009213693952 xs 0 (by intro h; subst h; simp at hxl; omega)
  have hcw : shc 2305843009213693952 0 xs < 18446744073709551616 := by rw [hcl]; have := hxw.at (xs.length - 1); omega
  rw [hxl, Nat.add_zero] at hvl
  have HVL := hide hvl
  clear hvl hcl
  generalize shl 8 2305843009213693952 0 xs = R at *
  generalize shc 2305843009213693952 0 xs = cc at *
  obtain ⟨p1, p2, p3, p4⟩ := add_tail (z := .slice none 0 0) q1 (by omega) hln hwr hcw r3 r4 hkz r7
  obtain ⟨ov, hov⟩ := p1
  have t1 : Hid (((R ++ [cc]).map U ++ l.drop (m + 1)).length = c) := by show _ = _; simp; omega
  have t2 : Hid ((R ++ [cc]).length = m + 1) := by show _ = _; simp; omega
  have t3 : Hid (((R ++ [cc]).map U ++ l.drop (m + 1)).take (m + 1) = (R ++ [cc]).map U) := List.take_left' (by simp; omega)
  have P3 := hide p3
  have P4 := hide p4
  clear p3 p4 q1
  have hclr := fun w => clear_0 ⟨g, 0, none⟩ c w
  go_wp2_with fail
  refine (norm_row g (m + 1) c B (R ++ [cc]) _ _ r1 P3.out t1.out r5 t2.out r4 t3.out (by omega) (hwr.snoc hcw)).mono ?_
  rintro e w3 ⟨ws', rfl, s1, s2, s3, s4, rfl⟩
  go_wp2_with fail
  go_ret
  refine ⟨_, ws', rfl, s1, s2, s3, ?_, P4.out, fun j hj => by obtain rfl := blk_slice.1 hj; exact r7⟩
  rw [s4, val_snoc, hln, Nat.mul_comm]
  exact HVL.out

set_option maxHeartbeats 1000000 in
set_option maxRecDepth 100000 in
theorem lsh_1 (xg xc m B : Nat) (xl : List Value) (xs : List Nat) (w : World) (hB : B ≤ w.heap.size) (hm0 : 0 < m) (hm : m ≤ 4000) (hxl : xs.length = m) (hxw : Words xs) (hxa : At w xg 48 xl) (hxt : xl.take m = xs.map U) :
    Calls Ybaf.prog 27 #[.slice none 0 0, .slice (some ⟨xg, 0, none⟩) m xc, .int .u64 1] w fun e w' => ∃ v ws, e = .returned v ∧ Res w w' B (.slice none 0 0) v ws (val xs * 2) := by
  have hb0 : ((m : Int) == 0) = false := by simp; omega
  go_enter Ybaf.func27, Ybaf.ntmps27
  go_wp2_with fail
  rw [show ((m : Int) + 1) = ((m + 1 : Nat) : Int) from by omega]
  refine (make_any (.slice none 0 0) (m + 1) B w (.inl rfl) (by omega) (by omega) hB).mono ?_
  rintro e w1 ⟨g, c, l, rfl, r1, r2, r3, r4, r5, r6, r7⟩
  have i1 : (m : Int) ≤ (c : Int) := by omega
  have xa1 := hxa.kept r6 (fun h => h)
  have hgn : w.heap.size ≤ g := r7.elim (fun h => absurd h blk_nil) id
  have hne : xg ≠ g := by have := hxa.lt; omega
  have cxs := take_cells xa1 hxl hxt
  simp only [Nat.zero_add] at cxs
  have CXS := hide cxs
  clear cxs
  go_wp2_with fail
  refine (lshVU_1 g c xg xc m l xs w1 (by omega) hm0 hxl hxw r2 (by omega) CXS.out hne).mono ?_
  rintro e w2 ⟨rfl, q1, q2⟩
  have hkz : Kept w w2 (blk (.slice none 0 0)) := (r6.mono (fun _ _ h => h.elim)).trans q2 (fun j hj e => by omega)
  have hwr := shl_words (M := 2) (D := 9223372036854775808) (by decide) xs 0 hxw (by decide)
  have hln := (shl_len 2 9223372036854775808 xs 0).trans hxl
  have hvl := shl_val (M := 2) (D := 9223372036854775808) (by decide) xs 0
  have hcl := shc_last 9223372036854775808 xs 0 (by intro h; subst h; simp at hxl; omega)
  have hcw : shc 9223372036854775808 0 xs < 18446744073709551616 := by rw [hcl]; have := hxw.at (xs.length - 1); omega
  rw [hxl, Nat.add_zero] at hvl
  have HVL := hide hvl
  clear hvl hcl
  generalize shl 2 9223372036854775808 0 xs = R at *
  generalize shc 9223372036854775808 0 xs = cc at *
  obtain ⟨p1, p2, p3, p4⟩ := add_tail (z := .slice none 0 0) q1 (by omega) hln hwr hcw r3 r4 hkz r7
  obtain ⟨ov, hov⟩ := p1
  have t1 : Hid (((R ++ [cc]).map U ++ l.drop (m + 1)).length = c) := by show _ = _; simp; omega
  have t2 : Hid ((R ++ [cc]).length = m + 1) := by show _ = _; simp; omega
  have t3 : Hid (((R ++ [cc]).map U ++ l.drop (m + 1)).take (m + 1) = (R ++ [cc]).map U) := List.take_left' (by simp; omega)
  have P3 := hide p3
  have P4 := hide p4
  clear p3 p4 q1
  have hclr := fun w => clear_0 ⟨g, 0, none⟩ c w
  go_wp2_with fail
  refine (norm_row g (m + 1) c B (R ++ [cc]) _ _ r1 P3.out t1.out r5 t2.out r4 t3.out (by omega) (hwr.snoc hcw)).mono ?_
  rintro e w3 ⟨ws', rfl, s1, s2, s3, s4, rfl⟩
  go_wp2_with fail
  go_ret
  refine ⟨_, ws', rfl, s1, s2, s3, ?_, P4.out, fun j hj => by obtain rfl := blk_slice.1 hj; exact r7⟩
  rw [s4, val_snoc, hln, Nat.mul_comm]
  exact HVL.out

end Go.Proofs.YbulkdgsoFmt.M
