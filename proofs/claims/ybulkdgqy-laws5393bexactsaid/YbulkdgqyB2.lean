/-
  The walk of 'LawS5393BSplit'.
-/
import Derived.Test.YbulkdgqyB1
namespace Go.Proofs.Ybulkdgqy.B
open Go.RowKit Go.Maps

/-- 'append(s, x...)', both rows of the call's own; x may be nil. -/
theorem wpList_append_rows {w : World} {ops : Array Oper} {rest : List Oper} {o : Oper} {a : Act} {Q : Exit → Act → World → Prop} (hgd : o.guard = none) (s x : Operand)
    (ho : o.op = .call { callee := .builtin .append, args := #[s, x], argTypes := #[25, 25] }) (base bx : Nat)
    (v : Value) (n : Nat) (xs : List Int) (hs : a.eval s = v) (hown : w.ownsRow base 3 1 v n (xs.map (Value.int .i64)))
    (vx : Value) (m : Nat) (ys : List Int) (hx : a.eval x = vx) (hrow : w.ownsRow bx 3 1 vx m (ys.map (Value.int .i64))) (h63 : n + m ≤ 4096) (hbase : base ≤ w.heap.size)
    (h : ∀ ao c w', w'.ownsRow base 3 1 (.slice ao (n + m) c) (n + m) ((xs ++ ys).map (Value.int .i64)) → w.grownBy w' v.ownBlock → wpList Yba.prog ops Q rest (a.put o.dst (.slice ao (n + m) c)) w') :
    wpList Yba.prog ops Q (o :: rest) a w := by
  obtain ⟨i0, hi, hz0, hz1, hz2⟩ := info_parts info3
  rcases hrow.2 with ⟨rfl, rfl⟩ | ⟨g, cap, cur, rfl, hr⟩
  · have e : ys = [] := by
      have := hrow.1
      simpa using this
    subst e
    obtain ⟨ao, c, rfl⟩ := row_form hown
    have hrun := run_append_owned_none (P := Yba.prog) (w := w) base 25 o.type 3 i0 1 Yba.underlying25 hi _ n _ hown
    refine wpList_plain hgd fun K hK => ?_
    unfold Oper.wp
    simp [execOp, ho, resolve, invoke, builtin, hs, hx, hrun, Result.andThen]
    exact hK _ _ (h ao c w (by simpa using hown) (World.grownBy.refl _ _))
  · refine wpList_append_own w hgd s x 25 ho base 3 i0 (.int .i64 0) 1 8 Yba.underlying25 hi hz0 hz1 hz2 rfl (by decide) v n _ hs hown ⟨g, 0, none⟩ m cap (ys.map (Value.int .i64)) hx (by simpa using hrow.1) (hrow.cells (g := g) rfl) (ints_oneCell .i64 ys) (by unfold maxLen; omega) (by omega) hbase ?_
    intro v' w' hown' hgrow _
    obtain ⟨ao, c, rfl⟩ := row_form hown'
    exact h ao c w' (by simpa using hown') hgrow

theorem row_cells {w : World} {base g n c : Nat} {xs : List Int} (h : w.ownsRow base 3 1 (.slice (some ⟨g, 0, none⟩) n c) n (xs.map (Value.int .i64))) : ∀ j, j < n → w.cell? ⟨g, 0 + j, none⟩ = some (.int .i64 (xs.getD j 0)) := by
  intro j hj
  have hl : xs.length = n := by simpa using h.1
  have := h.cells (g := g) rfl j (.int .i64 (xs.getD j 0)) (by simp [List.getD, show j < xs.length by omega])
  rw [Addr.add_lit] at this
  exact this

theorem beq_rows {w : World} {B1 B2 n c1 c2 : Nat} {a1 a2 : Option Addr} (xs : List Int) (h1 : w.ownsRow B1 3 1 (.slice a1 n c1) n (xs.map (Value.int .i64))) (h2 : w.ownsRow B2 3 1 (.slice a2 n c2) n (xs.map (Value.int .i64))) (hn : n ≤ 4096) :
    Calls Yba.prog 11 #[.slice a1 n c1, .slice a2 n c2] w fun e w' => e = .returned (.bool true) ∧ Below w.heap.size w w' := by
  by_cases h0 : n = 0
  · subst h0
    exact beq_none a1 a2 c1 c2 w
  · rcases h1.2 with ⟨_, hh⟩ | ⟨g1, cap1, cur1, e1, _⟩
    · exact absurd hh h0
    rcases h2.2 with ⟨_, hh⟩ | ⟨g2, cap2, cur2, e2, _⟩
    · exact absurd hh h0
    simp only [Value.slice.injEq] at e1 e2
    obtain ⟨rfl, _, rfl⟩ := e1
    obtain ⟨rfl, _, rfl⟩ := e2
    exact beq_any g1 0 c1 g2 0 c2 n xs w hn (row_cells h1) (row_cells h2)

theorem row_below {w w' : World} {base base' n : Nat} {v : Value} {xs : List Value} (h : w.ownsRow base 3 1 v n xs) (hb : Below w.heap.size w w') (hB : base' ≤ base) : w'.ownsRow base' 3 1 v n xs := by
  refine ⟨h.1, ?_⟩
  rcases h.2 with hn | ⟨g, cap, cur, rfl, h1, hgg, rest⟩
  · exact .inl hn
  · exact .inr ⟨g, cap, cur, rfl, Nat.le_trans hB h1, (hb.block g (Array.getElem?_eq_some_iff.1 hgg).1).trans hgg, rest⟩

theorem own_apart {v u : Value} {B : Nat} (hv : ∀ j, v.ownBlock = some j → j < B) (hu : ∀ j, u.ownBlock = some j → B ≤ j) : v.ownBlock = none ∨ v.ownBlock ≠ u.ownBlock := by
  cases h : v.ownBlock with
  | none => exact .inl rfl
  | some j =>
    refine .inr (fun e => ?_)
    have a1 := hv j h
    have a2 := hu j e.symm
    omega

/-- 'beyond' with nobody known. -/
theorem beyond_free (cb mb b off len cap p s : Nat) (zs : List Int) (w : World) (hlen : len ≤ 1024) (hpos : 0 < len) (hp : p ≤ 4294969344) (hz : len ≤ zs.length) (hs : s ≤ len)
    (hcb : cb < w.heap.size) (hmb : mb < w.heap.size) (hbc : b ≠ cb) (hmc : mb ≠ cb)
    (hc : ∀ j, j < zs.length → w.cell? ⟨b, off + j, none⟩ = some (.int .i64 (zs.getD j 0))) (hwz : ∀ n ∈ zs, (Lit.int .i64 n).wf = true)
    (h3 : w.cell? ⟨cb, 3, none⟩ = some (.map (some mb))) (h8 : w.cell? ⟨cb, 8, none⟩ = some (.int .i64 p)) (f8 : w.frozen? ⟨cb, 8, none⟩ = false)
    (hmap : w.ownsMap Yba.prog 3 (plainElem Yba.prog 4) mb 0 (.map [] : DataW Unit)) :
    Calls Yba.prog 9 #[.pointer (some ⟨cb, 0, none⟩), .slice (some ⟨b, off, none⟩) len cap, .int .i64 s] w fun e w' => ∃ ao c, e = .returned (.slice ao s c) ∧
      w'.ownsRow w.heap.size 3 1 (.slice ao s c) s ((tk (fun _ => false) zs len p s).map (Value.int .i64)) ∧
      w'.cell? ⟨cb, 3, none⟩ = some (.map (some mb)) ∧ w'.cell? ⟨cb, 8, none⟩ = some (.int .i64 ((p + s : Nat) : Int)) ∧ w'.frozen? ⟨cb, 8, none⟩ = false ∧ w'.ownsMap Yba.prog 3 (plainElem Yba.prog 4) mb 0 (.map [] : DataW Unit) ∧ w.grownBy w' (some cb) := by
  refine (beyond_any cb mb 0 b off len cap p s zs (.map []) w hlen hpos hp hz hcb hmb hbc hmc hc hwz h3 h8 f8 hmap).mono ?_
  rintro e w' ⟨v, k, rfl, hst, hown, _, g3, g8, gf, gm, hg⟩
  have hf : fD (.map []) = fun _ => false := by funext x; rfl
  rw [hf] at hst hown
  have hk := stops_none hst hs
  subst hk
  have hl : (tk (fun _ => false) zs len p k).length = k := by rw [tk_none]; simp
  rw [hl] at hown
  obtain ⟨ao, c, rfl⟩ := row_form hown
  exact ⟨ao, c, rfl, hown, g3, g8, gf, gm, hg⟩

set_option maxHeartbeats 400000 in
set_option maxRecDepth 100000 in
theorem split_long (a0 : Option Addr) (len cap : Nat) (p x y : Int) (w : World) (h : 1024 < len) (hm : len ≤ maxLen) :
    Calls Yba.prog 5 #[.slice a0 len cap, .int .u32 p, .int .u8 x, .int .u8 y] w fun e w' => e = .returned (.bool true) ∧ Below w.heap.size w w' := by
  unfold maxLen at hm
  go_enter Yba.func5, Yba.ntmps5
  go_wp2_with fail
  go_ret
  exact ⟨rfl, Below.refl _ _⟩

set_option maxHeartbeats 1000000 in
set_option maxRecDepth 100000 in
theorem split_any (b off len cap : Nat) (zs : List Int) (p : Nat) (x y : Int) (w : World) (h : len ≤ 1024) (hpos : 0 < len) (hz : len ≤ zs.length) (hp : p ≤ 4294967295) (hx0 : 0 ≤ x) (hx : x ≤ 255) (hy0 : 0 ≤ y) (hy : y ≤ 255)
    (hb : b < w.heap.size)
    (hc : ∀ j, j < zs.length → w.cell? ⟨b, off + j, none⟩ = some (.int .i64 (zs.getD j 0))) (hwz : ∀ n ∈ zs, (Lit.int .i64 n).wf = true) :
    Calls Yba.prog 5 #[.slice (some ⟨b, off, none⟩) len cap, .int .u32 p, .int .u8 x, .int .u8 y] w fun e w' => e = .returned (.bool true) ∧ Below w.heap.size w w' := by
  have hmm := @run_makeMap Yba.prog
  obtain ⟨s, hs, hsl⟩ : ∃ s : Nat, x % ((len : Int) + 1) = s ∧ s ≤ len := by
    have x1 : 0 ≤ x % ((len : Int) + 1) := Int.emod_nonneg _ (by omega)
    have x2 : x % ((len : Int) + 1) < len + 1 := Int.emod_lt_of_pos _ (by omega)
    exact ⟨(x % ((len : Int) + 1)).toNat, by omega, by omega⟩
  obtain ⟨t, ht, htl⟩ : ∃ t : Nat, y % ((len : Int) - s + 1) = t ∧ s + t ≤ len := by
    have x1 : 0 ≤ y % ((len : Int) - s + 1) := Int.emod_nonneg _ (by omega)
    have x2 : y % ((len : Int) - s + 1) < len - s + 1 := Int.emod_lt_of_pos _ (by omega)
    exact ⟨(y % ((len : Int) - s + 1)).toNat, by omega, by omega⟩
  go_enter Yba.func5, Yba.ntmps5
  go_wp2_with fail
  refine (beyond_free (w.heap.size + 1) w.heap.size b off len cap p s zs _ h hpos (by omega) hz (by omega) (by simp) (by simp; omega) (by omega) (by omega) ?_ hwz ?_ ?_ ?_ ?_).mono ?_
  · intro j hj
    have := hc j hj
    go_simp
  · go_simp
  · go_simp
  · go_simp
  · exact (World.ownsMap_made _ _ _ _).alloc _
  rintro e w1 ⟨a1, c1, rfl, hown1, g13, g18, g1f, g1m, hg1⟩
  have z1 : w.heap.size + 2 ≤ w1.heap.size := by have := hg1.size; simpa using this
  have hc1 : ∀ j, j < zs.length → w1.cell? ⟨b, off + j, none⟩ = some (.int .i64 (zs.getD j 0)) := by
    intro j hj
    have := hc j hj
    exact hg1.cell (by go_simp) (by simp; omega)
  have hb1 : Below w.heap.size w w1 := ((((Below.refl _ _).alloc (Nat.le_refl _) _).alloc (by simp) _).grown hg1 (by simp; omega) (by simp))
  go_wp2_with fail
  refine (beyond_free (w.heap.size + 1) w.heap.size b off len cap (p + s) t zs w1 h hpos (by omega) hz (by omega) (by omega) (by omega) (by omega) (by omega) hc1 hwz g13 g18 g1f g1m).mono ?_
  rintro e w2 ⟨a2, c2, rfl, hown2, g23, g28, g2f, g2m, hg2⟩
  have z2 := hg2.size
  have hc2 : ∀ j, j < zs.length → w2.cell? ⟨b, off + j, none⟩ = some (.int .i64 (zs.getD j 0)) := by
    intro j hj
    exact hg2.cell (hc1 j hj) (by simp; omega)
  have hb2 : Below w.heap.size w w2 := hb1.grown hg2 (by omega) (by simp)
  have hown12 := hown1.kept hg2 (Or.inr (by intro e; have := (hown1.lt _ e).1; simp at this; omega))
  clear hc hc1 g13 g18 g1f g1m hown1
  go_wp2_with fail
  rw [show ((s : Int) + t) = ((s + t : Nat) : Int) from by omega]
  refine (beyond_free (w2.heap.size + 1) w2.heap.size b off len cap p (s + t) zs _ h hpos (by omega) hz (by omega) (by simp) (by simp; omega) (by omega) (by omega) ?_ hwz ?_ ?_ ?_ ?_).mono ?_
  · intro j hj
    have := hc2 j hj
    have hbw2 : b < w2.heap.size := by omega
    go_simp
  · go_simp
  · go_simp
  · go_simp
  · exact (World.ownsMap_made _ _ _ _).alloc _
  rintro e w3 ⟨a3, c3, rfl, hown3, g33, g38, g3f, g3m, hg3⟩
  have z3 : w2.heap.size + 2 ≤ w3.heap.size := by have := hg3.size; simpa using this
  have hb3 : Below w2.heap.size w2 w3 := ((((Below.refl _ _).alloc (Nat.le_refl _) _).alloc (by simp) _).grown hg3 (by simp; omega) (by simp))
  have k1 : w3.ownsRow (w.heap.size + 2) 3 1 (.slice a1 s c1) s ((tk (fun _ => false) zs len p s).map (Value.int .i64)) := row_below hown12 hb3 (by simp)
  have k2 : w3.ownsRow w1.heap.size 3 1 (.slice a2 t c2) t ((tk (fun _ => false) zs len (p + s) t).map (Value.int .i64)) := row_below hown2 hb3 (Nat.le_refl _)
  have k8 : w3.cell? ⟨w.heap.size + 1, 8, none⟩ = some (.int .i64 ((p + s + t : Nat) : Int)) := (hb3.cell (p := ⟨w.heap.size + 1, 8, none⟩) (by simp; omega)).trans g28
  have hb4 : Below w.heap.size w w3 := hb2.trans (hb3.mono (by omega))
  clear hc2 g23 g28 g2f g2m hown2 hown12 hg1 hg2 hb1 hb2 hb3 hg3 g33 g3f g3m
  go_wp2_with (first
    | (at_builtin; refine wpList_append_rows rfl (.tmp 58) (.tmp 59) rfl w3.heap.size (w.heap.size + 2) (.slice none 0 0) 0 [] rfl (World.ownsRow_nil _ _ _ _) (.slice a1 s c1) s _ rfl k1 (by omega) (Nat.le_refl _) ?_))
  intro a4 c4 w4 hown4 hg4
  have z4 := hg4.size
  have j2 := k2.kept hg4 (Classical.em _)
  have j3 := hown3.kept hg4 (Classical.em _)
  have hl3 := hown3.lt
  have j8 := hg4.cell k8 (by simp [Value.ownBlock])
  have j38 := hg4.cell g38 (by simp [Value.ownBlock])
  have hb5 := hb4.grown hg4 (by omega) (by simp [Value.ownBlock])
  clear k1 k2 k8 g38 hown3 hg4 hb4
  go_wp2_with (first
    | (at_builtin; refine wpList_append_rows rfl (.tmp 61) (.tmp 62) rfl w3.heap.size w1.heap.size (.slice a4 s c4) s _ rfl hown4 (.slice a2 t c2) t _ rfl j2 (by omega) (by omega) ?_))
  intro a5 c5 w5 hown5 hg5
  have hl4 := hown4.lt
  have l8 := hg5.cell j8 (fun e => by have := (hl4 _ e.symm).1; simp at this; omega)
  have l38 := hg5.cell j38 (fun e => by have := (hl4 _ e.symm).1; simp at this; omega)
  have l3 := j3.kept hg5 (own_apart (fun j hj => (hl3 j hj).2) (fun j hj => (hl4 j hj).1))
  have hb6 := hb5.grown hg5 (by omega) (fun j hj => by have := (hl4 _ hj).1; omega)
  have m5 : w5.ownsRow w3.heap.size 3 1 (.slice a5 (s + t) c5) (s + t) ((tk (fun _ => false) zs len p (s + t)).map (Value.int .i64)) := by rw [tk_split]; simpa using hown5
  clear j2 j3 j8 j38 hb5 hown4 hl4 hl3 hown5
  go_wp2_with (go_at_call 11; refine (beq_rows _ m5 l3 (by omega)).mono ?_; rintro e w6 ⟨rfl, hbw⟩)
  have n8 : w6.cell? ⟨w.heap.size + 1, 8, none⟩ = some (.int .i64 ((p + s + t : Nat) : Int)) := (hbw.cell (p := ⟨w.heap.size + 1, 8, none⟩) (by have := hg5.size; simp; omega)).trans l8
  have n38 : w6.cell? ⟨w2.heap.size + 1, 8, none⟩ = some (.int .i64 ((p + s + t : Nat) : Int)) := by
    rw [Nat.add_assoc p s t]
    exact (hbw.cell (p := ⟨w2.heap.size + 1, 8, none⟩) (by have := hg5.size; simp; omega)).trans l38
  have hb7 := hb6.trans (hbw.mono (by have := hb6.size; omega))
  clear l8 l38 l3 m5 hbw hg5
  go_quiet (fail)
  go_wp2_with fail
  go_ret
  exact ⟨by simp, below_drewN hb7 _⟩

theorem wpList_append_nils {w : World} {ops : Array Oper} {rest : List Oper} {o : Oper} {a : Act} {Q : Exit → Act → World → Prop} (hgd : o.guard = none) (s x : Operand)
    (ho : o.op = .call { callee := .builtin .append, args := #[s, x], argTypes := #[25, 25] }) (hs : a.eval s = .slice none 0 0) (hx : a.eval x = .slice none 0 0)
    (h : wpList Yba.prog ops Q rest (a.put o.dst (.slice none 0 0)) w) : wpList Yba.prog ops Q (o :: rest) a w := by
  obtain ⟨i0, hi, _⟩ := info_parts info3
  have hrun := run_append_owned_none (P := Yba.prog) (w := w) 0 25 o.type 3 i0 1 Yba.underlying25 hi _ 0 _ (World.ownsRow_nil _ _ _ _)
  refine wpList_plain hgd fun K hK => ?_
  unfold Oper.wp
  simp [execOp, ho, resolve, invoke, builtin, hs, hx, hrun, Result.andThen]
  exact hK _ _ h

/-- The cells of a fresh catchUp. -/
def fresh (b p : Nat) : Obj := .cells #[.map none, .map none, .bool false, .map (some b), .int .u64 0, .int .u64 0, .int .i64 0, .pointer none, .int .i64 p, .int .u64 0, .int .u64 0, .int .i64 0, .pointer none, .int .u64 0, .int .i64 0, .pointer none,
  .int .u64 0, .int .u64 0, .int .i64 0, .pointer none, .int .i64 0, .int .u64 0, .int .i64 0, .pointer none, .int .u64 0] 65
theorem v8a (w : World) (p : Nat) : ((((w.alloc (.map #[] 0)).alloc (fresh w.heap.size p)).alloc (.map #[] 0)).alloc (fresh (w.heap.size + 1 + 1) p)).cell? ⟨w.heap.size + 1, 8, none⟩ = some (.int .i64 p) := by
  unfold fresh; go_simp
theorem v8b (w : World) (p : Nat) : ((((w.alloc (.map #[] 0)).alloc (fresh w.heap.size p)).alloc (.map #[] 0)).alloc (fresh (w.heap.size + 1 + 1) p)).cell? ⟨w.heap.size + 1 + 1 + 1, 8, none⟩ = some (.int .i64 p) := by
  unfold fresh; go_simp

set_option maxHeartbeats 1000000 in
set_option maxRecDepth 100000 in
theorem split_zero (a0 : Option Addr) (cap : Nat) (p : Nat) (x y : Int) (w : World) (hp : p ≤ 4294967295) (hx0 : 0 ≤ x) (hx : x ≤ 255) (hy0 : 0 ≤ y) (hy : y ≤ 255) :
    Calls Yba.prog 5 #[.slice a0 0 cap, .int .u32 p, .int .u8 x, .int .u8 y] w fun e w' => e = .returned (.bool true) ∧ Below w.heap.size w w' := by
  have hmm := @run_makeMap Yba.prog
  obtain ⟨i0, hi, hz0, hz1, hz2⟩ := info_parts info3
  go_enter Yba.func5, Yba.ntmps5
  go_wp2_with (first
    | (go_at_call 9; refine (beyond_none _ _ _ _ _).mono ?_; rintro e w' ⟨rfl, rfl⟩)
    | (at_builtin; refine wpList_append_nils rfl _ _ rfl rfl rfl ?_)
    | (go_at_call 11; refine (beq_none _ _ _ _ _).mono ?_; rintro e w' ⟨rfl, hbw⟩))
  have n8 := (hbw.cell (p := ⟨w.heap.size + 1, 8, none⟩) (by simp)).trans (v8a w p)
  have n38 := (hbw.cell (p := ⟨w.heap.size + 1 + 1 + 1, 8, none⟩) (by simp)).trans (v8b w p)
  have hb7 : Below w.heap.size w w' := (((((Below.refl w.heap.size w).alloc (Nat.le_refl _) _).alloc (by simp) _).alloc (by simp; omega) _).alloc (by simp; omega) _).trans (hbw.mono (by simp; omega))
  clear hbw
  go_quiet (fail)
  go_wp2_with fail
  go_ret
  exact ⟨by simp, below_drewN hb7 _⟩
end Go.Proofs.Ybulkdgqy.B
