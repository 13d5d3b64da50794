/-
  big.Int: SetUint64, Lsh, Add, Neg, Cmp.
-/
import Derived.Test.YbulkdgsoFmtM8
import Derived.LaidEqlPtr
namespace Go.Proofs.YbulkdgsoFmt.M
open Go.RowKit

/-- Block p is a big.Int: the sign, and the nat v of the words ws (normal). -/
structure BI (w : World) (B p : Nat) (neg : Bool) (v : Value) (ws : List Nat) : Prop where
  at' : At w p 34 [.bool neg, v]
  base : B ≤ p
  row : Row w B v ws
  words : Words ws
  norm : Norm ws

theorem BI.lt {w : World} {B p : Nat} {neg : Bool} {v : Value} {ws : List Nat} (h : BI w B p neg v ws) : p < w.heap.size := h.at'.lt
theorem BI.c0 {w : World} {B p : Nat} {neg : Bool} {v : Value} {ws : List Nat} (h : BI w B p neg v ws) : w.cell? ⟨p, 0, none⟩ = some (.bool neg) := h.at'.cell rfl
theorem BI.c1 {w : World} {B p : Nat} {neg : Bool} {v : Value} {ws : List Nat} (h : BI w B p neg v ws) : w.cell? ⟨p, 1, none⟩ = some v := h.at'.cell rfl
theorem BI.f {w : World} {B p : Nat} {neg : Bool} {v : Value} {ws : List Nat} (h : BI w B p neg v ws) (j : Nat) : w.frozen? ⟨p, j, none⟩ = false := h.at'.frozen j
/-- The struct's block is no row of words. -/
theorem BI.apart {w : World} {B p : Nat} {neg : Bool} {v : Value} {ws : List Nat} (h : BI w B p neg v ws) {u : Value} {us : List Nat} {B' : Nat} (hu : Row w B' u us) : ¬ blk u p := by
  intro hb
  rcases hu with ⟨rfl, _⟩ | ⟨g, n, c, l, rfl, h1, h2, _⟩
  · exact blk_nil hb
  · obtain rfl := blk_slice.1 hb
    exact absurd (At.one h.at' h2).1 (by decide)
theorem BI.kept {w w' : World} {B p : Nat} {neg : Bool} {v : Value} {ws : List Nat} {S : Nat → Prop} (h : BI w B p neg v ws) (k : Kept w w' S) (hp : ¬ S p) (hv : ∀ j, blk v j → ¬ S j) : BI w' B p neg v ws :=
  ⟨h.at'.kept k hp, h.base, h.row.kept k hv, h.words, h.norm⟩

/-- The two fields are stored anew. -/
theorem BI.mk' {w w1 : World} {B p : Nat} {neg neg' : Bool} {z v : Value} {ws : List Nat} {N : Nat} (hat : At w p 34 [.bool neg, z]) (hB : B ≤ p) (hz : Place w B z) (r : Res w w1 B z v ws N) :
    ¬ blk z p ∧ At w1 p 34 [.bool neg, z] ∧ BI ((w1.setCell ⟨p, 1, none⟩ v).setCell ⟨p, 0, none⟩ (.bool neg')) B p neg' v ws ∧ Kept w ((w1.setCell ⟨p, 1, none⟩ v).setCell ⟨p, 0, none⟩ (.bool neg')) (fun k => k = p ∨ blk z k) := by
  have hzp : ¬ blk z p := by
    intro hb
    rcases hz with rfl | ⟨g, n, c, l, rfl, h1, h2, _⟩
    · exact blk_nil hb
    · obtain rfl := blk_slice.1 hb
      exact absurd (At.one hat h2).1 (by decide)
  have hat1 := hat.kept r.kept hzp
  have hk : Kept w1 ((w1.setCell ⟨p, 1, none⟩ v).setCell ⟨p, 0, none⟩ (.bool neg')) (· = p) := ((Kept.refl w1 (· = p)).setCell (p := ⟨p, 1, none⟩) (fun _ => rfl) v).setCell (p := ⟨p, 0, none⟩) (fun _ => rfl) (.bool neg')
  have hvp : ¬ blk v p := by
    intro hb
    rcases r.lies p hb with h | h
    · exact hzp h
    · have := hat.lt; omega
  have hat2 : At ((w1.setCell ⟨p, 1, none⟩ v).setCell ⟨p, 0, none⟩ (.bool neg')) p 34 [.bool neg', v] := (hat1.set 1 v).set 0 (.bool neg')
  have hrow := r.row.kept hk (fun j hj e => hvp (by rw [← e]; exact hj))
  refine ⟨hzp, hat1, ⟨hat2, hB, hrow, r.words, r.norm⟩, ?_⟩
  exact (r.kept.mono (fun _ _ h => .inr h)).trans hk (fun j _ e => .inl e)

set_option maxHeartbeats 1000000 in
set_option maxRecDepth 100000 in
/-- z.SetUint64(x), z of whatever nat. -/
theorem SetUint64_any (p B x : Nat) (neg : Bool) (z : Value) (w : World) (hat : At w p 34 [.bool neg, z]) (hBp : B ≤ p) (hz : Place w B z) (hx : x < 18446744073709551616) (hB : B ≤ w.heap.size) :
    Calls Ybaf.prog 10 #[.pointer (some ⟨p, 0, none⟩), .int .u64 x] w fun e w' => e = .returned (.pointer (some ⟨p, 0, none⟩)) ∧ ∃ v ws, BI w' B p false v ws ∧ val ws = x ∧ Kept w w' (fun k => k = p ∨ blk z k) ∧ ∀ j, blk v j → blk z j ∨ w.heap.size ≤ j := by
  have c1 : w.cell? ⟨p, 1, none⟩ = some z := hat.cell rfl
  go_enter Ybaf.func10, Ybaf.ntmps10
  go_wp2_with fail
  refine (setUint64_any z B x w hz hx hB).mono ?_
  rintro e w1 ⟨v, ws, rfl, r⟩
  obtain ⟨ao, cp, rfl, _, _⟩ := r.row.form
  obtain ⟨hzp, hat1, hbi, hk⟩ := BI.mk' (neg' := false) hat hBp hz r
  have d0 : w1.cell? ⟨p, 0, none⟩ = some (.bool neg) := hat1.cell rfl
  have d1 : w1.cell? ⟨p, 1, none⟩ = some z := hat1.cell rfl
  have f0 := hat1.frozen 0
  have f1 := hat1.frozen 1
  have HB := hide hbi
  clear hbi
  go_wp2_with fail
  go_ret
  exact ⟨rfl, _, ws, HB.out, r.val, hk, r.lies⟩

/-- nat.lsh at a nat that is known. -/
theorem lsh3_any (x : Value) (B Bx : Nat) (xs : List Nat) (w : World) (hx : Row w Bx x xs) (hxw : Words xs) (hB : B ≤ w.heap.size) (h4 : xs.length ≤ 4000) :
    Calls Ybaf.prog 27 #[.slice none 0 0, x, .int .u64 3] w fun e w' => ∃ ao c ws, e = .returned (.slice ao ws.length c) ∧ Res w w' B (.slice none 0 0) (.slice ao ws.length c) ws (val xs * 8) := by
  have fin : ∀ N, Calls Ybaf.prog 27 #[.slice none 0 0, x, .int .u64 3] w (fun e w' => ∃ v ws, e = .returned v ∧ Res w w' B (.slice none 0 0) v ws N) → Calls Ybaf.prog 27 #[.slice none 0 0, x, .int .u64 3] w (fun e w' => ∃ ao c ws, e = .returned (.slice ao ws.length c) ∧ Res w w' B (.slice none 0 0) (.slice ao ws.length c) ws N) := by
    intro N h
    refine h.mono ?_
    rintro e w' ⟨v, ws, rfl, r⟩
    obtain ⟨ao, c, rfl, _, _⟩ := r.row.form
    exact ⟨ao, c, ws, rfl, r⟩
  refine fin _ ?_
  by_cases h0 : xs = []
  · subst h0
    obtain ⟨xa, xc, rfl, _, _⟩ := hx.form
    have := lsh_0 xa xc B 3 (by decide) w
    simpa [val] using this
  · rcases hx with ⟨_, h⟩ | ⟨xg, m, xc, xl, rfl, x1, x2, x3, x4, x5, x6, x7⟩
    · exact absurd h h0
    have : 0 < xs.length := List.length_pos_iff.2 h0
    exact lsh_3 xg xc m B xl xs w hB (by omega) (by omega) x6 hxw x2 x7

set_option maxHeartbeats 1000000 in
set_option maxRecDepth 100000 in
/-- z.Lsh(x, 3), z fresh. -/
theorem Lsh_3 (p px B : Nat) (w : World) (neg : Bool) (xv : Value) (xs : List Nat) (hat : At w p 34 [.bool false, .slice none 0 0]) (hBp : B ≤ p) (hx : BI w B px neg xv xs) (hB : B ≤ w.heap.size) (h4 : xs.length ≤ 4000) (hne : px ≠ p) :
    Calls Ybaf.prog 20 #[.pointer (some ⟨p, 0, none⟩), .pointer (some ⟨px, 0, none⟩), .int .u64 3] w fun e w' => e = .returned (.pointer (some ⟨p, 0, none⟩)) ∧ ∃ v ws, BI w' B p neg v ws ∧ val ws = val xs * 8 ∧ Kept w w' (· = p) ∧ ∀ j, blk v j → w.heap.size ≤ j := by
  have c1 : w.cell? ⟨p, 1, none⟩ = some (.slice none 0 0) := hat.cell rfl
  have x0 := hx.c0
  have x1 := hx.c1
  obtain ⟨xa, xc, rfl, _, _⟩ := hx.row.form
  have ct := lsh3_any _ B B xs w.drew hx.row hx.words hB h4
  have CT := hide ct
  clear ct
  have hne' : p ≠ px := Ne.symm hne
  go_enter Ybaf.func20, Ybaf.ntmps20
  go_wp2_with fail
  go_region_with ((go_at_call 27; refine CT.out.mono ?_; rintro e w1 ⟨ao, c, ws, rfl, r⟩; have hat1 := hat.kept (Kept.of_drew r.kept) blk_nil; have d1 : w1.cell? ⟨p, 1, none⟩ = some (.slice none 0 0) := hat1.cell rfl; have f1 := hat1.frozen 1; have d0 : w1.cell? ⟨p, 0, none⟩ = some (.bool false) := hat1.cell rfl; have f0 := hat1.frozen 0; have e0 := (Kept.of_drew r.kept).cell x0 blk_nil))
  all_goals
    obtain ⟨_, _, hbi, hk⟩ := BI.mk' (w := w) (neg' := neg) hat hBp (.inl rfl) ⟨r.row, r.words, r.norm, r.val, Kept.of_drew r.kept, r.lies⟩
    have HB := hide hbi
    have HK := hide hk
    clear hbi hk
    go_wp2_with fail
    go_ret
    exact ⟨rfl, _, ws, HB.out, r.val, HK.out.mono (fun j _ h => h.elim id (fun h => absurd h blk_nil)), fun j hj => (r.lies j hj).elim (fun h => absurd h blk_nil) id⟩

/-- nat.lsh at a nat that is known. -/
theorem lsh1_any (x : Value) (B Bx : Nat) (xs : List Nat) (w : World) (hx : Row w Bx x xs) (hxw : Words xs) (hB : B ≤ w.heap.size) (h4 : xs.length ≤ 4000) :
    Calls Ybaf.prog 27 #[.slice none 0 0, x, .int .u64 1] w fun e w' => ∃ ao c ws, e = .returned (.slice ao ws.length c) ∧ Res w w' B (.slice none 0 0) (.slice ao ws.length c) ws (val xs * 2) := by
  have fin : ∀ N, Calls Ybaf.prog 27 #[.slice none 0 0, x, .int .u64 1] w (fun e w' => ∃ v ws, e = .returned v ∧ Res w w' B (.slice none 0 0) v ws N) → Calls Ybaf.prog 27 #[.slice none 0 0, x, .int .u64 1] w (fun e w' => ∃ ao c ws, e = .returned (.slice ao ws.length c) ∧ Res w w' B (.slice none 0 0) (.slice ao ws.length c) ws N) := by
    intro N h
    refine h.mono ?_
    rintro e w' ⟨v, ws, rfl, r⟩
    obtain ⟨ao, c, rfl, _, _⟩ := r.row.form
    exact ⟨ao, c, ws, rfl, r⟩
  refine fin _ ?_
  by_cases h0 : xs = []
  · subst h0
    obtain ⟨xa, xc, rfl, _, _⟩ := hx.form
    have := lsh_0 xa xc B 1 (by decide) w
    simpa [val] using this
  · rcases hx with ⟨_, h⟩ | ⟨xg, m, xc, xl, rfl, x1, x2, x3, x4, x5, x6, x7⟩
    · exact absurd h h0
    have : 0 < xs.length := List.length_pos_iff.2 h0
    exact lsh_1 xg xc m B xl xs w hB (by omega) (by omega) x6 hxw x2 x7

set_option maxHeartbeats 1000000 in
set_option maxRecDepth 100000 in
/-- z.Lsh(x, 1), z fresh. -/
theorem Lsh_1 (p px B : Nat) (w : World) (neg : Bool) (xv : Value) (xs : List Nat) (hat : At w p 34 [.bool false, .slice none 0 0]) (hBp : B ≤ p) (hx : BI w B px neg xv xs) (hB : B ≤ w.heap.size) (h4 : xs.length ≤ 4000) (hne : px ≠ p) :
    Calls Ybaf.prog 20 #[.pointer (some ⟨p, 0, none⟩), .pointer (some ⟨px, 0, none⟩), .int .u64 1] w fun e w' => e = .returned (.pointer (some ⟨p, 0, none⟩)) ∧ ∃ v ws, BI w' B p neg v ws ∧ val ws = val xs * 2 ∧ Kept w w' (· = p) ∧ ∀ j, blk v j → w.heap.size ≤ j := by
  have c1 : w.cell? ⟨p, 1, none⟩ = some (.slice none 0 0) := hat.cell rfl
  have x0 := hx.c0
  have x1 := hx.c1
  obtain ⟨xa, xc, rfl, _, _⟩ := hx.row.form
  have ct := lsh1_any _ B B xs w.drew hx.row hx.words hB h4
  have CT := hide ct
  clear ct
  have hne' : p ≠ px := Ne.symm hne
  go_enter Ybaf.func20, Ybaf.ntmps20
  go_wp2_with fail
  go_region_with ((go_at_call 27; refine CT.out.mono ?_; rintro e w1 ⟨ao, c, ws, rfl, r⟩; have hat1 := hat.kept (Kept.of_drew r.kept) blk_nil; have d1 : w1.cell? ⟨p, 1, none⟩ = some (.slice none 0 0) := hat1.cell rfl; have f1 := hat1.frozen 1; have d0 : w1.cell? ⟨p, 0, none⟩ = some (.bool false) := hat1.cell rfl; have f0 := hat1.frozen 0; have e0 := (Kept.of_drew r.kept).cell x0 blk_nil))
  all_goals
    obtain ⟨_, _, hbi, hk⟩ := BI.mk' (w := w) (neg' := neg) hat hBp (.inl rfl) ⟨r.row, r.words, r.norm, r.val, Kept.of_drew r.kept, r.lies⟩
    have HB := hide hbi
    have HK := hide hk
    clear hbi hk
    go_wp2_with fail
    go_ret
    exact ⟨rfl, _, ws, HB.out, r.val, HK.out.mono (fun j _ h => h.elim id (fun h => absurd h blk_nil)), fun j hj => (r.lies j hj).elim (fun h => absurd h blk_nil) id⟩

end Go.Proofs.YbulkdgsoFmt.M
