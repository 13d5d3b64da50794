/-
  big.Int: Add (no sign), Neg, Cmp.
-/
import Derived.Test.YbulkdgsoFmtM9
import Derived.Deep.DrawnRows
namespace Go.Proofs.YbulkdgsoFmt.M
open Go.RowKit
attribute [local go_sem ↓] Go.wp_at_zero Go.wp_at_succ

/-- nat.add, the result written out. -/
theorem natAdd (z x y : Value) (B : Nat) (xs ys : List Nat) (w : World) (hz : Place w B z) (hx : Row w B x xs) (hy : Row w B y ys) (hxw : Words xs) (hyw : Words ys) (hxn : Norm xs) (hyn : Norm ys) (hle : ys.length ≤ xs.length ∨ xs = []) (hx4 : xs.length ≤ 4000) (hy4 : ys.length ≤ 4000) (hB : B ≤ w.heap.size)
    (hap : ∀ j, blk y j → ¬ blk z j) :
    Calls Ybaf.prog 28 #[z, x, y] w fun e w' => ∃ ao c ws, e = .returned (.slice ao ws.length c) ∧ Res w w' B z (.slice ao ws.length c) ws (val xs + val ys) := by
  have fin : Calls Ybaf.prog 28 #[z, x, y] w (fun e w' => ∃ v ws, e = .returned v ∧ Res w w' B z v ws (val xs + val ys)) → Calls Ybaf.prog 28 #[z, x, y] w fun e w' => ∃ ao c ws, e = .returned (.slice ao ws.length c) ∧ Res w w' B z (.slice ao ws.length c) ws (val xs + val ys) := by
    intro h
    refine h.mono ?_
    rintro e w' ⟨v, ws, rfl, r⟩
    obtain ⟨ao, c, rfl, _, _⟩ := r.row.form
    exact ⟨ao, c, ws, rfl, r⟩
  refine fin ?_
  by_cases h : ys.length ≤ xs.length
  · exact add_any z x y B B B xs ys w hz hx hy hxw hyw hxn h hx4 hB (fun _ => hap)
  · have hx0 : xs = [] := by rcases hle with h' | h'; exact absurd h' h; exact h'
    subst hx0
    have hy0 : ys ≠ [] := by intro e; subst e; simp at h
    obtain ⟨xa, xc, rfl, _, _⟩ := hx.form
    have := add_0y z y B B xc xa ys w hz hy hy0 hyw hyn hy4 hB
    simpa [val] using this

set_option maxHeartbeats 2000000 in
set_option maxRecDepth 100000 in
theorem Add_apart (p px py B : Nat) (w : World) (nz : Bool) (zv xv yv : Value) (zs xs ys : List Nat) (hz : BI w B p nz zv zs) (hx : BI w B px false xv xs) (hy : BI w B py false yv ys) (hB : B ≤ w.heap.size) (hle : ys.length ≤ xs.length ∨ xs = []) (hx4 : xs.length ≤ 4000) (hy4 : ys.length ≤ 4000)
    (hap : ∀ j, blk yv j → ¬ blk zv j) :
    Calls Ybaf.prog 21 #[.pointer (some ⟨p, 0, none⟩), .pointer (some ⟨px, 0, none⟩), .pointer (some ⟨py, 0, none⟩)] w fun e w' => e = .returned (.pointer (some ⟨p, 0, none⟩)) ∧ ∃ v ws, BI w' B p false v ws ∧ val ws = val xs + val ys ∧ Kept w w' (fun k => k = p ∨ blk zv k) ∧ ∀ j, blk v j → blk zv j ∨ w.heap.size ≤ j := by
  have z1 := hz.c1
  have x0 := hx.c0
  have x1 := hx.c1
  have y0 := hy.c0
  have y1 := hy.c1
  have HZ := hide hz
  have ct := fun q => natAdd zv xv yv B xs ys (w.drewN q) hz.row.place hx.row hy.row hx.words hy.words hx.norm hy.norm hle hx4 hy4 hB hap
  have CT := hide ct
  obtain ⟨xa, xc, rfl, _, _⟩ := hx.row.form
  obtain ⟨ya, yc, rfl, _, _⟩ := hy.row.form
  obtain ⟨za, zc, rfl, _, _⟩ := hz.row.form
  clear ct hz hx hy hap
  go_enter Ybaf.func21, Ybaf.ntmps21
  go_wp2_with fail
  go_quiet (fail)
  go_wp2_with fail
  go_region_with ((go_at_call 28; refine (CT.out _).mono ?_; rintro e w1 ⟨ao, c, ws, rfl, r⟩; have hat1 := HZ.out.at'.kept (Kept.of_drewN r.kept) (HZ.out.apart HZ.out.row); have d1 : w1.cell? ⟨p, 1, none⟩ = some (.slice za zs.length zc) := hat1.cell rfl; have f1 := hat1.frozen 1; have d0 : w1.cell? ⟨p, 0, none⟩ = some (.bool nz) := hat1.cell rfl; have f0 := hat1.frozen 0))
  all_goals
    obtain ⟨_, _, hbi, hk⟩ := BI.mk' (w := w) (neg' := false) HZ.out.at' HZ.out.base HZ.out.row.place ⟨r.row, r.words, r.norm, r.val, Kept.of_drewN r.kept, r.lies⟩
    have HB := hide hbi
    have HK := hide hk
    have HR := hide r
    clear hbi hk r CT HZ
    cases hb : decide ((0 : Int) < (ws.length : Int))
  all_goals (go_wp2_with fail)
  all_goals (go_ret; exact ⟨rfl, _, ws, HB.out, HR.out.val, HK.out, HR.out.lies⟩)

set_option maxHeartbeats 2000000 in
set_option maxRecDepth 100000 in
theorem Add_self (p py B : Nat) (w : World) (zv yv : Value) (zs ys : List Nat) (hz : BI w B p false zv zs) (hy : BI w B py false yv ys) (hB : B ≤ w.heap.size) (hle : ys.length ≤ zs.length ∨ zs = []) (hz4 : zs.length ≤ 4000) (hy4 : ys.length ≤ 4000)
    (hap : ∀ j, blk yv j → ¬ blk zv j) :
    Calls Ybaf.prog 21 #[.pointer (some ⟨p, 0, none⟩), .pointer (some ⟨p, 0, none⟩), .pointer (some ⟨py, 0, none⟩)] w fun e w' => e = .returned (.pointer (some ⟨p, 0, none⟩)) ∧ ∃ v ws, BI w' B p false v ws ∧ val ws = val zs + val ys ∧ Kept w w' (fun k => k = p ∨ blk zv k) ∧ ∀ j, blk v j → blk zv j ∨ w.heap.size ≤ j := by
  have z1 := hz.c1
  have z0 := hz.c0
  have y0 := hy.c0
  have y1 := hy.c1
  have HZ := hide hz
  have ct := fun q => natAdd zv zv yv B zs ys (w.drewN q) hz.row.place hz.row hy.row hz.words hy.words hz.norm hy.norm hle hz4 hy4 hB hap
  have CT := hide ct
  obtain ⟨ya, yc, rfl, _, _⟩ := hy.row.form
  obtain ⟨za, zc, rfl, _, _⟩ := hz.row.form
  clear ct hz hy hap
  go_enter Ybaf.func21, Ybaf.ntmps21
  go_wp2_with fail
  go_quiet (fail)
  go_wp2_with fail
  go_region_with ((go_at_call 28; refine (CT.out _).mono ?_; rintro e w1 ⟨ao, c, ws, rfl, r⟩; have hat1 := HZ.out.at'.kept (Kept.of_drewN r.kept) (HZ.out.apart HZ.out.row); have d1 : w1.cell? ⟨p, 1, none⟩ = some (.slice za zs.length zc) := hat1.cell rfl; have f1 := hat1.frozen 1; have d0 : w1.cell? ⟨p, 0, none⟩ = some (.bool false) := hat1.cell rfl; have f0 := hat1.frozen 0))
  all_goals
    obtain ⟨_, _, hbi, hk⟩ := BI.mk' (w := w) (neg' := false) HZ.out.at' HZ.out.base HZ.out.row.place ⟨r.row, r.words, r.norm, r.val, Kept.of_drewN r.kept, r.lies⟩
    have HB := hide hbi
    have HK := hide hk
    have HR := hide r
    clear hbi hk r CT HZ
    cases hb : decide ((0 : Int) < (ws.length : Int))
  all_goals (go_wp2_with fail)
  all_goals (go_ret; exact ⟨rfl, _, ws, HB.out, HR.out.val, HK.out, HR.out.lies⟩)

end Go.Proofs.YbulkdgsoFmt.M
