/-
  big.Int: Neg, Cmp.
-/
import Derived.Test.YbulkdgsoFmtM9
namespace Go.Proofs.YbulkdgsoFmt.M
open Go.RowKit

theorem info34 : ∃ j, Ybaf.prog.info? 34 = some j ∧ j.size = 2 := by
  have h : (Ybaf.prog.info? 34).map (·.size) = some 2 := by kernel_rfl
  obtain ⟨j, h1, h2⟩ := Option.map_eq_some_iff.1 h
  exact ⟨j, h1, h2⟩
theorem neq24_same (w : World) (a : Addr) : (binOp .neq 24 (.pointer (some a)) (.pointer (some a))).run Ybaf.prog w = .ok (.bool false) w := by
  obtain ⟨j, hj, _⟩ := info34
  have h : ∀ d : Nat, (Op.equalIn (d + 1) 24 (.pointer (some a)) (.pointer (some a))).run Ybaf.prog w = .ok true w := fun d => by
    simp [Op.equalIn, run_underlying Ybaf.underlying24, sizeOf, typeInfo, hj, run_sameAddr_same]
  simp only [binOp]
  simp [Op.equal, Op.maxDepth, h 9999]
theorem eql24_other {w : World} {p q : Nat} {la lb : List Value} (hne : p ≠ q) (ha : At w p 34 la) (hb : At w q 34 lb) : (binOp .eql 24 (.pointer (some ⟨p, 0, none⟩)) (.pointer (some ⟨q, 0, none⟩))).run Ybaf.prog w = .ok (.bool false) w := by
  obtain ⟨j, hj, hs⟩ := info34
  exact run_eql_ptr_other w Ybaf.underlying24 hj (by omega) (fun e => hne (congrArg Addr.block e)) ha hb

set_option maxHeartbeats 1000000 in
set_option maxRecDepth 100000 in
theorem Set_self (p : Nat) (w : World) : Calls Ybaf.prog 26 #[.pointer (some ⟨p, 0, none⟩), .pointer (some ⟨p, 0, none⟩)] w fun e w' => e = .returned (.pointer (some ⟨p, 0, none⟩)) ∧ w' = w := by
  have hn := fun w => neq24_same w ⟨p, 0, none⟩
  go_enter Ybaf.func26, Ybaf.ntmps26
  go_wp2_with fail
  go_ret
  exact ⟨rfl, rfl⟩

/-- The sign behind Neg. -/
def negd (neg : Bool) (ws : List Nat) : Bool := decide (0 < ws.length) && !neg

set_option maxHeartbeats 1000000 in
set_option maxRecDepth 100000 in
theorem Neg_self (p B : Nat) (w : World) (neg : Bool) (v : Value) (ws : List Nat) (hz : BI w B p neg v ws) :
    Calls Ybaf.prog 12 #[.pointer (some ⟨p, 0, none⟩), .pointer (some ⟨p, 0, none⟩)] w fun e w' => e = .returned (.pointer (some ⟨p, 0, none⟩)) ∧ BI w' B p (negd neg ws) v ws ∧ Kept w w' (· = p) := by
  have c0 := hz.c0
  have c1 := hz.c1
  have f0 := hz.f 0
  have HZ := hide hz
  have hap := hz.apart hz.row
  have hset : ∀ b, BI (w.setCell ⟨p, 0, none⟩ (.bool b)) B p b v ws := fun b =>
    ⟨hz.at'.set 0 (.bool b), hz.base, hz.row.kept ((Kept.refl w (· = p)).setCell (fun _ => rfl) _) (fun j hj e => hap (by rw [← e]; exact hj)), hz.words, hz.norm⟩
  have HS := hide hset
  obtain ⟨ao, c, rfl, _, _⟩ := hz.row.form
  clear hset hz hap
  by_cases h0 : 0 < ws.length
  · have hb : decide ((0 : Int) < (ws.length : Int)) = true := by simp; omega
    go_enter Ybaf.func12, Ybaf.ntmps12
    go_wp2_with (go_at_call 26; refine (Set_self _ _).mono ?_; rintro e w' ⟨rfl, rfl⟩)
    go_ret
    refine ⟨rfl, ?_, (Kept.refl w' (· = p)).setCell (fun _ => rfl) _⟩
    have e : negd neg ws = !neg := by simp [negd, h0]
    rw [e]
    exact HS.out _
  · have hb : decide ((0 : Int) < (ws.length : Int)) = false := decide_eq_false (by omega)
    go_enter Ybaf.func12, Ybaf.ntmps12
    go_wp2_with (go_at_call 26; refine (Set_self _ _).mono ?_; rintro e w' ⟨rfl, rfl⟩)
    go_ret
    refine ⟨rfl, ?_, (Kept.refl w' (· = p)).setCell (fun _ => rfl) _⟩
    have e : negd neg ws = false := by unfold negd; rw [decide_eq_false h0]; rfl
    rw [e]
    exact HS.out _

set_option maxHeartbeats 1000000 in
set_option maxRecDepth 100000 in
/-- Cmp of two numbers of one sign and the same words. -/
theorem Cmp_eq (px py B B' : Nat) (w : World) (neg : Bool) (xv yv : Value) (ws : List Nat) (hx : BI w B px neg xv ws) (hy : BI w B' py neg yv ws) (hne : px ≠ py) (hn : ws.length ≤ 4096) :
    Calls Ybaf.prog 7 #[.pointer (some ⟨px, 0, none⟩), .pointer (some ⟨py, 0, none⟩)] w fun e w' => e = .returned (.int .i64 0) ∧ ∃ q, w' = w.drewN q := by
  have x0 := hx.c0
  have x1 := hx.c1
  have y0 := hy.c0
  have y1 := hy.c1
  have heq := fun q => eql24_other (w := w.drewN q) hne (hx.at'.drewN q) (hy.at'.drewN q)
  have heq0 := eql24_other (w := w) hne hx.at' hy.at'
  have RX := hide hx.row
  have RY := hide hy.row
  obtain ⟨xa, xc, rfl, _, _⟩ := hx.row.form
  obtain ⟨ya, yc, rfl, _, _⟩ := hy.row.form
  clear hx hy
  go_enter Ybaf.func7, Ybaf.ntmps7
  go_wp2_with fail
  go_quiet (fail)
  go_wp2_with fail
  go_quiet ((go_at_call 19; exact (cmp_any _ _ B B' ws _ (by exact RX.out) (by exact RY.out) hn).mono (fun _ _ ⟨he, m, hm⟩ => ⟨he, _, hm.trans (by rw [World.drewN_drewN, Nat.add_assoc])⟩)))
  cases neg
  all_goals (go_wp2_with fail)
  all_goals (go_ret; exact ⟨rfl, _, rfl⟩)
end Go.Proofs.YbulkdgsoFmt.M
