/-
  Int.scan, setFromScanner, SetString over a text of decimal digits.
-/
import Derived.Test.YbulkdgsoFmtN6
namespace Go.Proofs.YbulkdgsoFmt.M
open Go.RowKit
attribute [local go_sem ↓] Go.wp_at_zero Go.wp_at_succ
attribute [local go_sem] method_read method_unread

theorem Row.low {w : World} {B B' : Nat} {v : Value} {ws : List Nat} (h : Row w B v ws) (hb : B' ≤ B) : Row w B' v ws := by
  rcases h with h | ⟨g, n, c, l, h1, h2, h3⟩
  · exact .inl h
  · exact .inr ⟨g, n, c, l, h1, Nat.le_trans hb h2, h3⟩
theorem results_three {fn : Func} {t u v : Tmp} (h : fn.results = #[.tmp t, .tmp u, .tmp v]) (tmps : Array Value) (P : Program) (w : World) :
    (results fn tmps).run P w = .ok (.tuple #[tmps.getD t undef, tmps.getD u undef, tmps.getD v undef]) w := by
  simp [results, h]

set_option maxHeartbeats 1000000 in
set_option maxRecDepth 100000 in
theorem Int_scan_any (p r B : Nat) (s : ByteArray) (ds : List Nat) (a : Addr) (w : World) (hs : Dig s ds) (h0 : 0 < s.size) (hr : Rd w r s 0) (he : Eof w a) (hr0 : 0 < r) (hp : At w p 34 [.bool false, .slice none 0 0]) (hBp : B ≤ p) :
    Calls Ybaf.prog 33 #[.pointer (some ⟨p, 0, none⟩), .iface 46 (.pointer (some ⟨r, 0, none⟩)), .int .i64 10] w fun e w' => e = .returned (.tuple #[.pointer (some ⟨p, 0, none⟩), .int .i64 10, .nilIface]) ∧ ∃ v ws, BI w' B p false v ws ∧ val ws = dec ds ∧ Rd w' r s s.size ∧ Kept w w' (fun k => k = p ∨ k = r) := by
  have hne : p ≠ r := fun e => by
    obtain ⟨pr, hr⟩ := hr
    subst e
    exact absurd (At.one hp hr).1 (by decide)
  have hd : 48 ≤ s[0].toNat := by rw [hs.at' 0 h0]; omega
  have hle := hs.le
  have hpl := hp.lt
  have hrl := hr.lt
  go_enter Ybaf.func33, Ybaf.ntmps33
  go_wp2_with fail
  refine (scanSign_any r s _ hr h0 (by omega) hd).mono ?_
  rintro e w1 ⟨rfl, hr1, k1⟩
  have hp1 := hp.kept k1 hne
  have he1 : Eof w1 a := he.kept k1 (by omega)
  have c1 : w1.cell? ⟨p, 1, none⟩ = some (.slice none 0 0) := hp1.cell rfl
  have z1 := k1.size
  go_wp2_with fail
  refine (scan_any r s ds a w1 hs h0 hr1 he1 hr0).mono ?_
  rintro e w2 ⟨v, ws, rfl, hrow, hw, hn, hv, hr2, k2⟩
  obtain ⟨ao, cp, rfl, _, _⟩ := hrow.form
  have hp2 := hp1.kept k2 hne
  have d1 : w2.cell? ⟨p, 1, none⟩ = some (.slice none 0 0) := hp2.cell rfl
  have d0 : w2.cell? ⟨p, 0, none⟩ = some (.bool false) := hp2.cell rfl
  have f0 := hp2.frozen 0
  have f1 := hp2.frozen 1
  have HF : Hid (BI ((w2.setCell ⟨p, 1, none⟩ (.slice ao ws.length cp)).setCell ⟨p, 0, none⟩ (.bool false)) B p false (.slice ao ws.length cp) ws ∧ val ws = dec ds ∧ Rd ((w2.setCell ⟨p, 1, none⟩ (.slice ao ws.length cp)).setCell ⟨p, 0, none⟩ (.bool false)) r s s.size ∧ Kept w ((w2.setCell ⟨p, 1, none⟩ (.slice ao ws.length cp)).setCell ⟨p, 0, none⟩ (.bool false)) (fun k => k = p ∨ k = r)) := by
    have hk : Kept w2 ((w2.setCell ⟨p, 1, none⟩ (.slice ao ws.length cp)).setCell ⟨p, 0, none⟩ (.bool false)) (· = p) := ((Kept.refl w2 (· = p)).setCell (p := ⟨p, 1, none⟩) (fun _ => rfl) _).setCell (p := ⟨p, 0, none⟩) (fun _ => rfl) (.bool false)
    refine hide ⟨⟨(hp2.set 1 _).set 0 (.bool false), hBp, (hrow.low (by omega)).kept hk (fun j hj e => by have := (hrow.lt hj).1; omega), hw, hn⟩, hv, hr2.kept hk (fun e => hne e.symm), ?_⟩
    exact ((k1.mono (fun _ _ h => .inr h)).trans k2 (fun _ _ h => .inr h)).trans hk (fun _ _ h => .inl h)
  clear hv hrow
  go_wp2_with fail
  all_goals
    (try simp only [Exit.inBlock, Exit.then])
    refine bodyPost_ret (results_three rfl _ _ _) rfl ?_
    exact ⟨rfl, _, ws, HF.out⟩

theorem eof_neq (a : Addr) (w : World) : (binOp .neq 57 (.iface 95 (.pointer (some a))) (.iface 95 (.pointer (some a)))).run Ybaf.prog w = .ok (.bool false) w := by
  obtain ⟨i, hi, hcmp⟩ := Option.map_eq_some_iff.1 eof_comp
  obtain ⟨j, hj⟩ := Option.isSome_iff_exists.1 eof_elem
  simp only [binOp]
  simp [Op.equal, Op.maxDepth, run_equalIn_iface_ptr_same w 9998 a Ybaf.underlying57 Ybaf.underlying95 hi hcmp hj]

set_option maxHeartbeats 1000000 in
set_option maxRecDepth 100000 in
theorem setFromScanner_any (p r B : Nat) (s : ByteArray) (ds : List Nat) (a : Addr) (w : World) (hs : Dig s ds) (h0 : 0 < s.size) (hr : Rd w r s 0) (he : Eof w a) (hr0 : 0 < r) (hp : At w p 34 [.bool false, .slice none 0 0]) (hp0 : 0 < p) (hBp : B ≤ p) :
    Calls Ybaf.prog 24 #[.pointer (some ⟨p, 0, none⟩), .iface 46 (.pointer (some ⟨r, 0, none⟩)), .int .i64 10] w fun e w' => e = .returned (.tuple #[.pointer (some ⟨p, 0, none⟩), .bool true]) ∧ ∃ v ws, BI w' B p false v ws ∧ val ws = dec ds ∧ Kept w w' (fun k => k = p ∨ k = r) := by
  have hq := fun w => eof_neq a w
  go_enter Ybaf.func24, Ybaf.ntmps24
  go_wp2_with fail
  refine (Int_scan_any p r B s ds a w hs h0 hr he hr0 hp hBp).mono ?_
  rintro e w1 ⟨rfl, v, ws, hb, hv, hr1, k1⟩
  have he1 : Eof w1 a := he.kept k1 (by omega)
  go_wp2_with (go_at_call 83; refine (ReadByte_eof r s.size s a _ hr1 (Nat.le_refl _) he1 hr0).mono ?_; rintro e w2 ⟨rfl, hr2, k2⟩; have hg2 : w2.cell? ⟨0, 0, none⟩ = some (.iface 95 (.pointer (some a))) := he1.kept k2 (by omega))
  go_ret2
  refine ⟨rfl, v, ws, hb.kept k2 ?_ ?_, hv, k1.trans k2 (fun _ _ h => .inr h)⟩
  · intro e
    obtain ⟨pr, hr⟩ := hr
    subst e
    exact absurd (At.one hp hr).1 (by decide)
  · intro j hj e
    subst e
    rcases hb.row with ⟨rfl, _⟩ | ⟨g, n, c, l, rfl, _, h2, _⟩
    · exact blk_nil hj
    · obtain rfl := blk_slice.1 hj
      obtain ⟨pr, hr1⟩ := hr1
      exact absurd (At.one h2 hr1).1 (by decide)

set_option maxHeartbeats 1000000 in
set_option maxRecDepth 100000 in
theorem NewReader_any (s : ByteArray) (w : World) : Calls Ybaf.prog 25 #[.string s] w fun e w' => e = .returned (.pointer (some ⟨w.heap.size, 0, none⟩)) ∧ Rd w' w.heap.size s 0 ∧ Kept w w' (fun _ => False) := by
  go_enter Ybaf.func25, Ybaf.ntmps25
  go_wp2_with fail
  go_ret
  exact ⟨rfl, ⟨-1, At.new w 63 _⟩, (Kept.refl w _).alloc _⟩

set_option maxHeartbeats 1000000 in
set_option maxRecDepth 100000 in
theorem SetString_any (p B : Nat) (s : ByteArray) (ds : List Nat) (a : Addr) (w : World) (hs : Dig s ds) (h0 : 0 < s.size) (he : Eof w a) (hp : At w p 34 [.bool false, .slice none 0 0]) (hp0 : 0 < p) (hBp : B ≤ p) :
    Calls Ybaf.prog 11 #[.pointer (some ⟨p, 0, none⟩), .string s, .int .i64 10] w fun e w' => e = .returned (.tuple #[.pointer (some ⟨p, 0, none⟩), .bool true]) ∧ ∃ v ws, BI w' B p false v ws ∧ val ws = dec ds ∧ Kept w w' (fun k => k = p) := by
  have hpl := hp.lt
  go_enter Ybaf.func11, Ybaf.ntmps11
  go_wp2_with fail
  refine (NewReader_any s w).mono ?_
  rintro e w1 ⟨rfl, hr1, k1⟩
  have hp1 := hp.kept k1 (fun h => h)
  have he1 : Eof w1 a := he.kept k1 (fun h => h)
  go_wp2_with fail
  refine (setFromScanner_any p w.heap.size B s ds a w1 hs h0 hr1 he1 (by omega) hp1 hp0 hBp).mono ?_
  rintro e w2 ⟨rfl, v, ws, hb, hv, k2⟩
  go_wp2_with fail
  go_ret2
  exact ⟨rfl, v, ws, hb, hv, (k1.mono (fun _ _ h => h.elim)).trans k2 (fun j hj h => by omega)⟩

end Go.Proofs.YbulkdgsoFmt.M
