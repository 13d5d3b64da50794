/-
  strings.Reader: ReadByte, UnreadByte; scanSign.
-/
import Derived.Test.YbulkdgsoFmtN2
import Derived.LaidEql
namespace Go.Proofs.YbulkdgsoFmt.M
open Go.RowKit

/-- Block r is a strings.Reader of s, at place i. -/
def Rd (w : World) (r : Nat) (s : ByteArray) (i : Nat) : Prop := ∃ pr : Int, At w r 63 [.string s, .int .i64 (i : Int), .int .i64 pr]
/-- io.EOF as it lies. -/
def Eof (w : World) (a : Addr) : Prop := w.cell? ⟨0, 0, none⟩ = some (.iface 95 (.pointer (some a)))

theorem Rd.kept {w w' : World} {r i : Nat} {s : ByteArray} {S : Nat → Prop} (h : Rd w r s i) (k : Kept w w' S) (hr : ¬ S r) : Rd w' r s i := by
  obtain ⟨pr, h⟩ := h
  exact ⟨pr, h.kept k hr⟩
theorem Rd.lt {w : World} {r i : Nat} {s : ByteArray} (h : Rd w r s i) : r < w.heap.size := by obtain ⟨_, h⟩ := h; exact h.lt
theorem Eof.kept {w w' : World} {a : Addr} {S : Nat → Prop} (h : Eof w a) (k : Kept w w' S) (h0 : ¬ S 0) : Eof w' a := k.cell h h0

set_option maxHeartbeats 1000000 in
set_option maxRecDepth 100000 in
theorem ReadByte_more (r i : Nat) (s : ByteArray) (w : World) (hr : Rd w r s i) (hi : i < s.size) (hs : s.size ≤ 4096) :
    Calls Ybaf.prog 83 #[.pointer (some ⟨r, 0, none⟩)] w fun e w' => e = .returned (.tuple #[.int .u8 (s[i].toNat : Int), .nilIface]) ∧ Rd w' r s (i + 1) ∧ Kept w w' (· = r) := by
  obtain ⟨pr, hat⟩ := hr
  have c0 : w.cell? ⟨r, 0, none⟩ = some (.string s) := hat.cell rfl
  have c1 : w.cell? ⟨r, 1, none⟩ = some (.int .i64 (i : Int)) := hat.cell rfl
  have c2 : w.cell? ⟨r, 2, none⟩ = some (.int .i64 pr) := hat.cell rfl
  have f1 := hat.frozen 1
  have f2 := hat.frozen 2
  have l1 : (i : Int) < (s.size : Int) := by omega
  have hd : decide ((s.size : Int) ≤ (i : Int)) = false := decide_eq_false (by omega)
  go_enter Ybaf.func83, Ybaf.ntmps83
  go_wp2_with fail
  go_quiet (fail)
  go_wp2_with fail
  go_quiet (fail)
  go_wp2_with fail
  go_ret2
  refine ⟨rfl, ⟨-1, ?_⟩, (((Kept.refl w (· = r)).setCell (fun _ => rfl) _).drewN _).setCell (fun _ => rfl) _⟩
  exact ((hat.set 2 (.int .i64 (-1))).drewN _).set 1 (.int .i64 ((i : Int) + 1))

set_option maxHeartbeats 1000000 in
set_option maxRecDepth 100000 in
theorem ReadByte_eof (r i : Nat) (s : ByteArray) (a : Addr) (w : World) (hr : Rd w r s i) (hi : s.size ≤ i) (he : Eof w a) (hr0 : 0 < r) :
    Calls Ybaf.prog 83 #[.pointer (some ⟨r, 0, none⟩)] w fun e w' => e = .returned (.tuple #[.int .u8 0, .iface 95 (.pointer (some a))]) ∧ Rd w' r s i ∧ Kept w w' (· = r) := by
  obtain ⟨pr, hat⟩ := hr
  have c0 : w.cell? ⟨r, 0, none⟩ = some (.string s) := hat.cell rfl
  have c1 : w.cell? ⟨r, 1, none⟩ = some (.int .i64 (i : Int)) := hat.cell rfl
  have c2 : w.cell? ⟨r, 2, none⟩ = some (.int .i64 pr) := hat.cell rfl
  have f2 := hat.frozen 2
  have hd : decide ((s.size : Int) ≤ (i : Int)) = true := decide_eq_true (by omega)
  have hg : w.cell? ⟨0, 0, none⟩ = some (.iface 95 (.pointer (some a))) := he
  have hr1 : ¬ r = 0 := by omega
  have hr2 : ¬ 0 = r := by omega
  go_enter Ybaf.func83, Ybaf.ntmps83
  go_wp2_with fail
  go_quiet (fail)
  go_wp2_with fail
  go_quiet (fail)
  go_wp2_with fail
  go_ret2
  refine ⟨rfl, ⟨-1, ?_⟩, ?_⟩
  · exact ((hat.set 2 (.int .i64 (-1))).drewN _).drewN _
  · exact (((Kept.refl w (· = r)).setCell (fun _ => rfl) _).drewN _).drewN _

set_option maxHeartbeats 1000000 in
set_option maxRecDepth 100000 in
theorem UnreadByte_any (r i : Nat) (s : ByteArray) (w : World) (hr : Rd w r s (i + 1)) (hi4 : i ≤ 4096) :
    Calls Ybaf.prog 84 #[.pointer (some ⟨r, 0, none⟩)] w fun e w' => e = .returned .nilIface ∧ Rd w' r s i ∧ Kept w w' (· = r) := by
  obtain ⟨pr, hat⟩ := hr
  have c0 : w.cell? ⟨r, 0, none⟩ = some (.string s) := hat.cell rfl
  have c1 : w.cell? ⟨r, 1, none⟩ = some (.int .i64 ((i + 1 : Nat) : Int)) := hat.cell rfl
  have c2 : w.cell? ⟨r, 2, none⟩ = some (.int .i64 pr) := hat.cell rfl
  have f1 := hat.frozen 1
  have f2 := hat.frozen 2
  have hp : ¬ ((i : Int) + 1 ≤ 0) := by omega
  go_enter Ybaf.func84, Ybaf.ntmps84
  go_wp2_with fail
  go_ret
  refine ⟨rfl, ⟨-1, ?_⟩, (((Kept.refl w (· = r)).setCell (fun _ => rfl) _)).setCell (fun _ => rfl) _⟩
  exact (hat.set 2 (.int .i64 (-1))).set 1 (.int .i64 (i : Int))

theorem method_read (a : Addr) (w : World) : (method 230 46 (.pointer (some a)) "ReadByte").run Ybaf.prog w = .ok (83, .pointer (some a)) w := by kernel_rfl
theorem method_unread (a : Addr) (w : World) : (method 230 46 (.pointer (some a)) "UnreadByte").run Ybaf.prog w = .ok (84, .pointer (some a)) w := by kernel_rfl
attribute [local go_sem] method_read method_unread

set_option maxHeartbeats 1000000 in
set_option maxRecDepth 100000 in
/-- The sign of a text that opens with a digit. -/
theorem scanSign_any (r : Nat) (s : ByteArray) (w : World) (hr : Rd w r s 0) (h0 : 0 < s.size) (hs : s.size ≤ 4096) (hd : 48 ≤ s[0].toNat) :
    Calls Ybaf.prog 45 #[.iface 46 (.pointer (some ⟨r, 0, none⟩))] w fun e w' => e = .returned (.tuple #[.bool false, .nilIface]) ∧ Rd w' r s 0 ∧ Kept w w' (· = r) := by
  have n1 : ¬ ((s[0].toNat : Int) = 45) := by omega
  have n2 : ¬ ((s[0].toNat : Int) = 43) := by omega
  go_enter Ybaf.func45, Ybaf.ntmps45
  go_wp2_with (go_at_call 83; refine (ReadByte_more r 0 s _ hr h0 hs).mono ?_; rintro e w1 ⟨rfl, hr1, k1⟩)
  go_wp2_with (go_at_call 84; refine (UnreadByte_any r 0 s _ hr1 (by omega)).mono ?_; rintro e w2 ⟨rfl, hr2, k2⟩)
  go_ret2
  exact ⟨rfl, hr2, k1.trans k2 (fun _ _ h => h)⟩
end Go.Proofs.YbulkdgsoFmt.M
