/-
  The closed facts for a walk over fmt's stopped fronts in this dump (typed after the guide's generated 'Fmt' texts), and the walks of (Table).String and (Table).Name.
-/
import Derived.Test.YbulkdgsaFmtRows
import Derived.WalkKit
import Derived.WalkSpells
import Derived.WalkLawsBesides
import Derived.Stop.CallBack
import Derived.Stop.IfaceNil
import GoSem.ClaimData
namespace Go.Proofs.YbulkdgsaFmt.N
open Go.RowKit Go.Extern.Stop Go.Stop Go.Extern

@[go_sem] theorem call7 (args : Array Value) (w : World) : (callFunc 7 args).run Ybaf.prog w = ((FmtStop.sprintf #[9, 35] #[9] args).run Ybaf.prog w).andThen fun v w' => .ok (.value v) w' :=
  run_callFunc_extern Ybaf.func7 (by kernel_rfl) (by kernel_rfl) (by kernel_rfl) (by kernel_rfl) args w
@[go_sem] theorem call9 (args : Array Value) (w : World) : (callFunc 9 args).run Ybaf.prog w = ((FmtStop.errorf #[9, 35] #[29] args).run Ybaf.prog w).andThen fun v w' => .ok (.value v) w' :=
  run_callFunc_extern Ybaf.func9 (by kernel_rfl) (by kernel_rfl) (by kernel_rfl) (by kernel_rfl) args w
@[go_sem] theorem guard (name : String) (w : World) : (FmtStop.guard name).run Ybaf.prog w = .ok () w := by kernel_rfl

@[go_sem] theorem fmt0 : FmtStop.printed? ⟨#[37, 115, 40, 37, 100, 41]⟩ 2 = some [(0, 115, false), (1, 100, false)] := by kernel_rfl
@[go_sem] theorem fmt0r (w : World) : (FmtDoors.printed ⟨#[37, 115, 40, 37, 100, 41]⟩ 2).run Ybaf.prog w = .ok [(0, 115, false), (1, 100, false)] w := by kernel_rfl
@[go_sem] theorem fmt1 : FmtStop.printed? ⟨#[117, 110, 107, 110, 111, 119, 110, 32, 37, 115, 32, 37, 100]⟩ 2 = some [(0, 115, false), (1, 100, false)] := by kernel_rfl
@[go_sem] theorem fmt1r (w : World) : (FmtDoors.printed ⟨#[117, 110, 107, 110, 111, 119, 110, 32, 37, 115, 32, 37, 100]⟩ 2).run Ybaf.prog w = .ok [(0, 115, false), (1, 100, false)] w := by kernel_rfl

def shape3 : List UInt8 := [5, 3, 0, 0, 0, 0, 0, 0, 0, 105, 110, 116]
def shape9 : List UInt8 := [12, 6, 0, 0, 0, 0, 0, 0, 0, 115, 116, 114, 105, 110, 103]
@[go_sem] theorem op3_100 (name : String) (x : Int) (w : World) : (FmtStop.operand name false 100 false (.iface 3 (.int .i64 x))).run Ybaf.prog w = .ok (shape3, Go.Extern.Stop.digits 8 (x % 2 ^ 64).toNat) w := by kernel_rfl
@[go_sem] theorem op9_115 (name : String) (x : ByteArray) (w : World) : (FmtStop.operand name false 115 false (.iface 9 (.string x))).run Ybaf.prog w = .ok (shape9, FmtStop.pack x.data.toList) w := by kernel_rfl
@[go_sem] theorem op3_100w (name : String) (x : Int) (w : World) : (FmtStop.operand name true 100 false (.iface 3 (.int .i64 x))).run Ybaf.prog w = .ok (shape3, Go.Extern.Stop.digits 8 (x % 2 ^ 64).toNat) w := by kernel_rfl
@[go_sem] theorem op9_115w (name : String) (x : ByteArray) (w : World) : (FmtStop.operand name true 115 false (.iface 9 (.string x))).run Ybaf.prog w = .ok (shape9, FmtStop.pack x.data.toList) w := by kernel_rfl
@[go_sem] theorem ptr38 (w : World) : (FmtStop.ptrTo "errors.errorString").run Ybaf.prog w = .ok 38 w := by kernel_rfl
@[go_sem] theorem elem38 (w : World) : (elemOf 38).run Ybaf.prog w = .ok 40 w := by kernel_rfl
@[go_sem] theorem isError38 (w : World) : (FmtDoors.textMethod 38 "Error").run Ybaf.prog w = .ok true w := by kernel_rfl

set_option maxHeartbeats 400000 in
set_option maxRecDepth 100000 in
theorem string_low (F : Interp) (ty wh : ByteArray) (a : Option Addr) (len cap : Nat) (i : Int) (w : World) (hF : F.answers w.tape) (hi : i < 0) :
    Calls Ybaf.prog 5 #[.agg #[.string ty, .string wh, .slice a len cap], .int .i64 i] w fun e w' => (∃ s, e = .returned (.string s)) ∧ Below w.heap.size w w' := by
  have hF' := answers_open hF
  have hd : decide (i < 0) = true := by simp; omega
  go_enter Ybaf.func5, Ybaf.ntmps5
  go_wp2
  go_ret
  exact ⟨⟨_, rfl⟩, (((Below.refl _ _).alloc (Nat.le_refl _) _).alloc (by simp) _).drew⟩

set_option maxHeartbeats 400000 in
set_option maxRecDepth 100000 in
theorem string_high (F : Interp) (ty wh : ByteArray) (a : Option Addr) (len cap : Nat) (i : Int) (w : World) (hF : F.answers w.tape) (h0 : 0 ≤ i) (hi : (len : Int) ≤ i) :
    Calls Ybaf.prog 5 #[.agg #[.string ty, .string wh, .slice a len cap], .int .i64 i] w fun e w' => (∃ s, e = .returned (.string s)) ∧ Below w.heap.size w w' := by
  have hF' := answers_open hF
  have hd : decide (i < 0) = false := by simp; omega
  go_enter Ybaf.func5, Ybaf.ntmps5
  go_wp2
  go_ret
  exact ⟨⟨_, rfl⟩, (((Below.refl _ _).alloc (Nat.le_refl _) _).alloc (by simp) _).drew⟩

set_option maxHeartbeats 400000 in
set_option maxRecDepth 100000 in
theorem string_in (ty wh : ByteArray) (b off len cap : Nat) (x : ByteArray) (k : Nat) (w : World) (hk : k < len) (hb : b < w.heap.size) (hc : w.cell? ⟨b, off + k, none⟩ = some (.string x)) :
    Calls Ybaf.prog 5 #[.agg #[.string ty, .string wh, .slice (some ⟨b, off, none⟩) len cap], .int .i64 k] w fun e w' => e = .returned (.string x) ∧ Below w.heap.size w w' := by
  have hd : decide ((k : Int) < 0) = false := by simp
  go_enter Ybaf.func5, Ybaf.ntmps5
  go_wp2
  go_ret
  exact ⟨rfl, (Below.refl _ _).alloc (Nat.le_refl _) _⟩

set_option maxHeartbeats 400000 in
set_option maxRecDepth 100000 in
theorem name_low (F : Interp) (ty wh : ByteArray) (a : Option Addr) (len cap : Nat) (i : Int) (w : World) (hF : F.answers w.tape) (hi : i < 0) :
    Calls Ybaf.prog 6 #[.agg #[.string ty, .string wh, .slice a len cap], .int .i64 i] w fun e w' => (∃ p, e = .returned (.tuple #[.string ⟨#[]⟩, .iface 38 p])) ∧ Below w.heap.size w w' := by
  have hF' := answers_open hF
  have hd : decide (i < 0) = true := by simp; omega
  go_enter Ybaf.func6, Ybaf.ntmps6
  go_wp2
  go_ret2
  exact ⟨⟨_, rfl⟩, ((((Below.refl _ _).alloc (Nat.le_refl _) _).alloc (by simp) _).alloc (by simp; omega) _).drew⟩

set_option maxHeartbeats 400000 in
set_option maxRecDepth 100000 in
theorem name_high (F : Interp) (ty wh : ByteArray) (a : Option Addr) (len cap : Nat) (i : Int) (w : World) (hF : F.answers w.tape) (h0 : 0 ≤ i) (hi : (len : Int) ≤ i) :
    Calls Ybaf.prog 6 #[.agg #[.string ty, .string wh, .slice a len cap], .int .i64 i] w fun e w' => (∃ p, e = .returned (.tuple #[.string ⟨#[]⟩, .iface 38 p])) ∧ Below w.heap.size w w' := by
  have hF' := answers_open hF
  have hd : decide (i < 0) = false := by simp; omega
  go_enter Ybaf.func6, Ybaf.ntmps6
  go_wp2
  go_ret2
  exact ⟨⟨_, rfl⟩, ((((Below.refl _ _).alloc (Nat.le_refl _) _).alloc (by simp) _).alloc (by simp; omega) _).drew⟩

set_option maxHeartbeats 400000 in
set_option maxRecDepth 100000 in
theorem name_in (ty wh : ByteArray) (b off len cap : Nat) (x : ByteArray) (k : Nat) (w : World) (hk : k < len) (hb : b < w.heap.size) (hc : w.cell? ⟨b, off + k, none⟩ = some (.string x)) :
    Calls Ybaf.prog 6 #[.agg #[.string ty, .string wh, .slice (some ⟨b, off, none⟩) len cap], .int .i64 k] w fun e w' => e = .returned (.tuple #[.string x, .nilIface]) ∧ Below w.heap.size w w' := by
  have hd : decide ((k : Int) < 0) = false := by simp
  go_enter Ybaf.func6, Ybaf.ntmps6
  go_wp2
  go_ret2
  exact ⟨rfl, (Below.refl _ _).alloc (Nat.le_refl _) _⟩
end Go.Proofs.YbulkdgsaFmt.N
