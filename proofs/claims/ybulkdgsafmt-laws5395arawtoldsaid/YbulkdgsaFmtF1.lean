/-
  The walks of LawS5395AIndex and LawS5395ARaw.
-/
import Derived.Test.YbulkdgsaFmtF0
namespace Go.Proofs.YbulkdgsaFmt.N
open Go.RowKit Go.Extern.Stop Go.Stop Go.Extern

set_option maxHeartbeats 400000 in
set_option maxRecDepth 100000 in
theorem index_long (a : Option Addr) (len cap : Nat) (ty wh : ByteArray) (i : Int) (w : World) (h : 1024 < len) (hm : len ≤ maxLen) :
    Calls Ybaf.prog 3 #[.slice a len cap, .string ty, .string wh, .int .u64 i] w fun e w' => e = .returned (.bool true) ∧ Below w.heap.size w w' := by
  unfold maxLen at hm
  go_enter Ybaf.func3, Ybaf.ntmps3
  go_wp2_with fail
  go_ret
  exact ⟨rfl, Below.refl _ _⟩

set_option maxHeartbeats 400000 in
set_option maxRecDepth 100000 in
theorem index_in (b off len cap : Nat) (x ty wh : ByteArray) (i : Int) (k : Nat) (w : World) (h : len ≤ 1024) (hk : k < len) (hi0 : 0 ≤ i) (hi1 : i ≤ 18446744073709551615) (hik : i % ((len : Int) + 1) = k)
    (hb : b < w.heap.size) (hc : w.cell? ⟨b, off + k, none⟩ = some (.string x)) :
    Calls Ybaf.prog 3 #[.slice (some ⟨b, off, none⟩) len cap, .string ty, .string wh, .int .u64 i] w fun e w' => e = .returned (.bool true) ∧ Below w.heap.size w w' := by
  go_enter Ybaf.func3, Ybaf.ntmps3
  go_wp2_with fail
  refine (string_in ty wh b off len cap x k _ hk (by simp; omega) ?_).mono ?_
  · go_simp
  rintro e w1 ⟨rfl, hb1⟩
  have hb2 : Below w.heap.size w w1 := ((Below.refl _ _).alloc (Nat.le_refl _) _).trans (hb1.mono (by simp))
  have hc1 := (hb2.cell (p := ⟨b, off + k, none⟩) hb).trans hc
  clear hb1 hc
  go_wp2_with fail
  go_ret
  exact ⟨by simp, hb2⟩

set_option maxHeartbeats 400000 in
set_option maxRecDepth 100000 in
theorem index_out (F : Interp) (a : Option Addr) (len cap : Nat) (ty wh : ByteArray) (i : Int) (w : World) (h : len ≤ 1024) (hi0 : 0 ≤ i) (hi1 : i ≤ 18446744073709551615) (hik : i % ((len : Int) + 1) = len) (hF : F.answers w.tape) :
    Calls Ybaf.prog 3 #[.slice a len cap, .string ty, .string wh, .int .u64 i] w fun e w' => e = .returned (.bool true) ∧ Below w.heap.size w w' := by
  go_enter Ybaf.func3, Ybaf.ntmps3
  go_wp2_with fail
  refine (string_high F ty wh a len cap len _ (by exact hF) (by omega) (by omega)).mono ?_
  rintro e w1 ⟨⟨s, rfl⟩, hb1⟩
  have hb2 : Below w.heap.size w w1 := ((Below.refl _ _).alloc (Nat.le_refl _) _).trans (hb1.mono (by simp))
  clear hb1
  go_wp2_with fail
  go_ret
  exact ⟨rfl, hb2⟩

set_option maxHeartbeats 400000 in
set_option maxRecDepth 100000 in
theorem raw_long (a : Option Addr) (len cap : Nat) (ty wh : ByteArray) (i : Int) (w : World) (h : 1024 < len) (hm : len ≤ maxLen) :
    Calls Ybaf.prog 4 #[.slice a len cap, .string ty, .string wh, .int .i64 i] w fun e w' => e = .returned (.bool true) ∧ Below w.heap.size w w' := by
  unfold maxLen at hm
  go_enter Ybaf.func4, Ybaf.ntmps4
  go_wp2_with fail
  go_ret
  exact ⟨rfl, Below.refl _ _⟩

theorem new0 (w : World) (ty wh : ByteArray) (v : Value) : (w.alloc (.cells #[.string ty, .string wh, v] 25)).cell? ⟨w.heap.size, 0, none⟩ = some (.string ty) := by go_simp
theorem new1 (w : World) (ty wh : ByteArray) (v : Value) : (w.alloc (.cells #[.string ty, .string wh, v] 25)).cell? ⟨w.heap.size, 1, none⟩ = some (.string wh) := by go_simp
theorem new2 (w : World) (ty wh : ByteArray) (v : Value) : (w.alloc (.cells #[.string ty, .string wh, v] 25)).cell? ⟨w.heap.size, 2, none⟩ = some v := by go_simp

set_option maxHeartbeats 400000 in
set_option maxRecDepth 100000 in
theorem raw_in (b off len cap : Nat) (x ty wh : ByteArray) (k : Nat) (w : World) (h : len ≤ 1024) (hk : k < len)
    (hb : b < w.heap.size) (hc : w.cell? ⟨b, off + k, none⟩ = some (.string x)) :
    Calls Ybaf.prog 4 #[.slice (some ⟨b, off, none⟩) len cap, .string ty, .string wh, .int .i64 k] w fun e w' => e = .returned (.bool true) ∧ Below w.heap.size w w' := by
  have hd : decide (0 ≤ (k : Int)) = true := by simp
  go_enter Ybaf.func4, Ybaf.ntmps4
  go_wp2_with fail
  refine (string_in ty wh b off len cap x k _ hk (by simp; omega) ?_).mono ?_
  · go_simp
  rintro e w1 ⟨rfl, hb1⟩
  have hb2 : Below w.heap.size w w1 := ((Below.refl _ _).alloc (Nat.le_refl _) _).trans (hb1.mono (by simp))
  have c0 := (hb1.cell (p := ⟨w.heap.size, 0, none⟩) (by simp)).trans (new0 w ty wh _)
  have c1 := (hb1.cell (p := ⟨w.heap.size, 1, none⟩) (by simp)).trans (new1 w ty wh _)
  have c2 := (hb1.cell (p := ⟨w.heap.size, 2, none⟩) (by simp)).trans (new2 w ty wh _)
  have hc1 := (hb2.cell (p := ⟨b, off + k, none⟩) hb).trans hc
  have z1 : w.heap.size < w1.heap.size := by have := hb1.size; simp at this; omega
  clear hb1 hc
  go_wp2_with fail
  refine (name_in ty wh b off len cap x k _ hk (by omega) hc1).mono ?_
  rintro e w2 ⟨rfl, hb3⟩
  have hb4 := hb2.trans (hb3.mono hb2.size)
  have hc2 := (hb3.cell (p := ⟨b, off + k, none⟩) (by simp; omega)).trans hc1
  clear hb3 hb2 hc1 c0 c1 c2
  go_wp2_with fail
  go_ret
  exact ⟨rfl, hb4⟩

set_option maxHeartbeats 400000 in
set_option maxRecDepth 100000 in
theorem raw_out (F : Interp) (a : Option Addr) (len cap : Nat) (ty wh : ByteArray) (i : Int) (w : World) (h : len ≤ 1024) (hi : i < 0 ∨ (len : Int) ≤ i) (hF : F.answers w.tape) :
    Calls Ybaf.prog 4 #[.slice a len cap, .string ty, .string wh, .int .i64 i] w fun e w' => e = .returned (.bool true) ∧ Below w.heap.size w w' := by
  by_cases h0 : 0 ≤ i
  · have hd : decide (0 ≤ i) = true := by simp; omega
    have hi1 : (len : Int) ≤ i := by omega
    go_enter Ybaf.func4, Ybaf.ntmps4
    go_wp2_with fail
    refine (string_high F ty wh a len cap i _ (by exact hF) h0 hi1).mono ?_
    rintro e w1 ⟨⟨s, rfl⟩, hb1⟩
    have hb2 : Below w.heap.size w w1 := ((Below.refl _ _).alloc (Nat.le_refl _) _).trans (hb1.mono (by simp))
    have c0 := (hb1.cell (p := ⟨w.heap.size, 0, none⟩) (by simp)).trans (new0 w ty wh _)
    have c1 := (hb1.cell (p := ⟨w.heap.size, 1, none⟩) (by simp)).trans (new1 w ty wh _)
    have c2 := (hb1.cell (p := ⟨w.heap.size, 2, none⟩) (by simp)).trans (new2 w ty wh _)
    have z1 : w.heap.size < w1.heap.size := by have := hb1.size; simp at this; omega
    clear hb1
    go_wp2_with fail
    refine (name_high F ty wh a len cap i _ (by rw [hb2.tape]; exact hF) h0 hi1).mono ?_
    rintro e w2 ⟨⟨p, rfl⟩, hb3⟩
    have hb4 := hb2.trans (hb3.mono hb2.size)
    clear hb3 hb2 c0 c1 c2
    go_wp2_with fail
    go_ret
    exact ⟨rfl, hb4⟩
  · have hd : decide (0 ≤ i) = false := by simp; omega
    have hi1 : i < 0 := by omega
    go_enter Ybaf.func4, Ybaf.ntmps4
    go_wp2_with fail
    refine (string_low F ty wh a len cap i _ (by exact hF) hi1).mono ?_
    rintro e w1 ⟨⟨s, rfl⟩, hb1⟩
    have hb2 : Below w.heap.size w w1 := ((Below.refl _ _).alloc (Nat.le_refl _) _).trans (hb1.mono (by simp))
    have c0 := (hb1.cell (p := ⟨w.heap.size, 0, none⟩) (by simp)).trans (new0 w ty wh _)
    have c1 := (hb1.cell (p := ⟨w.heap.size, 1, none⟩) (by simp)).trans (new1 w ty wh _)
    have c2 := (hb1.cell (p := ⟨w.heap.size, 2, none⟩) (by simp)).trans (new2 w ty wh _)
    have z1 : w.heap.size < w1.heap.size := by have := hb1.size; simp at this; omega
    clear hb1
    go_wp2_with fail
    refine (name_low F ty wh a len cap i _ (by rw [hb2.tape]; exact hF) hi1).mono ?_
    rintro e w2 ⟨⟨p, rfl⟩, hb3⟩
    have hb4 := hb2.trans (hb3.mono hb2.size)
    clear hb3 hb2 c0 c1 c2
    go_wp2_with fail
    go_ret
    exact ⟨rfl, hb4⟩
end Go.Proofs.YbulkdgsaFmt.N
