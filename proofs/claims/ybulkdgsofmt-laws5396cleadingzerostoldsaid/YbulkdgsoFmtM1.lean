/-
  Memory: rows of words, what is kept; bits.Add, bits.Mul, mulAddWWW_g.
-/
import Derived.Test.YbulkdgsoFmtRows
import Derived.Test.YbulkdgsoFmtM0
import Derived.WalkKit
import Derived.WalkSpells
import Derived.WalkLawsBesides
import Derived.Laws.Twins
import Derived.Laws.Bits64b
import Derived.Lib.Mul64
import Derived.Deep.QuietTactic
import Derived.BigQuiet
namespace Go.Proofs.YbulkdgsoFmt.M
open Go.RowKit

theorem hide {p : Prop} (h : p) : Hid p := h

/-- A word as a cell. -/
abbrev U (x : Nat) : Value := .int .u64 (x : Int)

/-- Block b of w is a row of cells of type t, not frozen: the values l. -/
def At (w : World) (b : Nat) (t : TypeId) (l : List Value) : Prop := w.heap[b]? = some (.cells l.toArray t (0, 0))

/-- What w' has kept of w: all old blocks but those of S. -/
structure Kept (w w' : World) (S : Nat → Prop) : Prop where
  os : w'.os = w.os
  tape : w'.tape = w.tape
  output : w'.output = w.output
  size : w.heap.size ≤ w'.heap.size
  block : ∀ k, k < w.heap.size → ¬ S k → w'.heap[k]? = w.heap[k]?

theorem At.lt {w : World} {b : Nat} {t : TypeId} {l : List Value} (h : At w b t l) : b < w.heap.size := (Array.getElem?_eq_some_iff.1 h).1
theorem At.cell {w : World} {b : Nat} {t : TypeId} {l : List Value} (h : At w b t l) {j : Nat} {v : Value} (hj : l[j]? = some v) : w.cell? ⟨b, j, none⟩ = some v := by
  rw [cell_of_row w b j _ t (0, 0) h]; simpa using hj
theorem At.cell_inv {w : World} {b : Nat} {t : TypeId} {l : List Value} (h : At w b t l) {j : Nat} {v : Value} (hj : w.cell? ⟨b, j, none⟩ = some v) : l[j]? = some v := by
  rw [cell_of_row w b j _ t (0, 0) h] at hj; simpa using hj
theorem At.frozen {w : World} {b : Nat} {t : TypeId} {l : List Value} (h : At w b t l) (j : Nat) : w.frozen? ⟨b, j, none⟩ = false := by
  simp [World.frozen?, show w.heap[b]? = _ from h]
theorem At.set {w : World} {b : Nat} {t : TypeId} {l : List Value} (h : At w b t l) (j : Nat) (v : Value) : At (w.setCell ⟨b, j, none⟩ v) b t (l.set j v) := by
  unfold At at h ⊢
  simp [World.setCell, Array.getElem?_modify, h]
theorem At.setOther {w : World} {b : Nat} {t : TypeId} {l : List Value} (h : At w b t l) {a : Addr} (hb : b ≠ a.block) (v : Value) : At (w.setCell a v) b t l := by
  unfold At at h ⊢
  rw [Below.heap_setCell _ _ _ _ hb]; exact h
theorem At.kept {w w' : World} {b : Nat} {t : TypeId} {l : List Value} {S : Nat → Prop} (h : At w b t l) (k : Kept w w' S) (hb : ¬ S b) : At w' b t l := (k.block b h.lt hb).trans h
theorem At.alloc {w : World} {b : Nat} {t : TypeId} {l : List Value} (h : At w b t l) (o : Obj) : At (w.alloc o) b t l := (Below.heap_alloc w o b h.lt).trans h
theorem At.drewN {w : World} {b : Nat} {t : TypeId} {l : List Value} (h : At w b t l) (q : Nat) : At (w.drewN q) b t l := h
theorem At.new (w : World) (t : TypeId) (l : List Value) : At (w.alloc (.cells l.toArray t)) w.heap.size t l := heap_alloc_new w _
theorem At.one {w : World} {b : Nat} {t t' : TypeId} {l l' : List Value} (h : At w b t l) (h' : At w b t' l') : t = t' ∧ l = l' := by
  unfold At at h h'
  rw [h] at h'
  simp only [Option.some.injEq, Obj.cells.injEq, Array.mk.injEq] at h'
  exact ⟨h'.2.1, by simpa using h'.1⟩

theorem Kept.refl (w : World) (S : Nat → Prop) : Kept w w S := ⟨rfl, rfl, rfl, Nat.le_refl _, fun _ _ _ => rfl⟩
theorem Kept.trans {a b c : World} {S T : Nat → Prop} (h : Kept a b S) (k : Kept b c T) (hT : ∀ j, j < a.heap.size → T j → S j) : Kept a c S :=
  ⟨k.os.trans h.os, k.tape.trans h.tape, k.output.trans h.output, Nat.le_trans h.size k.size, fun j hj hS => (k.block j (Nat.lt_of_lt_of_le hj h.size) (fun ht => hS (hT j hj ht))).trans (h.block j hj hS)⟩
theorem Kept.mono {a b : World} {S T : Nat → Prop} (h : Kept a b S) (hT : ∀ j, j < a.heap.size → S j → T j) : Kept a b T :=
  ⟨h.os, h.tape, h.output, h.size, fun j hj hS => h.block j hj (fun hs => hS (hT j hj hs))⟩
theorem Kept.drewN {a b : World} {S : Nat → Prop} (h : Kept a b S) (q : Nat) : Kept a (b.drewN q) S := ⟨h.os, h.tape, h.output, h.size, h.block⟩
theorem Kept.drew {a b : World} {S : Nat → Prop} (h : Kept a b S) : Kept a b.drew S := ⟨h.os, h.tape, h.output, h.size, h.block⟩
theorem Kept.setCell {a b : World} {S : Nat → Prop} (h : Kept a b S) {p : Addr} (hp : p.block < a.heap.size → S p.block) (v : Value) : Kept a (b.setCell p v) S :=
  ⟨h.os, h.tape, h.output, by simpa [World.setCell] using h.size, fun j hj hS => (Below.heap_setCell _ _ _ _ (fun e => hS (by rw [e]; exact hp (e ▸ hj)))).trans (h.block j hj hS)⟩
theorem Kept.alloc {a b : World} {S : Nat → Prop} (h : Kept a b S) (o : Obj) : Kept a (b.alloc o) S :=
  ⟨h.os, h.tape, h.output, Nat.le_trans h.size (by simp), fun j hj hS => (Below.heap_alloc _ _ _ (Nat.lt_of_lt_of_le hj h.size)).trans (h.block j hj hS)⟩
theorem Kept.of_grown {a b : World} {row : Option Nat} (h : a.grownBy b row) : Kept a b (fun k => some k = row) := ⟨h.os, h.tape, h.output, h.size, fun j hj hS => h.block j hj hS⟩
theorem Kept.of_below {a b : World} (h : Below a.heap.size a b) (S : Nat → Prop) : Kept a b S := ⟨h.os, h.tape, h.output, h.size, fun j hj _ => h.block j hj⟩
theorem Kept.below {a b : World} {S : Nat → Prop} {B : Nat} (h : Kept a b S) (hB : B ≤ a.heap.size) (hS : ∀ j, S j → B ≤ j) : Below B a b :=
  ⟨h.os, h.tape, h.output, h.size, fun j hj => h.block j (by omega) (fun s => by have := hS j s; omega)⟩
theorem Kept.cell {a b : World} {S : Nat → Prop} (h : Kept a b S) {p : Addr} {v : Value} (hp : a.cell? p = some v) (hS : ¬ S p.block) : b.cell? p = some v :=
  (World.cell?_of_block (h.block p.block (World.block_lt_of_cell? a p hp) hS)).trans hp

/-- The slice v is the nat of the words ws: nil, or the head of a row of words of the call's own (block B or later). -/
def Row (w : World) (B : Nat) (v : Value) (ws : List Nat) : Prop :=
  (v = .slice none 0 0 ∧ ws = []) ∨
  ∃ g n c l, v = .slice (some ⟨g, 0, none⟩) n c ∧ B ≤ g ∧ At w g 48 l ∧ l.length = c ∧ c ≤ maxLen ∧ n ≤ c ∧ ws.length = n ∧ l.take n = ws.map U

/-- The block of a slice of the call's own. -/
def blk (v : Value) (k : Nat) : Prop := v.ownBlock = some k

theorem blk_slice {g n c : Nat} {k : Nat} : blk (.slice (some ⟨g, 0, none⟩) n c) k ↔ k = g := by
  unfold blk; simp [Value.ownBlock]; exact eq_comm
theorem blk_nil {n c k : Nat} : ¬ blk (.slice none n c) k := by unfold blk; simp [Value.ownBlock]

theorem Row.kept {w w' : World} {B : Nat} {v : Value} {ws : List Nat} {S : Nat → Prop} (h : Row w B v ws) (k : Kept w w' S) (hS : ∀ j, blk v j → ¬ S j) : Row w' B v ws := by
  rcases h with h | ⟨g, n, c, l, rfl, h1, h2, r⟩
  · exact .inl h
  · exact .inr ⟨g, n, c, l, rfl, h1, h2.kept k (hS g (blk_slice.2 rfl)), r⟩
theorem Row.lt {w : World} {B : Nat} {v : Value} {ws : List Nat} (h : Row w B v ws) {j : Nat} (hj : blk v j) : B ≤ j ∧ j < w.heap.size := by
  rcases h with ⟨rfl, _⟩ | ⟨g, n, c, l, rfl, h1, h2, _⟩
  · exact absurd hj blk_nil
  · rw [blk_slice] at hj; subst hj; exact ⟨h1, h2.lt⟩
theorem Row.nil (w : World) (B : Nat) : Row w B (.slice none 0 0) [] := .inl ⟨rfl, rfl⟩
theorem Row.form {w : World} {B : Nat} {v : Value} {ws : List Nat} (h : Row w B v ws) : ∃ ao c, v = .slice ao ws.length c ∧ ws.length ≤ c ∧ c ≤ maxLen := by
  rcases h with ⟨rfl, rfl⟩ | ⟨g, n, c, l, rfl, h1, h2, h3, h4, h5, rfl, h7⟩
  · exact ⟨none, 0, rfl, Nat.le_refl _, Nat.zero_le _⟩
  · exact ⟨_, _, rfl, h5, h4⟩
theorem Row.alloc {w : World} {B : Nat} {v : Value} {ws : List Nat} (h : Row w B v ws) (o : Obj) : Row (w.alloc o) B v ws := h.kept ((Kept.refl w (fun _ => False)).alloc o) (fun _ _ h => h)

/-! ### words -/
theorem bounds_word {x : Nat} (h : x < 18446744073709551616) : (0 : Int) ≤ (x : Int) ∧ (x : Int) ≤ 18446744073709551615 := by omega

set_option maxHeartbeats 400000 in
theorem badd (x y c : Nat) (hx : x < 18446744073709551616) (hy : y < 18446744073709551616) (hc : c ≤ 1) (w : World) :
    Calls Ybaf.prog 41 #[.int .u64 x, .int .u64 y, .int .u64 c] w fun e w' => e = .returned (.tuple #[.int .u64 (((x + y + c) % 18446744073709551616 : Nat) : Int), .int .u64 (((x + y + c) / 18446744073709551616 : Nat) : Int)]) ∧ w' = w := by
  have h48 : (callFunc 48 #[.int .u64 x, .int .u64 y, .int .u64 c]).run Ybaf.prog w = .ok (.value (.tuple #[.int .u64 (((x + y + c) % 18446744073709551616 : Nat) : Int), .int .u64 (((x + y + c) / 18446744073709551616 : Nat) : Int)])) w := by
    rw [run_callFunc_extern (e := add64Entry) Ybaf.func48 (by kernel_rfl) (by kernel_rfl) (by kernel_rfl) (by kernel_rfl), run_add64 _ _ _ (by omega) (by omega) (by omega) (by omega)]
    rfl
  obtain ⟨s, hs⟩ : ∃ s : Nat, s = (x + y + c) % 18446744073709551616 := ⟨_, rfl⟩
  obtain ⟨d, hd⟩ : ∃ s : Nat, s = (x + y + c) / 18446744073709551616 := ⟨_, rfl⟩
  rw [← hs, ← hd] at h48 ⊢
  clear hs hd
  go_enter Ybaf.func41, Ybaf.ntmps41
  go_wp2_with (simp only [h48])
  go_ret2
  exact ⟨rfl, rfl⟩

theorem maskN (a : Nat) (ha : a < 18446744073709551616) : bits .and .u64 (a : Int) 4294967295 = ((a % 4294967296 : Nat) : Int) := by
  have h := bits_and_u64_nat a 4294967295 ha (by omega)
  rw [show a &&& 4294967295 = a % 4294967296 from Nat.and_two_pow_sub_one_eq_mod a 32] at h
  exact h
theorem divN (a : Nat) : (a : Int) / 4294967296 = ((a / 4294967296 : Nat) : Int) := by omega
theorem mulN (a b : Nat) : (a : Int) * (b : Int) = ((a * b : Nat) : Int) := (Int.natCast_mul a b).symm
theorem addN (a b : Nat) : (a : Int) + (b : Int) = ((a + b : Nat) : Int) := (Int.natCast_add a b).symm
theorem wrapN (a : Nat) (ha : a < 18446744073709551616) : IntKind.u64.wrap (a : Int) = (a : Int) := by rw [IntKind.wrap_u64]; omega
theorem wrapM (a : Nat) : IntKind.u64.wrap (a : Int) = ((a % 18446744073709551616 : Nat) : Int) := by rw [IntKind.wrap_u64]; omega

set_option maxHeartbeats 1000000 in
theorem bmul64 (x y : Nat) (hx : x < 18446744073709551616) (hy : y < 18446744073709551616) (w : World) :
    Calls Ybaf.prog 62 #[.int .u64 x, .int .u64 y] w fun e w' => e = .returned (.tuple #[.int .u64 ((x * y / 18446744073709551616 : Nat) : Int), .int .u64 ((x * y % 18446744073709551616 : Nat) : Int)]) ∧ w' = w := by
  obtain ⟨bd, bt, bw, hhi⟩ := Lib.mul64_hi x y hx hy
  have ba := Lib.half_mul_le (a := x / 4294967296) (b := y / 4294967296) (by omega) (by omega)
  have bb := Lib.half_mul_le (a := x / 4294967296) (b := y % 4294967296) (by omega) (by omega)
  have bc := Lib.half_mul_le (a := x % 4294967296) (b := y / 4294967296) (by omega) (by omega)
  have ba' : x / 4294967296 * (y / 4294967296) < 18446744073709551616 := by omega
  have bb' : x / 4294967296 * (y % 4294967296) < 18446744073709551616 := by omega
  have bc' : x % 4294967296 * (y / 4294967296) < 18446744073709551616 := by omega
  have bh1 : x / 4294967296 * (y / 4294967296) + (x / 4294967296 * (y % 4294967296) + x % 4294967296 * (y % 4294967296) / 4294967296) / 4294967296 < 18446744073709551616 := by omega
  have bh : x / 4294967296 * (y / 4294967296) + (x / 4294967296 * (y % 4294967296) + x % 4294967296 * (y % 4294967296) / 4294967296) / 4294967296 + ((x / 4294967296 * (y % 4294967296) + x % 4294967296 * (y % 4294967296) / 4294967296) % 4294967296 + x % 4294967296 * (y / 4294967296)) / 4294967296 < 18446744073709551616 := by omega
  go_enter Ybaf.func62, Ybaf.ntmps62
  go_wp2
  simp only [maskN x hx, maskN y hy, divN, mulN, addN, wrapN _ bd, wrapN _ bb', wrapN _ bt, maskN _ bt, wrapN _ bc', wrapN _ bw, wrapN _ ba', wrapN _ bh1, wrapN _ bh, wrapM (x * y)]
  rw [hhi]
  go_ret2
  exact ⟨rfl, rfl⟩

set_option maxHeartbeats 400000 in
theorem bmul (x y : Nat) (hx : x < 18446744073709551616) (hy : y < 18446744073709551616) (w : World) :
    Calls Ybaf.prog 60 #[.int .u64 x, .int .u64 y] w fun e w' => e = .returned (.tuple #[.int .u64 ((x * y / 18446744073709551616 : Nat) : Int), .int .u64 ((x * y % 18446744073709551616 : Nat) : Int)]) ∧ w' = w := by
  have c := bmul64 x y hx hy w
  obtain ⟨h, hh⟩ : ∃ s : Nat, s = x * y / 18446744073709551616 := ⟨_, rfl⟩
  obtain ⟨l, hl⟩ : ∃ s : Nat, s = x * y % 18446744073709551616 := ⟨_, rfl⟩
  rw [← hh, ← hl] at c ⊢
  clear hh hl
  go_enter Ybaf.func60, Ybaf.ntmps60
  go_wp2_with (go_at_call 62; refine c.mono ?_; rintro e w' ⟨rfl, rfl⟩)
  go_ret2
  exact ⟨rfl, rfl⟩

/-- x * y + c as two words. -/
theorem muladd_bound (x y c : Nat) (hx : x < 18446744073709551616) (hy : y < 18446744073709551616) (hc : c < 18446744073709551616) : (x * y + c) / 18446744073709551616 < 18446744073709551616 := by
  have : x * y ≤ 18446744073709551615 * 18446744073709551615 := Nat.mul_le_mul (by omega) (by omega)
  omega

set_option maxHeartbeats 400000 in
theorem mulAddWWW (x y c : Nat) (hx : x < 18446744073709551616) (hy : y < 18446744073709551616) (hc : c < 18446744073709551616) (w : World) :
    Calls Ybaf.prog 58 #[.int .u64 x, .int .u64 y, .int .u64 c] w fun e w' => e = .returned (.tuple #[.int .u64 (((x * y + c) / 18446744073709551616 : Nat) : Int), .int .u64 (((x * y + c) % 18446744073709551616 : Nat) : Int)]) ∧ w' = w := by
  have hb := muladd_bound x y c hx hy hc
  have c1 := bmul x y hx hy w
  have hh : x * y / 18446744073709551616 + (x * y % 18446744073709551616 + c) / 18446744073709551616 = (x * y + c) / 18446744073709551616 := by omega
  have hl : (x * y % 18446744073709551616 + c) % 18446744073709551616 = (x * y + c) % 18446744073709551616 := by omega
  have k1 : x * y % 18446744073709551616 < 18446744073709551616 := by omega
  have HB : (x * y / 18446744073709551616) + (x * y % 18446744073709551616 + c) / 18446744073709551616 < 18446744073709551616 := by omega
  rw [← hh, ← hl]
  clear hh hl hb
  generalize x * y / 18446744073709551616 = h at *
  generalize x * y % 18446744073709551616 = l at *
  have c2 := badd l c 0 k1 hc (by decide) w
  rw [Nat.add_zero] at c2
  obtain ⟨s, hs⟩ : ∃ s : Nat, s = (l + c) % 18446744073709551616 := ⟨_, rfl⟩
  obtain ⟨d, hd⟩ : ∃ s : Nat, s = (l + c) / 18446744073709551616 := ⟨_, rfl⟩
  rw [← hd] at HB
  rw [← hs, ← hd] at c2 ⊢
  clear hs hd
  go_enter Ybaf.func58, Ybaf.ntmps58
  go_wp2_with (first
    | (go_at_call 60; refine c1.mono ?_; rintro e w' ⟨rfl, rfl⟩)
    | (go_at_call 41; refine c2.mono ?_; rintro e w' ⟨rfl, rfl⟩))
  go_ret2
  exact ⟨by rw [Int.natCast_add]; rfl, rfl⟩
end Go.Proofs.YbulkdgsoFmt.M
