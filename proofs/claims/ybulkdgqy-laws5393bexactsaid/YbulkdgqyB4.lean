/-
  The walk of 'LawS5393BExact'.
-/
import Derived.Test.YbulkdgqyB3
namespace Go.Proofs.Ybulkdgqy.B
open Go.RowKit Go.Maps

/-- A slice of ints that came in, below block B: where it has an element its cells are known. -/
def Out (w : World) (B : Nat) (a : Option Addr) (len : Nat) (zs : List Int) : Prop :=
  0 < len → ∃ b off, a = some ⟨b, off, none⟩ ∧ b < B ∧ len ≤ zs.length ∧ ∀ j, j < zs.length → w.cell? ⟨b, off + j, none⟩ = some (.int .i64 (zs.getD j 0))

theorem Out.below {w w' : World} {B : Nat} {a : Option Addr} {len : Nat} {zs : List Int} (h : Out w B a len zs) (hb : Below B w w') : Out w' B a len zs := by
  intro h0
  obtain ⟨b, off, e, hB, hl, hc⟩ := h h0
  exact ⟨b, off, e, hB, hl, fun j hj => (hb.cell (p := ⟨b, off + j, none⟩) hB).trans (hc j hj)⟩

theorem beyond_all (cb mb m len cap p B : Nat) (a0 : Option Addr) (size : Int) (zs : List Int) (D : DataW Unit) (w : World) (hlen : len ≤ 1024) (hp : p ≤ 4294969344)
    (hB : B ≤ cb) (hcb : cb < w.heap.size) (hmb : mb < w.heap.size) (hmc : mb ≠ cb)
    (ho : Out w B a0 len zs) (hwz : ∀ n ∈ zs, (Lit.int .i64 n).wf = true)
    (h3 : w.cell? ⟨cb, 3, none⟩ = some (.map (some mb))) (h8 : w.cell? ⟨cb, 8, none⟩ = some (.int .i64 p)) (f8 : w.frozen? ⟨cb, 8, none⟩ = false)
    (hmap : w.ownsMap Yba.prog 3 (plainElem Yba.prog 4) mb m D) :
    Calls Yba.prog 9 #[.pointer (some ⟨cb, 0, none⟩), .slice a0 len cap, .int .i64 size] w fun e w' => ∃ ao c k, e = .returned (.slice ao (tk (fD D) zs len p k).length c) ∧ Stops (fD D) zs len p size k ∧
      w'.ownsRow w.heap.size 3 1 (.slice ao (tk (fD D) zs len p k).length c) (tk (fD D) zs len p k).length ((tk (fD D) zs len p k).map (Value.int .i64)) ∧ (tk (fD D) zs len p k = [] → ao = none ∧ c = 0) ∧
      w'.cell? ⟨cb, 8, none⟩ = some (.int .i64 ((p + k : Nat) : Int)) ∧ w'.ownsMap Yba.prog 3 (plainElem Yba.prog 4) mb m D ∧ w.grownBy w' (some cb) := by
  by_cases h0 : len = 0
  · subst h0
    refine (beyond_none _ a0 cap size w).mono ?_
    rintro e w' ⟨rfl, rfl⟩
    exact ⟨none, 0, 0, rfl, ⟨Nat.le_refl _, .inl rfl, fun j hj => by omega⟩, World.ownsRow_nil _ _ _ _, fun _ => ⟨rfl, rfl⟩, h8, hmap, World.grownBy.refl _ _⟩
  · obtain ⟨b, off, rfl, hb, hl, hc⟩ := ho (by omega)
    refine (beyond_any cb mb m b off len cap p size zs D w hlen (by omega) hp hl hcb hmb (by omega) hmc hc hwz h3 h8 f8 hmap).mono ?_
    rintro e w' ⟨v, k, rfl, hst, hown, hnil, g3, g8, gf, gm, hg⟩
    obtain ⟨ao, c, rfl⟩ := row_form hown
    refine ⟨ao, c, k, rfl, hst, hown, fun e => ?_, g8, gm, hg⟩
    have := hnil e
    simp only [Value.slice.injEq] at this
    exact ⟨this.1, this.2.2⟩

set_option maxHeartbeats 400000 in
set_option maxRecDepth 100000 in
theorem model_none (a : Option Addr) (cap : Nat) (mv : Value) (p size : Int) (w : World) :
    Calls Yba.prog 10 #[.slice a 0 cap, mv, .int .i64 p, .int .i64 size] w fun e w' => e = .returned (.tuple #[.slice none 0 0, .int .i64 0]) ∧ w' = w := by
  go_enter Yba.func10, Yba.ntmps10
  go_wp2_with fail
  go_ret2
  exact ⟨rfl, rfl⟩

theorem model_all (mb m len cap p B : Nat) (a0 : Option Addr) (size : Int) (zs : List Int) (D : DataW Unit) (w : World) (k0 : Nat) (hst : Stops (fD D) zs len p size k0) (hlen : len ≤ 1024) (hp : p ≤ 4294969344)
    (hs0 : -9223372036854775808 ≤ size) (hs1 : size ≤ 9223372036854775807) (hB : B ≤ w.heap.size) (hmb : mb < w.heap.size) (ho : Out w B a0 len zs) (hwz : ∀ n ∈ zs, (Lit.int .i64 n).wf = true)
    (hmap : w.ownsMap Yba.prog 3 (plainElem Yba.prog 4) mb m D) :
    Calls Yba.prog 10 #[.slice a0 len cap, .map (some mb), .int .i64 p, .int .i64 size] w fun e w' => ∃ ao c, e = .returned (.tuple #[.slice ao (tk (fD D) zs len p k0).length c, .int .i64 k0]) ∧
      w'.ownsRow w.heap.size 3 1 (.slice ao (tk (fD D) zs len p k0).length c) (tk (fD D) zs len p k0).length ((tk (fD D) zs len p k0).map (Value.int .i64)) ∧ Below w.heap.size w w' := by
  by_cases h0 : len = 0
  · subst h0
    refine (model_none a0 cap _ _ _ w).mono ?_
    rintro e w' ⟨rfl, rfl⟩
    obtain rfl : k0 = 0 := by have := hst.1; omega
    exact ⟨none, 0, rfl, World.ownsRow_nil _ _ _ _, Below.refl _ _⟩
  · obtain ⟨b, off, rfl, hb, hl, hc⟩ := ho (by omega)
    exact model_any mb m b off len cap p size zs D w k0 hst hlen (by omega) hp hl hs0 hs1 (by omega) hmb hc hwz hmap

set_option maxHeartbeats 400000 in
set_option maxRecDepth 100000 in
theorem exact_long (a0 a1 : Option Addr) (len cap len1 cap1 : Nat) (p size : Int) (w : World) (h : 1024 < len ∨ 1024 < len1) (hm : len ≤ maxLen) (hm1 : len1 ≤ maxLen) :
    Calls Yba.prog 4 #[.slice a0 len cap, .slice a1 len1 cap1, .int .u32 p, .int .i64 size] w fun e w' => e = .returned (.bool true) ∧ Below w.heap.size w w' := by
  unfold maxLen at hm hm1
  by_cases h1 : 1024 < len
  · have hd : decide (1024 < (len : Int)) = true := by simp; omega
    go_enter Yba.func4, Yba.ntmps4
    go_wp2_with fail
    go_ret
    exact ⟨rfl, Below.refl _ _⟩
  · have h2 : 1024 < len1 := by omega
    have hd : decide (1024 < (len : Int)) = false := by simp; omega
    go_enter Yba.func4, Yba.ntmps4
    go_wp2_with fail
    go_ret
    exact ⟨rfl, Below.refl _ _⟩

set_option maxHeartbeats 1000000 in
set_option maxRecDepth 100000 in
theorem exact_any (a0 a1 : Option Addr) (len cap len1 cap1 : Nat) (zs ys : List Int) (p : Nat) (size : Int) (w : World) (h0 : len ≤ 1024) (h1 : len1 ≤ 1024) (hp : p ≤ 4294967295) (hs0 : -9223372036854775808 ≤ size) (hs1 : size ≤ 9223372036854775807)
    (ho : Out w w.heap.size a0 len zs) (ho1 : Out w w.heap.size a1 len1 ys) (hwz : ∀ n ∈ zs, (Lit.int .i64 n).wf = true) (hwy : ∀ n ∈ ys, (Lit.int .i64 n).wf = true) :
    Calls Yba.prog 4 #[.slice a0 len cap, .slice a1 len1 cap1, .int .u32 p, .int .i64 size] w fun e w' => e = .returned (.bool true) ∧ Below w.heap.size w w' := by
  have hmm := @run_makeMap Yba.prog
  have hd : decide (1024 < (len : Int)) = false := by simp; omega
  go_enter Yba.func4, Yba.ntmps4
  go_wp2_with fail
  go_loopw [27] (fun i wr => ∃ k : Nat, k ≤ len1 ∧ i = .int .i64 k ∧ (∃ D : DataW Unit, wr.ownsMap Yba.prog 3 (plainElem Yba.prog 4) w.heap.size k D) ∧ Below w.heap.size w wr)
    (fun i _ => len1 - (intOf i).toNat)
  case atStart => exact ⟨0, Nat.zero_le _, rfl, ⟨_, World.ownsMap_made _ _ _ _⟩, (Below.refl _ _).alloc (Nat.le_refl _) _⟩
  case round =>
    obtain ⟨k, hk, rfl, ⟨D, hown⟩, hbw⟩ := hrel
    by_cases hlt : k < len1
    · obtain ⟨b1, o1, rfl, hb1, hl1, hc1⟩ := ho1 (by omega)
      obtain ⟨y, hy⟩ : ∃ y, y = ys.getD k 0 := ⟨_, rfl⟩
      have hcy : wr.cell? ⟨b1, o1 + k, none⟩ = some (.int .i64 y) := by
        rw [hy]
        exact (hbw.cell (p := ⟨b1, o1 + k, none⟩) hb1).trans (hc1 _ (by omega))
      have hwy' : (Lit.int .i64 y).wf = true := by rw [hy]; exact wf_at hwy _
      clear hy hc1
      have hkey : keyOf Yba.prog 3 (.int .i64 y) = some (.int .i64 y) := keyOf_int_mk Yba.underlying3 hwy'
      go_wp2_with (first
        | (at_mapUpdate; refine wpList_mapUpdate_own _ rfl _ _ _ 58 rfl 3 4 law3 Yba.underlying58 (plainElem (H := Unit) Yba.prog 4) w.heap.size k D rfl hown (by unfold maxLen; omega) _ _ _ rfl rfl hkey _ [] (plainElem_bool Yba.underlying4 true) ?_; intro w1 hown1 hgrow1))
      go_roundw
      case rel => exact ⟨k + 1, by omega, by go_num, ⟨_, hown1⟩, hbw.grown hgrow1 hbw.size (fun j hj => by cases hj; exact Nat.le_refl _)⟩
      case measure => simp [intOf]; omega
    · have hkl : k = len1 := by omega
      subst hkl
      go_wp2_with fail
      have hz := hbw.size
      have hlt0 := hown.lt
      refine (beyond_all wr.heap.size w.heap.size k len cap p w.heap.size a0 size zs D _ h0 (by omega) hz (by simp) (by simp; omega) (by omega) ((ho.below hbw).below ((Below.refl _ _).alloc hz _)) hwz ?_ ?_ ?_ (hown.alloc _)).mono ?_
      · go_simp
      · go_simp
      · go_simp
      rintro e w1 ⟨ao, c, q, rfl, hst, hrow, hnil, g8, gm, hg⟩
      have z1 : wr.heap.size + 1 ≤ w1.heap.size := by have := hg.size; simpa using this
      have hb1 : Below w.heap.size w w1 := (hbw.alloc hz _).grown hg (by simp; omega) (by simp; omega)
      have hsz := gm.size_le
      have HST := hide hst
      clear hown hst hbw ho1 hmm
      go_wp2_with (go_at_call 10; refine (model_all w.heap.size k len cap p w.heap.size a0 size zs D w1 q HST.out h0 (by omega) hs0 hs1 (by omega) (by omega) (ho.below hb1) hwz gm).mono ?_; rintro e w2 ⟨ao2, c2, rfl, hrow2, hb2⟩)
      all_goals
        have z2 := hb2.size
        have g8' : w2.cell? ⟨wr.heap.size, 8, none⟩ = some (.int .i64 ((p + q : Nat) : Int)) := (hb2.cell (p := ⟨wr.heap.size, 8, none⟩) (by simp; omega)).trans g8
        have gm' := ownsMap_below gm hb2 (by omega)
        have hb3 := hb1.trans (hb2.mono (by omega))
      · refine (beq_none _ _ _ _ _).mono ?_
        rintro e w3 ⟨rfl, hb4⟩
        have g8'' : w3.cell? ⟨wr.heap.size, 8, none⟩ = some (.int .i64 ((p + q : Nat) : Int)) := (hb4.cell (p := ⟨wr.heap.size, 8, none⟩) (by simp; omega)).trans g8'
        have gm'' := ownsMap_below gm' hb4 (by omega)
        have hb5 := hb3.trans (hb4.mono (by omega))
        have hq : q ≤ len := HST.out.1
        clear g8 g8' gm gm' hb4 hb3 hb2 hb1 hrow hrow2 hnil ho hg
        go_wp2_with (at_len; refine wpList_len_own _ rfl _ 58 rfl 3 4 Yba.underlying58 _ w.heap.size k D rfl gm'' ?_)
        go_ret
        exact ⟨rfl, hb5⟩
      · refine (beq_rows _ (row_below hrow hb2 (Nat.le_refl _)) hrow2 (by have := tk_le (fD D) zs len p q; have := HST.out.1; omega)).mono ?_
        rintro e w3 ⟨rfl, hb4⟩
        have g8'' : w3.cell? ⟨wr.heap.size, 8, none⟩ = some (.int .i64 ((p + q : Nat) : Int)) := (hb4.cell (p := ⟨wr.heap.size, 8, none⟩) (by simp; omega)).trans g8'
        have gm'' := ownsMap_below gm' hb4 (by omega)
        have hb5 := hb3.trans (hb4.mono (by omega))
        have hq : q ≤ len := HST.out.1
        clear g8 g8' gm gm' hb4 hb3 hb2 hb1 hrow hrow2 hnil ho hg
        go_wp2_with (at_len; refine wpList_len_own _ rfl _ 58 rfl 3 4 Yba.underlying58 _ w.heap.size k D rfl gm'' ?_)
        go_ret
        exact ⟨rfl, hb5⟩
end Go.Proofs.Ybulkdgqy.B
