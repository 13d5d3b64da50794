/-
  The walk of 'beyond' and of the comparer 'zzs5393beq'.
-/
import Derived.Test.YbulkdgqyRows
import Derived.Test.YbulkdgqyB0
import Derived.WalkKit
import Derived.WalkSpells
import Derived.WalkLawsBesides
import Derived.Maps.OwnSet
import Derived.Maps.AppendAt
import Derived.Deep.QuietTactic
import Derived.BigQuiet
namespace Go.Proofs.Ybulkdgqy.B
open Go.RowKit Go.Maps

theorem hide {p : Prop} (h : p) : Hid p := h

theorem law3 : Keyed Yba.prog 3 := int_keyed Yba.underlying3
theorem zero4 (w : World) : (zeroValue 4).run Yba.prog w = .ok (.bool false) w := by kernel_rfl
theorem info3 : (Yba.prog.info? 3).map (fun i => (i.zero, i.size, i.bytes)) = some (some (.int .i64 0), 1, 8) := by kernel_rfl

/-- What a map of bools answers at a key. -/
def fD (D : DataW Unit) (x : Int) : Bool := match D.atKey (.int .i64 x) (.lit (.bool false)) with
  | .lit (.bool c) => c
  | _ => false

theorem plainElem_bool_inv {P : Program} {e : TypeId} (he : P.underlying e = some .bool) {v : Value} {z : DataW Unit × List MemPlace} (h : plainElem P e v = some z) : ∃ x, v = .bool x ∧ z = (.lit (.bool x), []) := by
  unfold plainElem at h
  rw [he] at h
  cases v <;> simp at h
  subst h
  exact ⟨_, rfl, rfl⟩

/-- 'm[k]' at elements that are bools: the walk goes on with 'fD D k'. -/
theorem wpList_lookup_own_bool (w : World) {ops : Array Oper} {rest : List Oper} {o : Oper} {a : Act} {Q : Exit → Act → World → Prop}
    (hg : o.guard = none) (m x : Operand) (hop : o.op = Op.lookup 58 m x false) (b n : Nat) (D : DataW Unit)
    (hm : a.eval m = .map (some b)) (hown : w.ownsMap Yba.prog 3 (plainElem Yba.prog 4) b n D) (z : Int) (hx : a.eval x = .int .i64 z) (hz : (Lit.int .i64 z).wf = true)
    (hK : wpList Yba.prog ops Q rest (a.put o.dst (.bool (fD D z))) w) :
    wpList Yba.prog ops Q (o :: rest) a w := by
  refine wpList_plain hg fun K' hK' => ?_
  obtain ⟨v, ps, hrun, hv⟩ := hown.lookup law3 Yba.underlying58 (zero4 w) (plainElem_bool Yba.underlying4 false) (keyOf_int_mk Yba.underlying3 hz)
  obtain ⟨c, rfl, hc⟩ := plainElem_bool_inv Yba.underlying4 hv
  have hc1 : fD D z = c := by
    unfold fD
    rw [show D.atKey (.int .i64 z) (.lit (.bool false)) = .lit (.bool c) from congrArg Prod.fst hc]
  rw [hc1] at hK
  unfold Oper.wp
  simp [execOp, hop, hm, hx, hrun, Result.andThen]
  exact hK' _ _ hK

theorem grown_setCell {w wr : World} {cb : Nat} (h : w.grownBy wr (some cb)) (o : Nat) (u : Value) : w.grownBy (wr.setCell ⟨cb, o, none⟩ u) (some cb) :=
  ⟨h.os, h.tape, h.output, by simpa [World.setCell] using h.size, fun k hk hne => (Below.heap_setCell _ _ _ _ (by simpa using hne)).trans (h.block k hk hne)⟩

theorem grown_own {w a b : World} {r row : Option Nat} (h : w.grownBy a r) (hg : a.grownBy b row) (hr : ∀ k, row = some k → w.heap.size ≤ k) : w.grownBy b r :=
  ⟨hg.os.trans h.os, hg.tape.trans h.tape, hg.output.trans h.output, Nat.le_trans h.size hg.size, fun k hk hne =>
    (hg.block k (Nat.lt_of_lt_of_le hk h.size) (fun e => by have := hr k e.symm; omega)).trans (h.block k hk hne)⟩

theorem row_form {w : World} {base : Nat} {v : Value} {n : Nat} {xs : List Value} (h : w.ownsRow base 3 1 v n xs) : ∃ ao c, v = .slice ao n c := by
  rcases h.2 with ⟨rfl, rfl⟩ | ⟨g, cap, cur, rfl, _⟩
  · exact ⟨none, 0, rfl⟩
  · exact ⟨_, _, rfl⟩

theorem wf_at {zs : List Int} (hwz : ∀ n ∈ zs, (Lit.int .i64 n).wf = true) (k : Nat) : (Lit.int .i64 (zs.getD k 0)).wf = true := by
  by_cases h : k < zs.length
  · rw [List.getD, List.getElem?_eq_getElem h]
    exact hwz _ (List.getElem_mem h)
  · rw [List.getD, List.getElem?_eq_none (by omega)]
    decide

theorem cell_one_after (x : Value) (t : TypeId) (u : World) (g : Nat) (hu : g = u.heap.size) : ∀ j y, [x][j]? = some y → (u.alloc (.cells #[x] t)).cell? ((⟨g, 0, none⟩ : Addr).add j) = some y := by
  subst hu
  exact cell_one_new u x t

theorem rel_keep {w wr w1 : World} {cb mb m p k : Nat} {x : Int} {D : DataW Unit} {v : Value} {n : Nat} {xs : List Value} (hcb : cb < w.heap.size) (hmc : mb ≠ cb)
    (hg : w.grownBy wr (some cb)) (hown : wr.ownsRow w.heap.size 3 1 v n xs) (g3 : wr.cell? ⟨cb, 3, none⟩ = some (.map (some mb))) (g8 : wr.cell? ⟨cb, 8, none⟩ = some (.int .i64 ((p + k : Nat) : Int))) (gf : wr.frozen? ⟨cb, 8, none⟩ = false)
    (gmap : wr.ownsMap Yba.prog 3 (plainElem Yba.prog 4) mb m D) 
    (hgrow : ((wr.setCell ⟨cb, 8, none⟩ (.int .i64 ((p : Int) + k + 1))).alloc (.cells #[.int .i64 x] 3)).grownBy w1 v.ownBlock) :
    w1.cell? ⟨cb, 3, none⟩ = some (.map (some mb)) ∧ w1.cell? ⟨cb, 8, none⟩ = some (.int .i64 ((p + (k + 1) : Nat) : Int)) ∧ w1.frozen? ⟨cb, 8, none⟩ = false ∧ w1.ownsMap Yba.prog 3 (plainElem Yba.prog 4) mb m D ∧ w.grownBy w1 (some cb) := by
  have hs := hg.size
  have hcw : cb < wr.heap.size := by omega
  have hvb : ∀ j, v.ownBlock = some j → w.heap.size ≤ j := fun j hj => (hown.lt j hj).1
  have hne : some cb ≠ v.ownBlock := fun e => by have := hvb cb e.symm; omega
  have hmb := gmap.lt
  have hne2 : some mb ≠ v.ownBlock := by
    intro e
    obtain ⟨es, clock, hb, _⟩ := gmap
    rcases hown.2 with ⟨rfl, _⟩ | ⟨g, cap, cur, rfl, _, hgg, _⟩
    · simp [Value.ownBlock] at e
    · simp [Value.ownBlock] at e
      subst e
      rw [hb] at hgg
      cases hgg
  have hb1 : w1.heap[cb]? = ((wr.setCell ⟨cb, 8, none⟩ (.int .i64 ((p : Int) + k + 1))).alloc (.cells #[.int .i64 x] 3)).heap[cb]? := hgrow.block cb (by simp [World.setCell]; omega) hne
  refine ⟨?_, ?_, ?_, ?_, ?_⟩
  · rw [World.cell?_of_block (a := ⟨cb, 3, none⟩) hb1]; go_simp
  · rw [World.cell?_of_block (a := ⟨cb, 8, none⟩) hb1]; go_simp; go_num
  · rw [World.frozen?_of_block (a := ⟨cb, 8, none⟩) hb1]; go_simp
  · exact ((gmap.setCell (by simpa using hmc) _).alloc _).kept hgrow hne2
  · exact grown_own (grown_own (grown_setCell hg _ _) (World.grownBy_alloc _ _ none) (by simp)) hgrow hvb

set_option maxHeartbeats 400000 in
set_option maxRecDepth 100000 in
theorem beyond_any (cb mb m b off len cap p : Nat) (size : Int) (zs : List Int) (D : DataW Unit) (w : World) (hlen : len ≤ 1024) (hpos : 0 < len) (hp : p ≤ 4294969344) (hz : len ≤ zs.length)
    (hcb : cb < w.heap.size) (hmb : mb < w.heap.size) (hbc : b ≠ cb) (hmc : mb ≠ cb)
    (hc : ∀ j, j < zs.length → w.cell? ⟨b, off + j, none⟩ = some (.int .i64 (zs.getD j 0))) (hwz : ∀ n ∈ zs, (Lit.int .i64 n).wf = true)
    (h3 : w.cell? ⟨cb, 3, none⟩ = some (.map (some mb))) (h8 : w.cell? ⟨cb, 8, none⟩ = some (.int .i64 p)) (f8 : w.frozen? ⟨cb, 8, none⟩ = false)
    (hmap : w.ownsMap Yba.prog 3 (plainElem Yba.prog 4) mb m D) :
    Calls Yba.prog 9 #[.pointer (some ⟨cb, 0, none⟩), .slice (some ⟨b, off, none⟩) len cap, .int .i64 size] w fun e w' => ∃ v k, e = .returned v ∧ Stops (fD D) zs len p size k ∧
      w'.ownsRow w.heap.size 3 1 v (tk (fD D) zs len p k).length ((tk (fD D) zs len p k).map (Value.int .i64)) ∧ (tk (fD D) zs len p k = [] → v = .slice none 0 0) ∧
      w'.cell? ⟨cb, 3, none⟩ = some (.map (some mb)) ∧ w'.cell? ⟨cb, 8, none⟩ = some (.int .i64 ((p + k : Nat) : Int)) ∧ w'.frozen? ⟨cb, 8, none⟩ = false ∧ w'.ownsMap Yba.prog 3 (plainElem Yba.prog 4) mb m D ∧ w.grownBy w' (some cb) := by
  obtain ⟨i0, hi, hz0, hz1, hz2⟩ := info_parts info3
  go_enter Yba.func9, Yba.ntmps9
  go_wp2
  go_loopw [7, 11] (fun v i wr => ∃ (k : Nat) (ao : Option Addr) (c : Nat), k ≤ len ∧ i = .int .i64 k ∧ v = .slice ao (tk (fD D) zs len p k).length c ∧ (∀ j, j < k → ((tk (fD D) zs len p j).length : Int) ≠ size) ∧
      wr.ownsRow w.heap.size 3 1 v (tk (fD D) zs len p k).length ((tk (fD D) zs len p k).map (Value.int .i64)) ∧ (tk (fD D) zs len p k = [] → v = .slice none 0 0) ∧
      wr.cell? ⟨cb, 3, none⟩ = some (.map (some mb)) ∧ wr.cell? ⟨cb, 8, none⟩ = some (.int .i64 ((p + k : Nat) : Int)) ∧ wr.frozen? ⟨cb, 8, none⟩ = false ∧ wr.ownsMap Yba.prog 3 (plainElem Yba.prog 4) mb m D ∧ w.grownBy wr (some cb))
    (fun _ i _ => len - (intOf i).toNat)
  case atStart => exact ⟨0, none, 0, Nat.zero_le _, rfl, rfl, fun j hj => by omega, World.ownsRow_nil _ _ _ _, fun _ => rfl, h3, h8, f8, hmap, World.grownBy.refl _ _⟩
  case round =>
    obtain ⟨k, ao, c, hk, rfl, rfl, hne, hown, hnil, g3, g8, gf, gmap, hg⟩ := hrel
    have hle := tk_le (fD D) zs len p k
    by_cases hlt : k < len
    · by_cases hs : (((tk (fD D) zs len p k).length : Int) == size) = true
      · go_wp2_with fail
        go_ret
        exact ⟨_, k, rfl, ⟨hk, .inr (by simpa using hs), hne⟩, hown, hnil, g3, g8, gf, gmap, hg⟩
      · have hs' : (((tk (fD D) zs len p k).length : Int) == size) = false := by simpa using hs
        clear hs
        have i1 : 0 ≤ ((p : Int) + k) % len := Int.emod_nonneg _ (by omega)
        have i2 : ((p : Int) + k) % len < len := Int.emod_lt_of_pos _ (by omega)
        have i3 : (p + k) % len < len := Nat.mod_lt _ hpos
        obtain ⟨x, hx⟩ : ∃ x, x = nd zs len p k := ⟨_, rfl⟩
        have hcx : wr.cell? ⟨b, off + (p + k) % len, none⟩ = some (.int .i64 x) := by
          rw [hx]
          exact hg.cell (hc _ (by omega)) (by simpa using hbc)
        have hwx : (Lit.int .i64 x).wf = true := by rw [hx]; exact wf_at hwz _
        have HX : Hid (x = nd zs len p k) := hx
        clear hx
        have hsz := hg.size
        have hsm : mb < wr.heap.size := by omega
        cases hf : fD D x with
        | true =>
          go_wp2_with (first | (at_lookup; refine wpList_lookup_own_bool _ rfl _ _ rfl mb m D rfl (gmap.setCell (by simpa using hmc) _) x rfl hwx ?_))
          go_roundw
          case rel =>
            have e := tk_old (fD D) zs len p k (by rw [← HX.out]; exact hf)
            refine ⟨k + 1, ao, c, by omega, by go_num, by rw [e], ?_, ?_, by rw [e]; exact hnil, ?_, ?_, ?_, gmap.setCell (by simpa using hmc) _, grown_setCell hg _ _⟩
            · intro j hj
              by_cases h : j = k
              · subst h; simpa using hs'
              · exact hne j (by omega)
            · rw [e]; exact ownsRow_setCell_below hown hcb _
            · go_simp
            · go_simp; go_num
            · go_simp
          case measure => simp [intOf]; omega
        | false =>
          go_wp2_with (first
            | (at_lookup; refine wpList_lookup_own_bool _ rfl _ _ rfl mb m D rfl (gmap.setCell (by simpa using hmc) _) x rfl hwx ?_)
            | (at_builtin; refine wpList_append_own _ rfl (.tmp 41) (.tmp 43) 25 rfl w.heap.size 3 i0 (.int .i64 0) 1 8 Yba.underlying25 hi hz0 hz1 hz2 rfl (by decide) _ _ _ rfl ((ownsRow_setCell_below hown hcb _).alloc _) ⟨wr.heap.size, 0, none⟩ 1 1 [.int .i64 x] rfl rfl ?c1 (ints_oneCell .i64 [x]) (by unfold maxLen; omega) (by omega) (by simp; omega) ?_))
          case c1 => exact cell_one_after _ _ _ _ (by simp)
          intro v' w1 hown' hgrow _
          have e := tk_new (fD D) zs len p k (by rw [← HX.out]; exact hf)
          rw [← HX.out] at e
          have R := rel_keep (x := x) hcb hmc hg hown g3 g8 gf gmap hgrow
          have hne' : ∀ j, j < k + 1 → ((tk (fD D) zs len p j).length : Int) ≠ size := by
            intro j hj
            by_cases h : j = k
            · subst h; simpa using hs'
            · exact hne j (by omega)
          have hown2 : w1.ownsRow w.heap.size 3 1 v' (tk (fD D) zs len p (k + 1)).length ((tk (fD D) zs len p (k + 1)).map (Value.int .i64)) := by
            rw [e]; simpa using hown'
          have hnil2 : tk (fD D) zs len p (k + 1) = [] → v' = .slice none 0 0 := by rw [e]; intro h; simp at h
          obtain ⟨ao', c', hv'⟩ := row_form hown2
          have HV := hide hv'
          have HE := hide e
          clear hv' e hown' hgrow hown g3 g8 gf gmap hne hnil hcx hs' hf hwx
          go_wp2_with fail
          go_roundw
          case rel => exact ⟨k + 1, ao', c', by omega, by go_num, HV.out, hne', hown2, hnil2, R.1, R.2.1, R.2.2.1, R.2.2.2.1, R.2.2.2.2⟩
          case measure => simp [intOf]; omega
    · go_wp2_with fail
      go_ret
      have : k = len := by omega
      exact ⟨_, k, rfl, ⟨hk, .inl this, hne⟩, hown, hnil, g3, g8, gf, gmap, hg⟩

set_option maxHeartbeats 400000 in
set_option maxRecDepth 100000 in
theorem beyond_none (pt : Value) (a : Option Addr) (cap : Nat) (size : Int) (w : World) :
    Calls Yba.prog 9 #[pt, .slice a 0 cap, .int .i64 size] w fun e w' => e = .returned (.slice none 0 0) ∧ w' = w := by
  go_enter Yba.func9, Yba.ntmps9
  go_wp2
  refine wp_loop_rounds 1 ?_
  rw [rounds_succ]
  go_wp2
  go_ret
  exact ⟨rfl, rfl⟩

set_option maxHeartbeats 400000 in
set_option maxRecDepth 100000 in
theorem beq_none (a1 a2 : Option Addr) (c1 c2 : Nat) (w : World) :
    Calls Yba.prog 11 #[.slice a1 0 c1, .slice a2 0 c2] w fun e w' => e = .returned (.bool true) ∧ Below w.heap.size w w' := by
  go_enter Yba.func11, Yba.ntmps11
  go_wp2
  refine wp_loop_rounds 1 ?_
  rw [rounds_succ]
  go_wp2
  go_ret
  exact ⟨rfl, Below.refl _ _⟩

set_option maxHeartbeats 400000 in
set_option maxRecDepth 100000 in
theorem beq_any (b1 o1 c1 b2 o2 c2 n : Nat) (xs : List Int) (w : World) (hn : n ≤ 4096) (h1 : ∀ j, j < n → w.cell? ⟨b1, o1 + j, none⟩ = some (.int .i64 (xs.getD j 0))) (h2 : ∀ j, j < n → w.cell? ⟨b2, o2 + j, none⟩ = some (.int .i64 (xs.getD j 0))) :
    Calls Yba.prog 11 #[.slice (some ⟨b1, o1, none⟩) n c1, .slice (some ⟨b2, o2, none⟩) n c2] w fun e w' => e = .returned (.bool true) ∧ Below w.heap.size w w' := by
  go_enter Yba.func11, Yba.ntmps11
  go_wp2
  go_loopw [5] (fun i wr => ∃ k : Nat, k ≤ n ∧ i = .int .i64 k ∧ ∃ q, wr = w.drewN q) (fun i _ => n - (intOf i).toNat)
  case atStart => exact ⟨0, Nat.zero_le _, rfl, 0, rfl⟩
  case round =>
    obtain ⟨k, hk, rfl, q, rfl⟩ := hrel
    by_cases hlt : k < n
    · obtain ⟨x, hx⟩ : ∃ x, x = xs.getD k 0 := ⟨_, rfl⟩
      have e1 : (w.drewN q).cell? ⟨b1, o1 + k, none⟩ = some (.int .i64 x) := by rw [hx]; simpa using h1 k hlt
      have e2 : (w.drewN q).cell? ⟨b2, o2 + k, none⟩ = some (.int .i64 x) := by rw [hx]; simpa using h2 k hlt
      clear hx
      have l1 : (k : Int) < (n : Int) := by omega
      go_wp2_with fail
      go_quiet (fail)
      go_wp2_with fail
      go_roundw
      case rel => exact ⟨k + 1, by omega, by go_num, _, rfl⟩
      case measure => simp [intOf]; omega
    · go_wp2_with fail
      go_ret
      exact ⟨rfl, below_drewN (Below.refl _ _) q⟩
end Go.Proofs.Ybulkdgqy.B
