/-
  The walk of the model 'zzs5393bmodel'.
-/
import Derived.Test.YbulkdgqyB2
namespace Go.Proofs.Ybulkdgqy.B
open Go.RowKit Go.Maps

/-- Two slices of the call's own that lie in no one row. -/
def Apart (v p : Value) : Prop := ∀ j, v.ownBlock = some j → p.ownBlock ≠ some j

theorem apart_nil : Apart (.slice none 0 0) (.slice none 0 0) := fun j hj => by simp [Value.ownBlock] at hj

theorem Apart.symm {v p : Value} (h : Apart v p) : Apart p v := fun j hp hv => h j hv hp

theorem Apart.keeps {v p : Value} (h : Apart v p) : p.ownBlock = none ∨ p.ownBlock ≠ v.ownBlock := by
  cases hp : p.ownBlock with
  | none => exact .inl rfl
  | some j => exact .inr (fun e => h j e.symm hp)

theorem Apart.moved {v v' p : Value} {H : Nat} (h : Apart v p) (hl : v'.ownBlock = v.ownBlock ∨ v'.ownBlock = some H) (hp : ∀ j, p.ownBlock = some j → j < H) : Apart v' p := by
  intro j hj e
  rcases hl with hl | hl
  · exact h j (hl ▸ hj) e
  · have := hp j e
    rw [hl] at hj
    simp at hj
    omega

/-- 'append(s, z)' at a row of the call's own. -/
theorem wpList_append_one {u : World} {ops : Array Oper} {rest : List Oper} {o : Oper} {a : Act} {Q : Exit → Act → World → Prop} (hgd : o.guard = none) (s x : Operand)
    (ho : o.op = .call { callee := .builtin .append, args := #[s, x], argTypes := #[25, 25] }) (base : Nat) (ao : Option Addr) (n c : Nat) (xs : List Int) (z : Int)
    (hs : a.eval s = .slice ao n c) (hown : u.ownsRow base 3 1 (.slice ao n c) n (xs.map (Value.int .i64))) (hx : a.eval x = .slice (some ⟨u.heap.size, 0, none⟩) 1 1) (hn : n ≤ 4096) (hbase : base ≤ u.heap.size)
    (h : ∀ ao' c' w', w'.ownsRow base 3 1 (.slice ao' (n + 1) c') (n + 1) ((xs ++ [z]).map (Value.int .i64)) → u.grownBy w' (Value.slice ao n c).ownBlock →
      ((Value.slice ao' (n + 1) c').ownBlock = (Value.slice ao n c).ownBlock ∨ (Value.slice ao' (n + 1) c').ownBlock = some (u.heap.size + 1)) → wpList Yba.prog ops Q rest (a.put o.dst (.slice ao' (n + 1) c')) w') :
    wpList Yba.prog ops Q (o :: rest) a (u.alloc (.cells #[.int .i64 z] 3)) := by
  obtain ⟨i0, hi, hz0, hz1, hz2⟩ := info_parts info3
  refine wpList_append_own_at _ hgd s x 25 ho base 3 i0 (.int .i64 0) 1 8 Yba.underlying25 hi hz0 hz1 hz2 rfl (by decide) _ n _ hs (hown.alloc _) ⟨u.heap.size, 0, none⟩ 1 1 [.int .i64 z] hx rfl (cell_one_new _ _ _) (ints_oneCell .i64 [z]) (by unfold maxLen; omega) (by omega) (by simp; omega) ?_
  intro v' w' hown' hgrow _ hloc
  obtain ⟨ao', c', rfl⟩ := row_form hown'
  exact h ao' c' w' (by simpa using hown') ((World.grownBy_alloc u _ _).trans hgrow) (by simpa using hloc)

theorem ownsMap_below {w w' : World} {mb m B : Nat} {D : DataW Unit} (h : w.ownsMap Yba.prog 3 (plainElem Yba.prog 4) mb m D) (hb : Below B w w') (hm : mb < B) : w'.ownsMap Yba.prog 3 (plainElem Yba.prog 4) mb m D := by
  obtain ⟨es, clock, hh, r⟩ := h
  exact ⟨es, clock, (hb.block mb hm).trans hh, r⟩

theorem row_take {w : World} {base g n c : Nat} {xs : List Int} (s : Nat) (hs : s ≤ n) (h : w.ownsRow base 3 1 (.slice (some ⟨g, 0, none⟩) n c) n (xs.map (Value.int .i64))) : w.ownsRow base 3 1 (.slice (some ⟨g, 0, none⟩) s c) s ((xs.take s).map (Value.int .i64)) := by
  rcases h.2 with ⟨e, _⟩ | ⟨g', cap, cur, e, h1, h2, h3, h4, h5, h6⟩
  · cases e
  · simp only [Value.slice.injEq, Option.some.injEq, Addr.mk.injEq] at e
    obtain ⟨⟨rfl, _⟩, _, rfl⟩ := e
    have hl : xs.length = n := by simpa using h.1
    refine ⟨by simp; omega, .inr ⟨g, c, cur, rfl, h1, h2, by omega, h4, h5, ?_⟩⟩
    rw [List.map_take, ← h6, List.take_take]
    congr 1
    omega

theorem row_some {w : World} {base n c : Nat} {ao : Option Addr} {xs : List Value} (h : w.ownsRow base 3 1 (.slice ao n c) n xs) (hn : 0 < n) : ∃ g, ao = some ⟨g, 0, none⟩ := by
  rcases h.2 with ⟨_, e⟩ | ⟨g, cap, cur, e, _⟩
  · omega
  · simp only [Value.slice.injEq] at e
    exact ⟨g, e.1⟩

theorem row_cap {w : World} {base n c : Nat} {ao : Option Addr} {xs : List Value} (h : w.ownsRow base 3 1 (.slice ao n c) n xs) : n ≤ c := by
  rcases h.2 with ⟨e, e'⟩ | ⟨g, cap, cur, e, _, _, h1, _⟩
  · omega
  · simp only [Value.slice.injEq] at e
    omega

/-- The places, as Go's numbers. -/
def pz (f : Int → Bool) (zs : List Int) (n p k : Nat) : List Int := (ps f zs n p k).map (fun j : Nat => (j : Int))
theorem pz_new (f : Int → Bool) (zs : List Int) (n p k : Nat) (h : f (nd zs n p k) = false) : pz f zs n p (k + 1) = pz f zs n p k ++ [(k : Int)] := by
  unfold pz; rw [ps_new f zs n p k h]; simp
theorem pz_old (f : Int → Bool) (zs : List Int) (n p k : Nat) (h : f (nd zs n p k) = true) : pz f zs n p (k + 1) = pz f zs n p k := by
  unfold pz; rw [ps_old f zs n p k h]
theorem tk_new_len (f : Int → Bool) (zs : List Int) (n p k : Nat) (h : f (nd zs n p k) = false) : (tk f zs n p (k + 1)).length = (tk f zs n p k).length + 1 := by
  rw [tk_new f zs n p k h]; simp

theorem pz_last (f : Int → Bool) (zs : List Int) (n p k j : Nat) (h : j < (tk f zs n p k).length) : (pz f zs n p k).getD j 0 = (((ps f zs n p k).getD j 0 : Nat) : Int) := by
  rw [tk_len] at h
  unfold pz
  simp [List.getD, h]

set_option maxHeartbeats 1000000 in
set_option maxRecDepth 100000 in
theorem model_any (mb m b off len cap p : Nat) (size : Int) (zs : List Int) (D : DataW Unit) (w : World) (k0 : Nat) (hst : Stops (fD D) zs len p size k0) (hlen : len ≤ 1024) (hpos : 0 < len) (hp : p ≤ 4294969344) (hz : len ≤ zs.length)
    (hs0 : -9223372036854775808 ≤ size) (hs1 : size ≤ 9223372036854775807)
    (hb : b < w.heap.size) (hmb : mb < w.heap.size)
    (hc : ∀ j, j < zs.length → w.cell? ⟨b, off + j, none⟩ = some (.int .i64 (zs.getD j 0))) (hwz : ∀ n ∈ zs, (Lit.int .i64 n).wf = true)
    (hmap : w.ownsMap Yba.prog 3 (plainElem Yba.prog 4) mb m D) :
    Calls Yba.prog 10 #[.slice (some ⟨b, off, none⟩) len cap, .map (some mb), .int .i64 p, .int .i64 size] w fun e w' => ∃ ao c, e = .returned (.tuple #[.slice ao (tk (fD D) zs len p k0).length c, .int .i64 k0]) ∧
      w'.ownsRow w.heap.size 3 1 (.slice ao (tk (fD D) zs len p k0).length c) (tk (fD D) zs len p k0).length ((tk (fD D) zs len p k0).map (Value.int .i64)) ∧ Below w.heap.size w w' := by
  have hn0 : ((len : Int) == 0) = false := by simp; omega
  have HST := hide hst
  clear hst
  go_enter Yba.func10, Yba.ntmps10
  go_wp2_with fail
  go_loopw [12, 13, 14] (fun v q i wr => ∃ (k : Nat) (ao : Option Addr) (c : Nat) (ao2 : Option Addr) (c2 : Nat), k ≤ len ∧ i = .int .i64 k ∧ v = .slice ao (tk (fD D) zs len p k).length c ∧ q = .slice ao2 (tk (fD D) zs len p k).length c2 ∧
      wr.ownsRow w.heap.size 3 1 (.slice ao (tk (fD D) zs len p k).length c) (tk (fD D) zs len p k).length ((tk (fD D) zs len p k).map (Value.int .i64)) ∧
      wr.ownsRow w.heap.size 3 1 (.slice ao2 (tk (fD D) zs len p k).length c2) (tk (fD D) zs len p k).length ((pz (fD D) zs len p k).map (Value.int .i64)) ∧
      Apart (.slice ao (tk (fD D) zs len p k).length c) (.slice ao2 (tk (fD D) zs len p k).length c2) ∧ Below w.heap.size w wr)
    (fun _ _ i _ => len - (intOf i).toNat)
  case atStart => exact ⟨0, none, 0, none, 0, Nat.zero_le _, rfl, rfl, rfl, World.ownsRow_nil _ _ _ _, World.ownsRow_nil _ _ _ _, apart_nil, Below.refl _ _⟩
  case round =>
    obtain ⟨k, ao, c, ao2, c2, hk, rfl, rfl, rfl, hown, hown2, hap, hbw⟩ := hrel
    have hle := tk_le (fD D) zs len p k
    by_cases hlt : k < len
    · have i1 : 0 ≤ ((p : Int) + k) % len := Int.emod_nonneg _ (by omega)
      have i2 : ((p : Int) + k) % len < len := Int.emod_lt_of_pos _ (by omega)
      have i3 : 0 ≤ (p : Int) % len := Int.emod_nonneg _ (by omega)
      have i4 : (p : Int) % len < len := Int.emod_lt_of_pos _ (by omega)
      have i5 : (p + k) % len < len := Nat.mod_lt _ hpos
      obtain ⟨x, hx⟩ : ∃ x, x = nd zs len p k := ⟨_, rfl⟩
      have hcx : wr.cell? ⟨b, off + (p + k) % len, none⟩ = some (.int .i64 x) := by
        rw [hx]
        exact (hbw.cell (p := ⟨b, off + (p + k) % len, none⟩) hb).trans (hc _ (by omega))
      have hwx : (Lit.int .i64 x).wf = true := by rw [hx]; exact wf_at hwz _
      have HX : Hid (x = nd zs len p k) := hx
      clear hx
      have hmr := ownsMap_below hmap hbw hmb
      have hsz := hbw.size
      cases hf : fD D x with
      | true =>
        go_wp2_with (first | (at_lookup; refine wpList_lookup_own_bool _ rfl _ _ rfl mb m D rfl hmr x rfl hwx ?_))
        go_roundw
        case rel =>
          have e := tk_old (fD D) zs len p k (by rw [← HX.out]; exact hf)
          have e2 := pz_old (fD D) zs len p k (by rw [← HX.out]; exact hf)
          exact ⟨k + 1, ao, c, ao2, c2, by omega, by go_num, by rw [e], by rw [e], by rw [e]; exact hown, by rw [e, e2]; exact hown2, by rw [e]; exact hap, hbw⟩
        case measure => simp [intOf]; omega
      | false =>
        have e := tk_new (fD D) zs len p k (by rw [← HX.out]; exact hf)
        have e2 := pz_new (fD D) zs len p k (by rw [← HX.out]; exact hf)
        have e3 := tk_new_len (fD D) zs len p k (by rw [← HX.out]; exact hf)
        rw [← HX.out] at e
        have HE := hide e
        have HE2 := hide e2
        have HE3 := hide e3
        clear e e2 e3
        go_wp2_with (first
          | (at_lookup; refine wpList_lookup_own_bool _ rfl _ _ rfl mb m D rfl hmr x rfl hwx ?_)
          | (at_builtin; refine wpList_append_one rfl (.tmp 40) (.tmp 42) rfl w.heap.size ao _ c _ x rfl hown rfl (by omega) hsz ?_))
        intro ao3 c3 w1 hown3 hg3 hl3
        have q2 := hown2.kept hg3 hap.keeps
        have ap3 := hap.moved hl3 (fun j hj => by have := (hown2.lt j hj).2; omega)
        have hb3 := hbw.grown hg3 hsz (fun j hj => (hown.lt j hj).1)
        have hs3 := hb3.size
        clear hown hown2 hg3 hl3 hap hmr hcx hbw
        go_wp2_with (first
          | (at_builtin; refine wpList_append_one rfl (.tmp 44) (.tmp 46) rfl w.heap.size ao2 _ c2 _ (k : Int) rfl q2 rfl (by omega) hs3 ?_))
        intro ao4 c4 w2 hown4 hg4 hl4
        have q3 := hown3.kept hg4 ap3.symm.keeps
        have ap4 := ap3.symm.moved hl4 (fun j hj => by have := (hown3.lt j hj).2; omega)
        have hb4 := hb3.grown hg4 hs3 (fun j hj => (q2.lt j hj).1)
        clear hown3 q2 hg4 hl4 ap3 hb3
        go_wp2_with fail
        go_roundw
        case rel => exact ⟨k + 1, ao3, c3, ao4, c4, by omega, by go_num, by rw [HE3.out], by rw [HE3.out], by rw [HE3.out, HE.out, List.map_append]; exact q3, by rw [HE3.out, HE2.out, List.map_append]; exact hown4, by rw [HE3.out]; exact ap4.symm, hb4⟩
        case measure => simp [intOf]; omega
    · have hkl : k = len := by omega
      subst hkl
      by_cases h0 : 0 ≤ size
      · obtain ⟨s, rfl⟩ := Int.eq_ofNat_of_zero_le h0
        by_cases h1 : s ≤ (tk (fD D) zs k p k).length
        · by_cases h2 : s = 0
          · subst h2
            have hk0 := stops_zero HST.out
            subst hk0
            go_wp2_with fail
            go_ret2
            exact ⟨none, 0, rfl, World.ownsRow_nil _ _ _ _, hbw⟩
          · have e1 := stops_take HST.out h1
            have e2 := stops_last HST.out h1 (by omega)
            have e3 := stops_some HST.out h1
            have E1 := hide e1
            have E2 := hide e2
            have E3 := hide e3
            clear e1 e2 e3
            have h3 : ((s : Int) == 0) = false := by simp; omega
            obtain ⟨g, rfl⟩ := row_some hown (by omega)
            obtain ⟨g2, rfl⟩ := row_some hown2 (by omega)
            have hcp := row_cells hown2 (s - 1) (by omega)
            have hpl := pz_last (fD D) zs k p k (s - 1) (by omega)
            obtain ⟨y, hy, hy0, hy1⟩ : ∃ y : Nat, (pz (fD D) zs k p k).getD (s - 1) 0 = y ∧ y + 1 = k0 ∧ y < 1024 := ⟨_, hpl, E2.out, by have := E2.out; have := HST.out.1; omega⟩
            rw [hy] at hcp
            have HY0 := hide hy0
            clear hy hy0 hpl
            have hcq : wr.cell? ⟨g2, s - 1, none⟩ = some (.int .i64 (y : Int)) := by simpa using hcp
            clear hcp
            have b1 : 0 ≤ (s : Int) - 1 := by omega
            have b2 : (s : Int) - 1 < ((tk (fD D) zs k p k).length : Int) := by omega
            have b3 := row_cap hown
            go_wp2_with fail
            go_quiet (fail)
            go_wp2_with fail
            go_ret2
            have hrow := row_take s h1 hown
            rw [← E1.out] at hrow
            exact ⟨some ⟨g, 0, none⟩, c, by rw [E3.out, ← HY0.out]; rfl, by rw [E3.out]; exact hrow, below_drewN hbw _⟩
        · have hk0 := stops_all HST.out (by omega)
          subst hk0
          go_wp2_with fail
          go_ret2
          exact ⟨ao, c, rfl, hown, hbw⟩
      · have hd : decide (0 ≤ size) = false := by simp; omega
        have hk0 := stops_all HST.out (by omega)
        subst hk0
        go_wp2_with fail
        go_ret2
        exact ⟨ao, c, rfl, hown, hbw⟩
end Go.Proofs.Ybulkdgqy.B
