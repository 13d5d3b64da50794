/-
  copy into a row of words; nat.set; addVW.
-/
import Derived.Test.YbulkdgsoFmtM4
import Derived.Laws.CopyOwn
import Derived.Deep.RegionLaw
namespace Go.Proofs.YbulkdgsoFmt.M
open Go.RowKit

theorem size48 : (Ybaf.prog.info? 48).map (·.size) = some 1 := by kernel_rfl

theorem run_copy_at (w : World) (dT sT ty : TypeId) (hu : Ybaf.prog.underlying dT = some (.slice 48)) (dp sp : Option Addr) (dLen dCap sLen sCap g off : Nat) (cur : List Value) (ys : List Nat) (hg : At w g 48 cur) (hn : ys.length = Nat.min sLen dLen)
    (hpos : 0 < ys.length → dp = some ⟨g, off, none⟩ ∧ ∃ b o, sp = some ⟨b, o, none⟩ ∧ ∀ j, j < ys.length → w.cell? ⟨b, o + j, none⟩ = some (U (ys.getD j 0))) (hfit : off + ys.length ≤ cur.length) :
    ∃ w', (Builtin.copy_ #[dT, sT] ty #[.slice dp dLen dCap, .slice sp sLen sCap]).run Ybaf.prog w = .ok (goInt ys.length) w' ∧ At w' g 48 (cur.take off ++ ys.map U ++ cur.drop (off + ys.length)) ∧ Kept w w' (· = g) := by
  by_cases h0 : ys.length = 0
  · obtain rfl : ys = [] := List.eq_nil_of_length_eq_zero h0
    refine ⟨w, run_copy_none (P := Ybaf.prog) w dT sT ty 48 dp sp dLen dCap sLen sCap hu size48 (by simpa using hn.symm), by simpa using hg, Kept.refl _ _⟩
  · obtain ⟨rfl, b, o, rfl, hc⟩ := hpos (by omega)
    have hrun := run_copy_row (P := Ybaf.prog) w dT sT ty 48 g off dLen dCap ⟨b, o, none⟩ sLen sCap cur.toArray 48 (ys.map U) hu size48 hg (by simpa using hn) (by
      intro j v hj
      have hj' : j < ys.length := by have := (List.getElem?_eq_some_iff.1 hj).1; simpa using this
      have e : (ys.map U)[j]? = some (U (ys.getD j 0)) := by simp [List.getD, hj']
      rw [e] at hj
      rw [Addr.add_lit, hc j hj']
      exact hj) (by simpa using hfit) (by intro v hv; obtain ⟨_, _, rfl⟩ := List.mem_map.1 hv; rfl)
    rw [List.length_map] at hrun
    refine ⟨_, hrun, ?_, ⟨rfl, rfl, rfl, by simp [World.setRow], fun k _ hk => setRow_other w g k _ hk⟩⟩
    exact setRow_heap w g _ _ 48 _ hg

theorem wpList_copy_at {w : World} {ops : Array Oper} {rest : List Oper} {o : Oper} {a : Act} {Q : Exit → Act → World → Prop} (hgd : o.guard = none) (d s : Operand) (dT sT : TypeId)
    (ho : o.op = .call { callee := .builtin .copy, args := #[d, s], argTypes := #[dT, sT] }) (hu : Ybaf.prog.underlying dT = some (.slice 48)) (dp sp : Option Addr) (dLen dCap sLen sCap : Nat) (hd : a.eval d = .slice dp dLen dCap) (hs : a.eval s = .slice sp sLen sCap)
    (g off : Nat) (cur : List Value) (ys : List Nat) (hg : At w g 48 cur) (hn : ys.length = Nat.min sLen dLen)
    (hpos : 0 < ys.length → dp = some ⟨g, off, none⟩ ∧ ∃ b o, sp = some ⟨b, o, none⟩ ∧ ∀ j, j < ys.length → w.cell? ⟨b, o + j, none⟩ = some (U (ys.getD j 0))) (hfit : off + ys.length ≤ cur.length)
    (h : ∀ w', At w' g 48 (cur.take off ++ ys.map U ++ cur.drop (off + ys.length)) → Kept w w' (· = g) → wpList Ybaf.prog ops Q rest (a.put o.dst (goInt ys.length)) w') : wpList Ybaf.prog ops Q (o :: rest) a w := by
  obtain ⟨w', hrun, h1, h2⟩ := run_copy_at w dT sT o.type hu dp sp dLen dCap sLen sCap g off cur ys hg hn hpos hfit
  refine wpList_plain hgd fun K hK => ?_
  unfold Oper.wp
  simp [execOp, ho, resolve, invoke, builtin, hd, hs, hrun, Result.andThen]
  exact hK _ _ (h w' h1 h2)

theorem step_copy_at {ops : Array Oper} {o : Oper} {a : Act} {w : World} {K : Act → World → Prop} {Q : Exit → Act → World → Prop} {E : Prop} (hgd : o.guard = none) (d s : Operand) (dT sT : TypeId)
    (ho : o.op = .call { callee := .builtin .copy, args := #[d, s], argTypes := #[dT, sT] }) (hu : Ybaf.prog.underlying dT = some (.slice 48)) (dp sp : Option Addr) (dLen dCap sLen sCap : Nat) (hd : a.eval d = .slice dp dLen dCap) (hs : a.eval s = .slice sp sLen sCap)
    (g off : Nat) (cur : List Value) (ys : List Nat) (hg : At w g 48 cur) (hn : ys.length = Nat.min sLen dLen)
    (hpos : 0 < ys.length → dp = some ⟨g, off, none⟩ ∧ ∃ b o, sp = some ⟨b, o, none⟩ ∧ ∀ j, j < ys.length → w.cell? ⟨b, o + j, none⟩ = some (U (ys.getD j 0))) (hfit : off + ys.length ≤ cur.length)
    (h : ∀ w', At w' g 48 (cur.take off ++ ys.map U ++ cur.drop (off + ys.length)) → Kept w w' (· = g) → K (a.put o.dst (goInt ys.length)) w') :
    if Region.wanted o (yielded ops a.tmps) = true then Oper.wp Ybaf.prog o a w K Q else E := by
  have hw : Region.wanted o (yielded ops a.tmps) = true := by simp [Region.wanted, hgd]
  rw [if_pos hw]
  obtain ⟨w', hrun, h1, h2⟩ := run_copy_at w dT sT o.type hu dp sp dLen dCap sLen sCap g off cur ys hg hn hpos hfit
  unfold Oper.wp
  simp [execOp, ho, resolve, invoke, builtin, hd, hs, hrun, Result.andThen]
  exact h w' h1 h2

/-- The cells of a nat. -/
theorem Row.cells {w : World} {B g n c : Nat} {ws : List Nat} (h : Row w B (.slice (some ⟨g, 0, none⟩) n c) ws) : ∀ j, j < ws.length → w.cell? ⟨g, 0 + j, none⟩ = some (U (ws.getD j 0)) := by
  rcases h with ⟨h, _⟩ | ⟨g', n', c', l, e, h1, h2, h3, h4, h5, h6, h7⟩
  · cases h
  · simp only [Value.slice.injEq, Option.some.injEq, Addr.mk.injEq] at e
    obtain ⟨⟨rfl, _⟩, rfl, rfl⟩ := e
    intro j hj
    rw [Nat.zero_add]
    refine h2.cell ?_
    have e : (l.take n)[j]? = l[j]? := by simp [show j < n by omega]
    rw [← e, h7]
    simp [List.getD, hj]

theorem Row.some {w : World} {B : Nat} {v : Value} {ws : List Nat} (h : Row w B v ws) (h0 : ws ≠ []) : ∃ g c, v = .slice (some ⟨g, 0, none⟩) ws.length c ∧ ws.length ≤ c ∧ c ≤ maxLen := by
  rcases h with ⟨_, h⟩ | ⟨g, n, c, l, rfl, h1, h2, h3, h4, h5, h6, h7⟩
  · exact absurd h h0
  · exact ⟨g, c, by rw [h6], by omega, h4⟩

set_option maxHeartbeats 400000 in
set_option maxRecDepth 100000 in
theorem set_any (z x : Value) (B Bx : Nat) (xs : List Nat) (w : World) (hz : Place w B z) (hx : Row w Bx x xs) (h0 : xs ≠ []) (hw : Words xs) (hn : Norm xs) (h4 : xs.length ≤ 4096) (hB : B ≤ w.heap.size) :
    Calls Ybaf.prog 34 #[z, x] w fun e w' => ∃ v ws, e = .returned v ∧ Res w w' B z v ws (val xs) := by
  obtain ⟨xg, xc, rfl, hxc, hxm⟩ := hx.some h0
  have hpos : 0 < xs.length := List.length_pos_iff.2 h0
  go_enter Ybaf.func34, Ybaf.ntmps34
  go_wp2_with fail
  refine (make_any z xs.length B w hz hpos h4 hB).mono ?_
  rintro e w1 ⟨g, c, l, rfl, r1, r2, r3, r4, r5, r6, r7⟩
  have hx1 := (hx.kept r6 (fun _ _ h => h)).cells
  go_wp2_with (refine wpList_copy_at rfl (.tmp 9) (.tmp 10) 32 32 rfl Ybaf.underlying32 _ _ _ _ _ _ rfl rfl g 0 l xs r2 (by simp) (fun _ => ⟨rfl, xg, 0, rfl, hx1⟩) (by omega) ?_; intro w2 hat2 hk2)
  go_ret
  refine ⟨_, xs, rfl, Row.mk r1 hat2 (by simp; omega) r5 rfl (by omega) (by simp), hw, hn, rfl, ?_, fun j hj => by obtain rfl := blk_slice.1 hj; exact r7⟩
  refine (r6.mono (fun _ _ h => h.elim)).trans hk2 (fun j hj e => ?_)
  subst e
  rcases r7 with h | h
  · exact h
  · omega

theorem eq76_other {w : World} {a b : Addr} {la lb : List Value} (hne : a.block ≠ b.block) (ha : At w a.block 48 la) (hb : At w b.block 48 lb) : (Op.equal 76 (.pointer (some a)) (.pointer (some b))).run Ybaf.prog w = .ok false w := by
  obtain ⟨i0, hi, hz0, hz1, hz2⟩ := info_parts info48
  have h : ∀ d : Nat, (Op.equalIn (d + 1) 76 (.pointer (some a)) (.pointer (some b))).run Ybaf.prog w = .ok false w := fun d => by
    simp [Op.equalIn, run_underlying Ybaf.underlying76, sizeOf, typeInfo, hi, hz1, run_sameAddr_other w (fun e => hne (by rw [e])) ha hb]
  exact h 9999
theorem neq76_other {w : World} {a b : Addr} {la lb : List Value} (hne : a.block ≠ b.block) (ha : At w a.block 48 la) (hb : At w b.block 48 lb) : (binOp .neq 76 (.pointer (some a)) (.pointer (some b))).run Ybaf.prog w = .ok (.bool true) w := by
  simp only [binOp]
  simp [eq76_other hne ha hb]
theorem neq76_same (w : World) (a : Addr) : (binOp .neq 76 (.pointer (some a)) (.pointer (some a))).run Ybaf.prog w = .ok (.bool false) w := by
  obtain ⟨i0, hi, hz0, hz1, hz2⟩ := info_parts info48
  have h : ∀ d : Nat, (Op.equalIn (d + 1) 76 (.pointer (some a)) (.pointer (some a))).run Ybaf.prog w = .ok true w := fun d => by
    simp [Op.equalIn, run_underlying Ybaf.underlying76, sizeOf, typeInfo, hi, run_sameAddr_same]
  simp only [binOp]
  simp [Op.equal, Op.maxDepth, h 9999]

theorem Kept.of_drewN {w w2 : World} {q : Nat} {S : Nat → Prop} (h : Kept (w.drewN q) w2 S) : Kept w w2 S := ⟨h.os, h.tape, h.output, h.size, h.block⟩
theorem Kept.of_drew {w w2 : World} {S : Nat → Prop} (h : Kept w.drew w2 S) : Kept w w2 S := ⟨h.os, h.tape, h.output, h.size, h.block⟩

theorem fin_list {α : Type} (A R C : List α) (k m : Nat) (hA : A.length = k) : (A ++ R).take k ++ C ++ (A ++ R).drop (k + m) = A ++ C ++ R.drop m := by
  subst hA
  simp [List.drop_append]

/-- Where a slice cut off in front begins. -/
def cutAt (b o i c : Nat) : Option Addr := some (if c = i then ⟨b, o, none⟩ else ⟨b, o + i, none⟩)

set_option maxHeartbeats 1000000 in
set_option maxRecDepth 100000 in
theorem addVW_apart (zb zo zc xb xo xc n y : Nat) (zl : List Value) (xs : List Nat) (w : World) (hn : n ≤ 4096) (h0 : 0 < n) (hxl : xs.length = n) (hxw : Words xs) (hy : y < 18446744073709551616)
    (hz : At w zb 48 zl) (hzn : zo + n ≤ zl.length) (hzc : n ≤ zc) (hxc : n ≤ xc) (hx : ∀ j, j < n → w.cell? ⟨xb, xo + j, none⟩ = some (U (xs.getD j 0))) (hal : xb ≠ zb) (xl : List Value) (hxat : At w xb 48 xl) :
    Calls Ybaf.prog 40 #[.slice (some ⟨zb, zo, none⟩) n zc, .slice (some ⟨xb, xo, none⟩) n xc, U y] w fun e w' => ∃ (res : List Nat) (c : Nat), e = .returned (U c) ∧ c ≤ 1 ∧ res.length = n ∧ Words res ∧ val res + c * pw n = val xs + y ∧
      At w' zb 48 (zl.take zo ++ res.map U ++ zl.drop (zo + n)) ∧ Kept w w' (· = zb) := by
  have hn0 : ((n : Int) == 0) = false := by simp; omega
  have cx := hx 0 h0
  rw [Nat.add_zero] at cx
  have X1 := hxw.at 0
  obtain ⟨ov, hov⟩ : ∃ ov, w.cell? ⟨zb, zo, none⟩ = some ov := ⟨zl[zo], hz.cell (by simp [show zo < zl.length by omega])⟩
  have hfz := hz.frozen zo
  obtain ⟨X, hX⟩ : ∃ X, X = xs.getD 0 0 := ⟨_, rfl⟩
  rw [← hX] at cx X1
  have HX := hide hX
  clear hX
  have c1 := badd X y 0 X1 hy (by decide) w
  rw [Nat.add_zero] at c1
  obtain ⟨S, hS⟩ : ∃ s : Nat, s = (X + y) % 18446744073709551616 := ⟨_, rfl⟩
  obtain ⟨D, hD⟩ : ∃ s : Nat, s = (X + y) / 18446744073709551616 := ⟨_, rfl⟩
  have hSD : S + 18446744073709551616 * D = X + y := by omega
  have hS1 : S < 18446744073709551616 := by omega
  have hD1 : D ≤ 1 := by omega
  rw [← hS, ← hD] at c1
  have HSD := hide hSD
  clear hS hD hSD
  have hne : zb ≠ xb := Ne.symm hal
  have i0 : (0 : Int) < (n : Int) := by omega
  have i1 : (1 : Int) ≤ (n : Int) := by omega
  have i2 : (n : Int) ≤ (zc : Int) := by omega
  have i3 : (n : Int) ≤ (xc : Int) := by omega
  have hpn : ∀ q, (binOp .neq 76 (.pointer (some ⟨zb, zo, none⟩)) (.pointer (some ⟨xb, xo, none⟩))).run Ybaf.prog ((w.setCell ⟨zb, zo, none⟩ (.int .u64 (S : Int))).drewN q) = .ok (.bool true) ((w.setCell ⟨zb, zo, none⟩ (.int .u64 (S : Int))).drewN q) :=
    fun q => neq76_other hne ((hz.set zo _).drewN q) ((hxat.setOther hal _).drewN q)
  have s1 : Hid (At (w.setCell ⟨zb, zo, none⟩ (U S)) zb 48 (zl.set zo (U S))) := hz.set zo _
  have s2 : Hid ((xs.drop 1).length = Nat.min (n - 1) (n - 1)) := by show _ = _; rw [List.length_drop, hxl]; exact (Nat.min_self _).symm
  have s3 : Hid (0 < (xs.drop 1).length → (if zc = 1 then some (⟨zb, zo, none⟩ : Addr) else some ⟨zb, zo + 1, none⟩) = some ⟨zb, zo + 1, none⟩ ∧ ∃ b o, (if xc = 1 then some (⟨xb, xo, none⟩ : Addr) else some ⟨xb, xo + 1, none⟩) = some ⟨b, o, none⟩ ∧
      ∀ j, j < (xs.drop 1).length → (w.setCell ⟨zb, zo, none⟩ (U S)).cell? ⟨b, o + j, none⟩ = some (U ((xs.drop 1).getD j 0))) := by
    intro hl
    rw [List.length_drop] at hl
    rw [if_neg (by omega), if_neg (by omega)]
    refine ⟨rfl, xb, xo + 1, rfl, fun j hj => ?_⟩
    rw [List.length_drop] at hj
    have e := hx (1 + j) (by omega)
    rw [← Nat.add_assoc] at e
    have e2 : (xs.drop 1).getD j 0 = xs.getD (1 + j) 0 := by simp [List.getD, Nat.add_comm]
    rw [e2]
    exact ((Kept.refl w (· = zb)).setCell (fun _ => rfl) _).cell e hal
  have s4 : Hid (zo + 1 + (xs.drop 1).length ≤ (zl.set zo (U S)).length) := by show _ ≤ _; simp; omega
  have HF : Hid (D = 0 → ∀ w2, At w2 zb 48 ((zl.set zo (U S)).take (zo + 1) ++ (xs.drop 1).map U ++ (zl.set zo (U S)).drop (zo + 1 + (xs.drop 1).length)) → Kept (w.setCell ⟨zb, zo, none⟩ (U S)) w2 (· = zb) →
      ∃ (res : List Nat) (c : Nat), Ending.returned (U 0) = .returned (U c) ∧ c ≤ 1 ∧ res.length = n ∧ Words res ∧ val res + c * pw n = val xs + y ∧ At w2 zb 48 (zl.take zo ++ (res.map U ++ zl.drop (zo + n))) ∧ Kept w w2 (· = zb)) := by
    intro hD w2 h1 h2
    refine ⟨S :: xs.drop 1, 0, rfl, by omega, by simp; omega, fun v hv => ?_, ?_, ?_, ((Kept.refl w (· = zb)).setCell (fun _ => rfl) _).trans h2 (fun _ _ h => h)⟩
    · rcases List.mem_cons.1 hv with rfl | hv
      · exact hS1
      · exact hxw.drop 1 v hv
    · have e := HSD.out
      have e1 : xs = xs.getD 0 0 :: xs.drop 1 := by
        match xs, hxl with
        | [], h => simp at h; omega
        | x :: xs, _ => simp
      rw [e1, val_cons, val_cons, ← HX.out, List.drop_succ_cons, List.drop_zero]
      rw [hD] at e
      omega
    · rw [List.length_drop, hxl, show zo + 1 + (n - 1) = zo + n by omega] at h1
      have e2 : (zl.set zo (U S)).take (zo + 1) = zl.take zo ++ [U S] := by
        rw [List.take_succ_eq_append_getElem (by simp; omega), List.take_set_of_le (by omega)]
        simp
      have e3 : (zl.set zo (U S)).drop (zo + n) = zl.drop (zo + n) := List.drop_set_of_lt (by omega)
      rw [e2, e3] at h1
      simpa using h1
  by_cases hD0 : D = 0
  · subst hD0
    have HF0 := hide (HF.out rfl)
    clear HF
    go_enter Ybaf.func40, Ybaf.ntmps40
    go_wp2_with (go_at_call 41; refine c1.mono ?_; rintro e w' ⟨rfl, rfl⟩)
    go_quiet (fail)
    go_wp2_with fail
    go_region_law ((refine step_copy_at rfl (.tmp 40) (.tmp 42) 31 31 rfl Ybaf.underlying31 (if zc = 1 then some ⟨zb, zo, none⟩ else some ⟨zb, zo + 1, none⟩) (if xc = 1 then some ⟨xb, xo, none⟩ else some ⟨xb, xo + 1, none⟩) (n - 1) (zc - 1) (n - 1) (xc - 1) (by simp [Act.eval, Act.put]) (by simp [Act.eval, Act.put]) zb (zo + 1) (zl.set zo (U S)) (xs.drop 1) s1.out s2.out s3.out s4.out ?_; intro w2 hat2 hk2))
    all_goals (go_wp2_with fail)
    all_goals (go_ret; exact HF0.out _ hat2 (Kept.of_drewN (Kept.of_drew hk2)))
  · have hD2 : D = 1 := by omega
    subst hD2
    clear HF hD0 s1 s2 s3 s4
    have st : Hid (val [S] + pw 1 = val (xs.take 1) + y) := by
      show _ = _
      have e1 : xs.take 1 = [xs.getD 0 0] := by
        match xs, hxl with
        | [], h => simp at h; omega
        | x :: xs, _ => simp
      have e := HSD.out
      rw [e1, ← HX.out]
      simp [val, pw]
      omega
    have sa : Hid (At (w.setCell ⟨zb, zo, none⟩ (U S)) zb 48 (zl.take zo ++ [S].map U ++ zl.drop (zo + 1))) := by
      have e := mid_set (zl := zl) (res := []) (zo := zo) (i := 0) (r := S) rfl (by omega)
      rw [mid_start] at e
      show At _ _ _ _
      have e2 := hz.set zo (U S)
      rw [show zo + 0 = zo from rfl] at e
      rw [e] at e2
      exact e2
    go_enter Ybaf.func40, Ybaf.ntmps40
    go_wp2_with (go_at_call 41; refine c1.mono ?_; rintro e w' ⟨rfl, rfl⟩)
    go_loopw [9] (fun iv wr => ∃ (i : Nat) (res : List Nat), 1 ≤ i ∧ i ≤ n ∧ iv = .int .i64 i ∧ res.length = i ∧ Words res ∧ val res + pw i = val (xs.take i) + y ∧
        At wr zb 48 (zl.take zo ++ res.map U ++ zl.drop (zo + i)) ∧ Kept w' wr (· = zb))
      (fun iv _ => n - (intOf iv).toNat)
    case atStart => exact ⟨1, [S], Nat.le_refl _, h0, rfl, rfl, fun v hv => by simp at hv; omega, st.out, sa.out, (Kept.refl w' (· = zb)).setCell (fun _ => rfl) _⟩
    case round =>
      obtain ⟨i, res, hi1, hi, rfl, hl, hw, hv, hat, hk⟩ := hrel
      clear st sa hpn
      by_cases hlt : i < n
      · have l1 : (i : Int) < (n : Int) := by omega
        have cy := hk.cell (hx i hlt) hal
        obtain ⟨ow, how⟩ := mid_there hat hl (by omega : zo + i < zl.length)
        have hfy := hat.frozen (zo + i)
        have Y1 := hxw.at i
        obtain ⟨Y, hY⟩ : ∃ Y, Y = xs.getD i 0 := ⟨_, rfl⟩
        rw [← hY] at cy Y1
        have HY := hide hY
        have HV := hide hv
        clear hY hv
        by_cases hm : Y = 18446744073709551615
        · subst hm
          go_wp2_with fail
          go_roundw
          case rel =>
            have hset := hat.set (zo + i) (U 0)
            rw [mid_set hl (by omega)] at hset
            refine ⟨i + 1, res ++ [0], by omega, by omega, by go_num, by simp [hl], hw.snoc (by omega), ?_, hset, hk.setCell (fun _ => rfl) _⟩
            have e := HV.out
            rw [val_snoc, hl, val_take_succ xs i (by omega), ← HY.out, pw_succ]
            omega
          case measure => simp [intOf]; omega
        · have hm1 : ((Y : Int) != 18446744073709551615) = true := by simp; omega
          have b1 : (Y : Int) + 1 ≤ 18446744073709551615 := by omega
          have hset : At (wr.setCell ⟨zb, zo + i, none⟩ (.int .u64 ((Y : Int) + 1))) zb 48 (zl.take zo ++ (res ++ [Y + 1]).map U ++ zl.drop (zo + (i + 1))) := by
            have e := hat.set (zo + i) (U (Y + 1))
            rw [mid_set hl (by omega)] at e
            exact e
          have hk2 : Kept w' (wr.setCell ⟨zb, zo + i, none⟩ (.int .u64 ((Y : Int) + 1))) (· = zb) := hk.setCell (fun _ => rfl) _
          have s1 := hide hset
          have s2 : Hid ((xs.drop (i + 1)).length = Nat.min (n - (i + 1)) (n - (i + 1))) := by show _ = _; rw [List.length_drop, hxl]; exact (Nat.min_self _).symm
          have s3 : Hid (0 < (xs.drop (i + 1)).length → (if zc = i + 1 then some (⟨zb, zo, none⟩ : Addr) else some ⟨zb, zo + (i + 1), none⟩) = some ⟨zb, zo + (i + 1), none⟩ ∧ ∃ b o, (if xc = i + 1 then some (⟨xb, xo, none⟩ : Addr) else some ⟨xb, xo + (i + 1), none⟩) = some ⟨b, o, none⟩ ∧
              ∀ j, j < (xs.drop (i + 1)).length → (wr.setCell ⟨zb, zo + i, none⟩ (.int .u64 ((Y : Int) + 1))).cell? ⟨b, o + j, none⟩ = some (U ((xs.drop (i + 1)).getD j 0))) := by
            intro hl'
            rw [List.length_drop] at hl'
            rw [if_neg (by omega), if_neg (by omega)]
            refine ⟨rfl, xb, xo + (i + 1), rfl, fun j hj => ?_⟩
            rw [List.length_drop] at hj
            have e := hx (i + 1 + j) (by omega)
            rw [← Nat.add_assoc] at e
            have e2 : (xs.drop (i + 1)).getD j 0 = xs.getD (i + 1 + j) 0 := by simp [List.getD]
            rw [e2]
            exact hk2.cell e hal
          have s4 : Hid (zo + (i + 1) + (xs.drop (i + 1)).length ≤ (zl.take zo ++ (res ++ [Y + 1]).map U ++ zl.drop (zo + (i + 1))).length) := by show _ ≤ _; simp; omega
          have HF : Hid (∀ w2, At w2 zb 48 ((zl.take zo ++ (res ++ [Y + 1]).map U ++ zl.drop (zo + (i + 1))).take (zo + (i + 1)) ++ (xs.drop (i + 1)).map U ++ (zl.take zo ++ (res ++ [Y + 1]).map U ++ zl.drop (zo + (i + 1))).drop (zo + (i + 1) + (xs.drop (i + 1)).length)) →
              Kept (wr.setCell ⟨zb, zo + i, none⟩ (.int .u64 ((Y : Int) + 1))) w2 (· = zb) →
              ∃ (res : List Nat) (c : Nat), Ending.returned (U 0) = .returned (U c) ∧ c ≤ 1 ∧ res.length = n ∧ Words res ∧ val res + c * pw n = val xs + y ∧ At w2 zb 48 (zl.take zo ++ (res.map U ++ zl.drop (zo + n))) ∧ Kept w' w2 (· = zb)) := by
            intro w2 h1 h2
            refine ⟨res ++ [Y + 1] ++ xs.drop (i + 1), 0, rfl, by omega, by simp [hl]; omega, (hw.snoc (by omega)).append (hxw.drop _), ?_, ?_, hk2.trans h2 (fun _ _ h => h)⟩
            · have e := HV.out
              have e3 : val xs = val (xs.take (i + 1)) + pw (i + 1) * val (xs.drop (i + 1)) := by
                have e4 := val_append (xs.take (i + 1)) (xs.drop (i + 1))
                rw [List.take_append_drop] at e4
                rw [e4, List.length_take, Nat.min_eq_left (by omega)]
              rw [val_append, val_snoc, hl, e3, val_take_succ xs i (by omega), ← HY.out]
              simp only [List.length_append, List.length_singleton, hl, Nat.mul_add, Nat.mul_one]
              omega
            · have ea : (zl.take zo ++ (res ++ [Y + 1]).map U).length = zo + (i + 1) := by simp [hl]; omega
              rw [fin_list _ _ _ _ _ ea, List.length_drop, hxl, List.drop_drop, show zo + (i + 1) + (n - (i + 1)) = zo + n by omega] at h1
              simpa using h1
          have hpn : ∀ q, (binOp .neq 76 (.pointer (some ⟨zb, zo, none⟩)) (.pointer (some ⟨xb, xo, none⟩))).run Ybaf.prog ((wr.setCell ⟨zb, zo + i, none⟩ (.int .u64 ((Y : Int) + 1))).drewN q) = .ok (.bool true) ((wr.setCell ⟨zb, zo + i, none⟩ (.int .u64 ((Y : Int) + 1))).drewN q) :=
            fun q => neq76_other hne (hset.drewN q) ((hxat.kept hk2 hal).drewN q)
          have j1 : (0 : Int) ≤ (i : Int) + 1 := by omega
          have j2 : (i : Int) + 1 ≤ (n : Int) := by omega
          have j3 : IntKind.i64.wrap ((i : Int) + 1) = (i : Int) + 1 := wrap_i64_of (by omega) (by omega)
          go_wp2_with fail
          go_quiet (fail)
          go_wp2_with fail
          go_region_law ((refine step_copy_at rfl (.tmp 69) (.tmp 73) 31 31 rfl Ybaf.underlying31 (if zc = i + 1 then some ⟨zb, zo, none⟩ else some ⟨zb, zo + (i + 1), none⟩) (if xc = i + 1 then some ⟨xb, xo, none⟩ else some ⟨xb, xo + (i + 1), none⟩) (n - (i + 1)) (zc - (i + 1)) (n - (i + 1)) (xc - (i + 1)) (by simp [Act.eval, Act.put]) (by simp [Act.eval, Act.put]) zb (zo + (i + 1)) _ (xs.drop (i + 1)) s1.out s2.out s3.out s4.out ?_; intro w2 hat2 hkp2))
          all_goals (clear hpn hset hk2 s1 s2 s3 s4 hat hk how hfy cy j1 j2 j3 b1 hm1 hm HV HY hw hx hxat hz hov hfz cx c1 i0 i1 i2 i3 l1)
          all_goals (go_wp2_with fail)
          all_goals (go_ret; exact HF.out _ hat2 (Kept.of_drewN (Kept.of_drew hkp2)))
      · go_wp2_with fail
        go_ret
        have e : i = n := by omega
        subst e
        exact ⟨res, 1, rfl, by omega, hl, hw, by rw [Nat.one_mul, hv, List.take_of_length_le (by omega)], by simpa using hat, hk⟩
end Go.Proofs.YbulkdgsoFmt.M
