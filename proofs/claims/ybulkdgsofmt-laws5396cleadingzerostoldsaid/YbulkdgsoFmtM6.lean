/-
  addVW where z and x are one; the twins' calls; nat.add.
-/
import Derived.Test.YbulkdgsoFmtM5
namespace Go.Proofs.YbulkdgsoFmt.M
open Go.RowKit

theorem alias_drop {zl : List Value} {xs : List Nat} {zo n : Nat} (hl : xs.length = n) (hx : ∀ j, j < n → zl[zo + j]? = some (U (xs.getD j 0))) (i : Nat) (hi : i ≤ n) : zl.drop (zo + i) = (xs.drop i).map U ++ zl.drop (zo + n) := by
  apply List.ext_getElem?
  intro k
  rw [List.getElem?_drop]
  by_cases hk : i + k < n
  · rw [List.getElem?_append_left (by simp; omega)]
    rw [Nat.add_assoc, hx (i + k) hk]
    simp [List.getD, show i + k < xs.length by omega]
  · rw [List.getElem?_append_right (by simp; omega), List.getElem?_drop]
    congr 1
    simp
    omega

set_option maxHeartbeats 1000000 in
set_option maxRecDepth 100000 in
theorem addVW_alias (zb zo zc xc n y : Nat) (zl : List Value) (xs : List Nat) (w : World) (hn : n ≤ 4096) (h0 : 0 < n) (hxl : xs.length = n) (hxw : Words xs) (hy : y < 18446744073709551616)
    (hz : At w zb 48 zl) (hzn : zo + n ≤ zl.length) (hx : ∀ j, j < n → w.cell? ⟨zb, zo + j, none⟩ = some (U (xs.getD j 0))) :
    Calls Ybaf.prog 40 #[.slice (some ⟨zb, zo, none⟩) n zc, .slice (some ⟨zb, zo, none⟩) n xc, U y] w fun e w' => ∃ (res : List Nat) (c : Nat), e = .returned (U c) ∧ c ≤ 1 ∧ res.length = n ∧ Words res ∧ val res + c * pw n = val xs + y ∧
      At w' zb 48 (zl.take zo ++ res.map U ++ zl.drop (zo + n)) ∧ Kept w w' (· = zb) := by
  have hn0 : ((n : Int) == 0) = false := by simp; omega
  have cx := hx 0 h0
  rw [Nat.add_zero] at cx
  have X1 := hxw.at 0
  have hfz := hz.frozen zo
  have hall := fun i hi => alias_drop hxl (fun j hj => hz.cell_inv (hx j hj)) i hi
  have HALL := hide hall
  clear hall
  obtain ⟨X, hX⟩ : ∃ X, X = xs.getD 0 0 := ⟨_, rfl⟩
  rw [← hX] at cx X1
  have HX := hide hX
  clear hX
  have c1 := badd X y 0 X1 hy (by decide) w
  rw [Nat.add_zero] at c1
  obtain ⟨S, hS⟩ : ∃ s : Nat, s = (X + y) % 18446744073709551616 := ⟨_, rfl⟩
  obtain ⟨D, hD⟩ : ∃ s : Nat, s = (X + y) / 18446744073709551616 := ⟨_, rfl⟩
  have hSD : S + 18446744073709551616 * D = X + y := by omega
  have hS1 : S < 18446744073709551616 := by omega
  have hD1 : D ≤ 1 := by omega
  rw [← hS, ← hD] at c1
  have HSD := hide hSD
  clear hS hD hSD
  have i0 : (0 : Int) < (n : Int) := by omega
  have hpn := fun w => neq76_same w ⟨zb, zo, none⟩
  have sa : Hid (At (w.setCell ⟨zb, zo, none⟩ (U S)) zb 48 (zl.take zo ++ [S].map U ++ zl.drop (zo + 1))) := by
    have e := mid_set (zl := zl) (res := []) (zo := zo) (i := 0) (r := S) rfl (by omega)
    rw [mid_start] at e
    show At _ _ _ _
    have e2 := hz.set zo (U S)
    rw [show zo + 0 = zo from rfl] at e
    rw [e] at e2
    exact e2
  by_cases hD0 : D = 0
  · subst hD0
    go_enter Ybaf.func40, Ybaf.ntmps40
    go_wp2_with (go_at_call 41; refine c1.mono ?_; rintro e w' ⟨rfl, rfl⟩)
    go_quiet (fail)
    go_wp2_with fail
    go_ret
    have h1 := sa.out
    rw [HALL.out 1 h0] at h1
    refine ⟨S :: xs.drop 1, 0, rfl, by omega, by simp; omega, fun v hv => ?_, ?_, ?_, ((Kept.refl w' (· = zb)).setCell (fun _ => rfl) _).drewN _⟩
    · rcases List.mem_cons.1 hv with rfl | hv
      · exact hS1
      · exact hxw.drop 1 v hv
    · have e := HSD.out
      have e1 : xs = xs.getD 0 0 :: xs.drop 1 := by
        match xs, hxl with
        | [], h => simp at h; omega
        | x :: xs, _ => simp
      rw [e1, val_cons, val_cons, ← HX.out, List.drop_succ_cons, List.drop_zero]
      omega
    · simpa using h1.drewN _
  · have hD2 : D = 1 := by omega
    subst hD2
    clear hD0
    have st : Hid (val [S] + pw 1 = val (xs.take 1) + y) := by
      show _ = _
      have e1 : xs.take 1 = [xs.getD 0 0] := by
        match xs, hxl with
        | [], h => simp at h; omega
        | x :: xs, _ => simp
      have e := HSD.out
      rw [e1, ← HX.out]
      simp [val, pw]
      omega
    go_enter Ybaf.func40, Ybaf.ntmps40
    go_wp2_with (go_at_call 41; refine c1.mono ?_; rintro e w' ⟨rfl, rfl⟩)
    go_loopw [9] (fun iv wr => ∃ (i : Nat) (res : List Nat), 1 ≤ i ∧ i ≤ n ∧ iv = .int .i64 i ∧ res.length = i ∧ Words res ∧ val res + pw i = val (xs.take i) + y ∧
        At wr zb 48 (zl.take zo ++ res.map U ++ zl.drop (zo + i)) ∧ Kept w' wr (· = zb))
      (fun iv _ => n - (intOf iv).toNat)
    case atStart => exact ⟨1, [S], Nat.le_refl _, h0, rfl, rfl, fun v hv => by simp at hv; omega, st.out, sa.out, (Kept.refl w' (· = zb)).setCell (fun _ => rfl) _⟩
    case round =>
      obtain ⟨i, res, hi1, hi, rfl, hl, hw, hv, hat, hk⟩ := hrel
      clear st sa
      by_cases hlt : i < n
      · have l1 : (i : Int) < (n : Int) := by omega
        have cy := mid_read (xb := zb) (xo := zo) hk hz hat hl hlt hzn (hx i hlt) (fun _ => rfl)
        have hfy := hat.frozen (zo + i)
        have Y1 := hxw.at i
        obtain ⟨Y, hY⟩ : ∃ Y, Y = xs.getD i 0 := ⟨_, rfl⟩
        rw [← hY] at cy Y1
        have HY := hide hY
        have HV := hide hv
        clear hY hv
        by_cases hm : Y = 18446744073709551615
        · subst hm
          go_wp2_with fail
          go_roundw
          case rel =>
            have hset := hat.set (zo + i) (U 0)
            rw [mid_set hl (by omega)] at hset
            refine ⟨i + 1, res ++ [0], by omega, by omega, by go_num, by simp [hl], hw.snoc (by omega), ?_, hset, hk.setCell (fun _ => rfl) _⟩
            have e := HV.out
            rw [val_snoc, hl, val_take_succ xs i (by omega), ← HY.out, pw_succ]
            omega
          case measure => simp [intOf]; omega
        · have hm1 : ((Y : Int) != 18446744073709551615) = true := by simp; omega
          have b1 : (Y : Int) + 1 ≤ 18446744073709551615 := by omega
          go_wp2_with fail
          go_quiet (fail)
          go_wp2_with fail
          go_ret
          have hset : At (wr.setCell ⟨zb, zo + i, none⟩ (.int .u64 ((Y : Int) + 1))) zb 48 (zl.take zo ++ (res ++ [Y + 1]).map U ++ zl.drop (zo + (i + 1))) := by
            have e := hat.set (zo + i) (U (Y + 1))
            rw [mid_set hl (by omega)] at e
            exact e
          rw [HALL.out (i + 1) (by omega)] at hset
          refine ⟨res ++ [Y + 1] ++ xs.drop (i + 1), 0, rfl, by omega, by simp [hl]; omega, (hw.snoc (by omega)).append (hxw.drop _), ?_, ?_, (hk.setCell (fun _ => rfl) _).drewN _⟩
          · have e := HV.out
            have e3 : val xs = val (xs.take (i + 1)) + pw (i + 1) * val (xs.drop (i + 1)) := by
              have e4 := val_append (xs.take (i + 1)) (xs.drop (i + 1))
              rw [List.take_append_drop] at e4
              rw [e4, List.length_take, Nat.min_eq_left (by omega)]
            rw [val_append, val_snoc, hl, e3, val_take_succ xs i (by omega), ← HY.out]
            simp only [List.length_append, List.length_singleton, hl, Nat.mul_add, Nat.mul_one]
            omega
          · simpa using hset.drewN _
      · go_wp2_with fail
        go_ret
        have e : i = n := by omega
        subst e
        exact ⟨res, 1, rfl, by omega, hl, hw, by rw [Nat.one_mul, hv, List.take_of_length_le (by omega)], by simpa using hat, hk⟩

theorem addVW_any (zb zo zc xb xo xc n y : Nat) (zl xl : List Value) (xs : List Nat) (w : World) (hn : n ≤ 4096) (h0 : 0 < n) (hxl : xs.length = n) (hxw : Words xs) (hy : y < 18446744073709551616)
    (hz : At w zb 48 zl) (hxat : At w xb 48 xl) (hzn : zo + n ≤ zl.length) (hzc : n ≤ zc) (hxc : n ≤ xc) (hx : ∀ j, j < n → w.cell? ⟨xb, xo + j, none⟩ = some (U (xs.getD j 0))) (hal : xb = zb → xo = zo) :
    Calls Ybaf.prog 40 #[.slice (some ⟨zb, zo, none⟩) n zc, .slice (some ⟨xb, xo, none⟩) n xc, U y] w fun e w' => ∃ (res : List Nat) (c : Nat), e = .returned (U c) ∧ c ≤ 1 ∧ res.length = n ∧ Words res ∧ val res + c * pw n = val xs + y ∧
      At w' zb 48 (zl.take zo ++ res.map U ++ zl.drop (zo + n)) ∧ Kept w w' (· = zb) := by
  by_cases h : xb = zb
  · have h2 := hal h
    subst h; subst h2
    exact addVW_alias xb xo zc xc n y zl xs w hn h0 hxl hxw hy hz hzn hx
  · exact addVW_apart zb zo zc xb xo xc n y zl xs w hn h0 hxl hxw hy hz hzn hzc hxc hx h xl hxat

@[go_sem] theorem tw39 (args : Array Value) (w : World) : (callFunc 39 args).run Ybaf.prog w = .ok (.enter 13 args) w :=
  run_callFunc_twin (twin := Ybaf.f13.name) Ybaf.func39 (by kernel_rfl) (by kernel_rfl) (by kernel_rfl) (by kernel_rfl) Ybaf.func13 (by kernel_rfl) (by kernel_rfl) (by kernel_rfl) args w
@[go_sem] theorem tw37 (args : Array Value) (w : World) : (callFunc 37 args).run Ybaf.prog w = .ok (.enter 15 args) w :=
  run_callFunc_twin (twin := Ybaf.f15.name) Ybaf.func37 (by kernel_rfl) (by kernel_rfl) (by kernel_rfl) (by kernel_rfl) Ybaf.func15 (by kernel_rfl) (by kernel_rfl) (by kernel_rfl) args w
@[go_sem] theorem tw57 (args : Array Value) (w : World) : (callFunc 57 args).run Ybaf.prog w = .ok (.enter 17 args) w :=
  run_callFunc_twin (twin := Ybaf.f17.name) Ybaf.func57 (by kernel_rfl) (by kernel_rfl) (by kernel_rfl) (by kernel_rfl) Ybaf.func17 (by kernel_rfl) (by kernel_rfl) (by kernel_rfl) args w

theorem take_cells {w : World} {g n : Nat} {l : List Value} {ws : List Nat} (hat : At w g 48 l) (hn : ws.length = n) (ht : l.take n = ws.map U) : ∀ j, j < n → w.cell? ⟨g, 0 + j, none⟩ = some (U (ws.getD j 0)) := by
  intro j hj
  rw [Nat.zero_add]
  refine hat.cell ?_
  have e : (l.take n)[j]? = l[j]? := by simp [hj]
  rw [← e, ht]
  simp [List.getD, show j < ws.length by omega]

/-- The store of the last word. -/
theorem add_tail {w w2 : World} {g m c cc : Nat} {z : Value} {l : List Value} {R : List Nat} (hat : At w2 g 48 (R.map U ++ l.drop m)) (hm : m < l.length) (hR : R.length = m) (_hw : Words R) (_hc : cc < 18446744073709551616) (_hl : l.length = c) (_hmc : m + 1 ≤ c)
    (hk : Kept w w2 (blk z)) (hg : blk z g ∨ w.heap.size ≤ g) :
    (∃ ov, w2.cell? ⟨g, m, none⟩ = some ov) ∧ w2.frozen? ⟨g, m, none⟩ = false ∧ At (w2.setCell ⟨g, m, none⟩ (U cc)) g 48 ((R ++ [cc]).map U ++ l.drop (m + 1)) ∧ Kept w (w2.setCell ⟨g, m, none⟩ (U cc)) (blk z) := by
  have e1 : (R.map U ++ l.drop m)[m]? = l[m]? := by
    rw [List.getElem?_append_right (by simp; omega)]
    simp [hR]
  refine ⟨⟨l[m], hat.cell (by rw [e1]; simp [hm])⟩, hat.frozen m, ?_, hk.setCell (fun h => ?_) _⟩
  · have e2 := hat.set m (U cc)
    have e3 : (R.map U ++ l.drop m).set m (U cc) = (R ++ [cc]).map U ++ l.drop (m + 1) := by
      have e4 : l.drop m = l[m] :: l.drop (m + 1) := List.drop_eq_getElem_cons hm
      rw [List.set_append_right _ _ (by simp; omega), List.length_map, hR, Nat.sub_self, e4, List.set_cons_zero, List.map_append, List.append_assoc]
      rfl
    rw [e3] at e2
    exact e2
  · rcases hg with h' | h'
    · exact h'
    · simp at h; omega

set_option maxHeartbeats 1000000 in
set_option maxRecDepth 100000 in
theorem add_ge (z : Value) (B xg xc yg yc m n : Nat) (xl yl : List Value) (xs ys : List Nat) (w : World) (hz : Place w B z) (hB : B ≤ w.heap.size) (hm : m ≤ 4000) (hn : 0 < n) (hnm : n ≤ m) (hxl : xs.length = m) (hyl : ys.length = n) (hxw : Words xs) (hyw : Words ys)
    (hxa : At w xg 48 xl) (hxc : m ≤ xc) (hxt : xl.take m = xs.map U) (hya : At w yg 48 yl) (hyc : n ≤ yc) (hyt : yl.take n = ys.map U) (hyz : ¬ blk z yg) :
    Calls Ybaf.prog 28 #[z, .slice (some ⟨xg, 0, none⟩) m xc, .slice (some ⟨yg, 0, none⟩) n yc] w fun e w' => ∃ v ws, e = .returned v ∧ Res w w' B z v ws (val xs + val ys) := by
  have hm0 : ((m : Int) == 0) = false := by simp; omega
  have hn0 : ((n : Int) == 0) = false := by simp; omega
  have hlt : decide ((m : Int) < (n : Int)) = false := by simp; omega
  go_enter Ybaf.func28, Ybaf.ntmps28
  go_wp2_with fail
  rw [show ((m : Int) + 1) = ((m + 1 : Nat) : Int) from by omega]
  refine (make_any z (m + 1) B w hz (by omega) (by omega) hB).mono ?_
  rintro e w1 ⟨g, c, l, rfl, r1, r2, r3, r4, r5, r6, r7⟩
  have xa1 := hxa.kept r6 (fun h => h)
  have ya1 := hya.kept r6 (fun h => h)
  have hyg : yg ≠ g := by
    rintro rfl
    rcases r7 with h | h
    · exact hyz h
    · have := hya.lt; omega
  have cxs : ∀ j, j < m → w1.cell? ⟨xg, 0 + j, none⟩ = some (U (xs.getD j 0)) := take_cells xa1 hxl hxt
  have cys : ∀ j, j < n → w1.cell? ⟨yg, 0 + j, none⟩ = some (U (ys.getD j 0)) := take_cells ya1 hyl hyt
  have i1 : (n : Int) ≤ (c : Int) := by omega
  have i2 : (n : Int) ≤ (xc : Int) := by omega
  have i3 : (n : Int) ≤ (yc : Int) := by omega
  have ct := fun q => addVV_any g 0 c xg 0 xc yg 0 yc n l (xs.take n) ys (w1.drewN q) (by omega) (by simp; omega) hyl (hxw.take n) hyw r2 (by omega) (fun j hj => by rw [show (xs.take n).getD j 0 = xs.getD j 0 by simp [List.getD, hj]]; exact cxs j (by omega)) cys (fun _ => rfl) hyg
  have CT := hide ct
  have CXS := hide cxs
  clear ct cxs cys
  go_wp2_with fail
  go_region_held3 (fun _ => True) (trivial) ((refine (CT.out _).mono ?_; rintro e w2 ⟨res, cc, rfl, q1, q2, q3, q4, q5, q6⟩))
  have hkz : Kept w w2 (blk z) := (r6.mono (fun _ _ h => h.elim)).trans (Kept.of_drewN q6) (fun j hj e => by
    subst e
    rcases r7 with h | h
    · exact h
    · omega)
  rw [List.take_zero, List.nil_append, Nat.zero_add] at q5
  by_cases hmn : n = m
  · subst hmn
    have hgt : ¬ (n : Int) < (n : Int) := by omega
    rw [List.take_of_length_le (by omega)] at q4
    obtain ⟨p1, p2, p3, p4⟩ := add_tail (z := z) q5 (by omega) q2 q3 (by omega : cc < 18446744073709551616) r3 r4 hkz r7
    obtain ⟨ov, hov⟩ := p1
    have t1 : Hid (((res ++ [cc]).map U ++ l.drop (n + 1)).length = c) := by show _ = _; simp; omega
    have t2 : Hid ((res ++ [cc]).length = n + 1) := by show _ = _; simp; omega
    have t3 : Hid (((res ++ [cc]).map U ++ l.drop (n + 1)).take (n + 1) = (res ++ [cc]).map U) := List.take_left' (by simp; omega)
    have P3 := hide p3
    have P4 := hide p4
    have Q4 := hide q4
    clear p3 p4 q4 CT CXS
    go_wp2_with fail
    refine (norm_row g (n + 1) c B (res ++ [cc]) _ _ r1 P3.out t1.out r5 t2.out r4 t3.out (by omega) (q3.snoc (by omega))).mono ?_
    rintro e w3 ⟨ws', rfl, s1, s2, s3, s4, rfl⟩
    go_wp2_with fail
    go_ret
    refine ⟨_, ws', rfl, s1, s2, s3, ?_, P4.out, fun j hj => by obtain rfl := blk_slice.1 hj; exact r7⟩
    rw [s4, val_snoc, q2, Nat.mul_comm]
    exact Q4.out
  · have hlt2 : n < m := by omega
    have hgt : (n : Int) < (m : Int) := by omega
    have k1 : ¬ c = n := by omega
    have k2 : ¬ xc = n := by omega
    have k3 : (m : Int) ≤ (m : Int) + 1 := by omega
    have k4 : (m : Int) ≤ (c : Int) := by omega
    have k5 : (n : Int) ≤ (m : Int) := by omega
    obtain ⟨xl2, xa2, cx2⟩ : ∃ xl2, At w2 xg 48 xl2 ∧ ∀ j, j < m - n → w2.cell? ⟨xg, n + j, none⟩ = some (U ((xs.drop n).getD j 0)) := by
      have e0 : ∀ j, (xs.drop n).getD j 0 = xs.getD (n + j) 0 := fun j => by simp [List.getD]
      by_cases hxg : xg = g
      · subst hxg
        obtain ⟨_, hl⟩ := At.one xa1 r2
        subst hl
        refine ⟨_, q5, fun j hj => q5.cell ?_⟩
        have e1 := xa1.cell_inv (by have := CXS.out (n + j) (by omega); rwa [Nat.zero_add] at this)
        rw [List.getElem?_append_right (by simp; omega), e0, ← e1]
        simp [q2]
      · refine ⟨xl, xa1.kept (Kept.of_drewN q6) hxg, fun j hj => ?_⟩
        have e1 := CXS.out (n + j) (by omega)
        rw [Nat.zero_add] at e1
        rw [e0]
        exact (Kept.of_drewN q6).cell e1 hxg
    have ct2 := addVW_any g n (c - n) xg n (xc - n) (m - n) cc (res.map U ++ l.drop n) xl2 (xs.drop n) w2.drew (by omega) (by omega) (by simp; omega) (hxw.drop n) (by omega) q5 xa2 (by simp; omega) (by omega) (by omega) cx2 (fun _ => rfl)
    have CT2 := hide ct2
    have Q4 := hide q4
    clear ct2 CT cx2 CXS q4
    go_wp2_with fail
    go_region_held3 (fun _ => True) (trivial) ((go_at_call 40; refine CT2.out.mono ?_; rintro e w3 ⟨res2, cc2, rfl, u1, u2, u3, u4, u5, u6⟩))
    have hkz3 : Kept w w3 (blk z) := hkz.trans (Kept.of_drew u6) (fun j hj e => by
      subst e
      rcases r7 with h | h
      · exact h
      · omega)
    have u5' : At w3 g 48 ((res ++ res2).map U ++ l.drop m) := by
      have e1 : (res.map U ++ l.drop n).take n = res.map U := List.take_left' (by simp; omega)
      have e2 : (res.map U ++ l.drop n).drop (n + (m - n)) = l.drop m := by
        rw [List.drop_append, List.drop_of_length_le (by simp; omega), List.nil_append, List.drop_drop]
        congr 1
        simp
        omega
      rw [e1, e2] at u5
      rw [List.map_append]
      exact u5
    obtain ⟨p1, p2, p3, p4⟩ := add_tail (z := z) u5' (by omega) (by simp; omega) (q3.append u3) (by omega : cc2 < 18446744073709551616) r3 r4 hkz3 r7
    obtain ⟨ov, hov⟩ := p1
    have t1 : Hid (((res ++ res2 ++ [cc2]).map U ++ l.drop (m + 1)).length = c) := by show _ = _; simp; omega
    have t2 : Hid ((res ++ res2 ++ [cc2]).length = m + 1) := by show _ = _; simp; omega
    have t3 : Hid (((res ++ res2 ++ [cc2]).map U ++ l.drop (m + 1)).take (m + 1) = (res ++ res2 ++ [cc2]).map U) := List.take_left' (by simp; omega)
    have t4 : Hid (val (res ++ res2 ++ [cc2]) = val xs + val ys) := by
      show _ = _
      have e3 : val xs = val (xs.take n) + pw n * val (xs.drop n) := by
        have e4 := val_append (xs.take n) (xs.drop n)
        rw [List.take_append_drop] at e4
        rw [e4, List.length_take, Nat.min_eq_left (by omega)]
      have e5 := Q4.out
      have e6 : pw m = pw n * pw (m - n) := by unfold pw; rw [← Nat.pow_add]; congr 1; omega
      have e7 := congrArg (fun t => pw n * t) u4
      simp only [Nat.mul_add] at e7
      have e8 : pw n * (cc2 * pw (m - n)) = pw n * pw (m - n) * cc2 := by rw [Nat.mul_comm cc2, Nat.mul_assoc]
      rw [val_snoc, val_append, q2, e3, List.length_append, q2, u2, show n + (m - n) = m by omega, e6]
      have e9 : cc * pw n = pw n * cc := Nat.mul_comm _ _
      omega
    have P3 := hide p3
    have P4 := hide p4
    clear p3 p4 u4 u5 u5' q5 xa2
    go_wp2_with fail
    refine (norm_row g (m + 1) c B (res ++ res2 ++ [cc2]) _ _ r1 P3.out t1.out r5 t2.out r4 t3.out (by omega) ((q3.append u3).snoc (by omega))).mono ?_
    rintro e w4 ⟨ws', rfl, s1, s2, s3, s4, rfl⟩
    go_wp2_with fail
    go_ret
    exact ⟨_, ws', rfl, s1, s2, s3, s4.trans t4.out, P4.out, fun j hj => by obtain rfl := blk_slice.1 hj; exact r7⟩
end Go.Proofs.YbulkdgsoFmt.M
