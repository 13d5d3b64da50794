/-
  addVV_g, mulAddVWW_g.
-/
import Derived.Test.YbulkdgsoFmtM1
namespace Go.Proofs.YbulkdgsoFmt.M
open Go.RowKit

/-! ### a row that is written from zo on -/
theorem mid_at {zl : List Value} {res : List Nat} {zo i : Nat} (hl : res.length = i) (hz : zo + i < zl.length) : (zl.take zo ++ res.map U ++ zl.drop (zo + i))[zo + i]? = zl[zo + i]? := by
  have e : (zl.take zo ++ res.map U).length = zo + i := by simp [hl]; omega
  rw [List.getElem?_append_right (by omega), e]
  simp

theorem mid_set {zl : List Value} {res : List Nat} {zo i r : Nat} (hl : res.length = i) (hz : zo + i < zl.length) :
    (zl.take zo ++ res.map U ++ zl.drop (zo + i)).set (zo + i) (U r) = zl.take zo ++ (res ++ [r]).map U ++ zl.drop (zo + (i + 1)) := by
  have e : (zl.take zo ++ res.map U).length = zo + i := by simp [hl]; omega
  have h2 : zl.drop (zo + i) = zl[zo + i] :: zl.drop (zo + i + 1) := List.drop_eq_getElem_cons hz
  rw [List.set_append_right _ _ (by omega), e, Nat.sub_self, h2]
  simp [Nat.add_assoc]

theorem mid_there {w : World} {zl : List Value} {res : List Nat} {zb zo i : Nat} (h : At w zb 48 (zl.take zo ++ res.map U ++ zl.drop (zo + i))) (hl : res.length = i) (hz : zo + i < zl.length) : ∃ v, w.cell? ⟨zb, zo + i, none⟩ = some v :=
  ⟨zl[zo + i], h.cell (by rw [mid_at hl hz]; simp [hz])⟩

theorem mid_start (zl : List Value) (zo : Nat) : zl.take zo ++ ([] : List Nat).map U ++ zl.drop (zo + 0) = zl := by simp

/-- The cell of x that a round reads, while z is written below it: x lies elsewhere, or just where z lies. -/
theorem mid_read {w wr : World} {zb zo xb xo i n X : Nat} {zl : List Value} {res : List Nat} (hk : Kept w wr (· = zb)) (hz : At w zb 48 zl) (hzr : At wr zb 48 (zl.take zo ++ res.map U ++ zl.drop (zo + i))) (hl : res.length = i) (hi : i < n) (hzn : zo + n ≤ zl.length)
    (hx : w.cell? ⟨xb, xo + i, none⟩ = some (U X)) (hal : xb = zb → xo = zo) : wr.cell? ⟨xb, xo + i, none⟩ = some (U X) := by
  by_cases h : xb = zb
  · have h2 := hal h
    subst h; subst h2
    exact hzr.cell (by rw [mid_at hl (by omega)]; exact hz.cell_inv hx)
  · exact hk.cell hx h

set_option maxHeartbeats 1000000 in
set_option maxRecDepth 100000 in
theorem addVV_any (zb zo zc xb xo xc yb yo yc n : Nat) (zl : List Value) (xs ys : List Nat) (w : World) (hn : n ≤ 4096) (hxl : xs.length = n) (hyl : ys.length = n) (hxw : Words xs) (hyw : Words ys)
    (hz : At w zb 48 zl) (hzn : zo + n ≤ zl.length) (hx : ∀ j, j < n → w.cell? ⟨xb, xo + j, none⟩ = some (U (xs.getD j 0))) (hy : ∀ j, j < n → w.cell? ⟨yb, yo + j, none⟩ = some (U (ys.getD j 0)))
    (hal : xb = zb → xo = zo) (hyz : yb ≠ zb) :
    Calls Ybaf.prog 13 #[.slice (some ⟨zb, zo, none⟩) n zc, .slice (some ⟨xb, xo, none⟩) n xc, .slice (some ⟨yb, yo, none⟩) n yc] w fun e w' => ∃ (res : List Nat) (c : Nat), e = .returned (U c) ∧ c ≤ 1 ∧ res.length = n ∧ Words res ∧ val res + c * pw n = val xs + val ys ∧
      At w' zb 48 (zl.take zo ++ res.map U ++ zl.drop (zo + n)) ∧ Kept w w' (· = zb) := by
  go_enter Ybaf.func13, Ybaf.ntmps13
  go_wp2_with fail
  go_loopw [6, 25] (fun cv iv wr => ∃ (i : Nat) (res : List Nat) (c : Nat), i ≤ n ∧ iv = .int .i64 i ∧ cv = .int .u64 c ∧ c ≤ 1 ∧ res.length = i ∧ Words res ∧ val res + c * pw i = val (xs.take i) + val (ys.take i) ∧
      At wr zb 48 (zl.take zo ++ res.map U ++ zl.drop (zo + i)) ∧ Kept w wr (· = zb))
    (fun _ iv _ => n - (intOf iv).toNat)
  case atStart => exact ⟨0, [], 0, Nat.zero_le _, rfl, rfl, by omega, rfl, Words.nil, by simp [val], by rw [mid_start]; exact hz, Kept.refl _ _⟩
  case round =>
    obtain ⟨i, res, c, hi, rfl, rfl, hc, hl, hw, hv, hat, hk⟩ := hrel
    by_cases hlt : i < n
    · have l1 : (i : Int) < (n : Int) := by omega
      have cx := mid_read hk hz hat hl hlt hzn (hx i hlt) hal
      have cy := hk.cell (hy i hlt) hyz
      obtain ⟨ov, hov⟩ := mid_there hat hl (by omega : zo + i < zl.length)
      have hfz := hat.frozen (zo + i)
      have X1 := hxw.at i
      have Y1 := hyw.at i
      have hstep := fun r c' => add_step (r := r) (c' := c') hl (by omega : i < xs.length) (by omega : i < ys.length) hv
      have HS := hide hstep
      clear hstep hv
      generalize xs.getD i 0 = X at *
      generalize ys.getD i 0 = Y at *
      go_wp2_with fail
      go_quiet ((go_at_call 41; exact Calls.quiet_of_same (badd X Y c X1 Y1 hc _)))
      go_wp2_with fail
      go_roundw
      case rel =>
        have hset := hat.set (zo + i) (U ((X + Y + c) % 18446744073709551616))
        rw [mid_set hl (by omega)] at hset
        exact ⟨i + 1, res ++ [(X + Y + c) % 18446744073709551616], (X + Y + c) / 18446744073709551616, by omega, by go_num, by go_num, by omega, by simp [hl], hw.snoc (by omega), HS.out _ _ (by omega), hset.drewN _, (hk.drewN _).setCell (fun _ => rfl) _⟩
      case measure => simp [intOf]; omega
    · go_wp2_with fail
      go_ret
      have e : i = n := by omega
      subst e
      exact ⟨res, c, rfl, hc, hl, hw, by rw [hv, List.take_of_length_le (by omega), List.take_of_length_le (by omega)], hat, hk⟩

set_option maxHeartbeats 1000000 in
set_option maxRecDepth 100000 in
theorem mulAddVWW_any (zb zo zc xb xo xc n y r : Nat) (zl : List Value) (xs : List Nat) (w : World) (hn : n ≤ 4096) (hxl : xs.length = n) (hxw : Words xs) (hy : y < 18446744073709551616) (hr : r < 18446744073709551616)
    (hz : At w zb 48 zl) (hzn : zo + n ≤ zl.length) (hx : ∀ j, j < n → w.cell? ⟨xb, xo + j, none⟩ = some (U (xs.getD j 0)))
    (hal : xb = zb → xo = zo) :
    Calls Ybaf.prog 17 #[.slice (some ⟨zb, zo, none⟩) n zc, .slice (some ⟨xb, xo, none⟩) n xc, U y, U r] w fun e w' => ∃ (res : List Nat) (c : Nat), e = .returned (U c) ∧ c < 18446744073709551616 ∧ res.length = n ∧ Words res ∧ val res + c * pw n = val xs * y + r ∧
      At w' zb 48 (zl.take zo ++ res.map U ++ zl.drop (zo + n)) ∧ Kept w w' (· = zb) := by
  go_enter Ybaf.func17, Ybaf.ntmps17
  go_wp2_with fail
  go_loopw [8, 19] (fun cv iv wr => ∃ (i : Nat) (res : List Nat) (c : Nat), i ≤ n ∧ iv = .int .i64 i ∧ cv = .int .u64 c ∧ c < 18446744073709551616 ∧ res.length = i ∧ Words res ∧ val res + c * pw i = val (xs.take i) * y + r ∧
      At wr zb 48 (zl.take zo ++ res.map U ++ zl.drop (zo + i)) ∧ Kept w wr (· = zb))
    (fun _ iv _ => n - (intOf iv).toNat)
  case atStart => exact ⟨0, [], r, Nat.zero_le _, rfl, rfl, hr, rfl, Words.nil, by simp [val, pw], by rw [mid_start]; exact hz, Kept.refl _ _⟩
  case round =>
    obtain ⟨i, res, c, hi, rfl, rfl, hc, hl, hw, hv, hat, hk⟩ := hrel
    by_cases hlt : i < n
    · have l1 : (i : Int) < (n : Int) := by omega
      have cx := mid_read hk hz hat hl hlt hzn (hx i hlt) hal
      obtain ⟨ov, hov⟩ := mid_there hat hl (by omega : zo + i < zl.length)
      have hfz := hat.frozen (zo + i)
      have X1 := hxw.at i
      have hstep := fun r' c' => mul_step (r := r') (c' := c') hl (by omega : i < xs.length) hv
      have HS := hide hstep
      clear hstep hv
      generalize xs.getD i 0 = X at *
      have hb := muladd_bound X y c X1 hy hc
      have cc := fun w => mulAddWWW X y c X1 hy hc w
      obtain ⟨hi', hhi⟩ : ∃ s : Nat, s = (X * y + c) / 18446744073709551616 := ⟨_, rfl⟩
      obtain ⟨lo', hlo⟩ : ∃ s : Nat, s = (X * y + c) % 18446744073709551616 := ⟨_, rfl⟩
      have hsum : lo' + 18446744073709551616 * hi' = X * y + c := by omega
      have hlo1 : lo' < 18446744073709551616 := by omega
      rw [← hhi] at hb
      simp only [← hhi, ← hlo] at cc
      have CC := hide cc
      have HSUM := hide hsum
      clear cc hsum hhi hlo
      go_wp2_with (go_at_call 58; refine (CC.out _).mono ?_; rintro e w' ⟨rfl, rfl⟩)
      go_roundw
      case rel =>
        have hset := hat.set (zo + i) (U lo')
        rw [mid_set hl (by omega)] at hset
        exact ⟨i + 1, res ++ [lo'], hi', by omega, by go_num, rfl, hb, by simp [hl], hw.snoc hlo1, HS.out _ _ HSUM.out, hset, hk.setCell (fun _ => rfl) _⟩
      case measure => simp [intOf]; omega
    · go_wp2_with fail
      go_ret
      have e : i = n := by omega
      subst e
      exact ⟨res, c, rfl, hc, hl, hw, by rw [hv, List.take_of_length_le (by omega)], hat, hk⟩
end Go.Proofs.YbulkdgsoFmt.M
