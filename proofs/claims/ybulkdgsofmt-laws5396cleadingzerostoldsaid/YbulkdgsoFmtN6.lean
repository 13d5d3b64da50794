/-
  nat.scan over a text of decimal digits.
-/
import Derived.Test.YbulkdgsoFmtN3
import Derived.Test.YbulkdgsoFmtN4
import Derived.Test.YbulkdgsoFmtN5
namespace Go.Proofs.YbulkdgsoFmt.M
open Go.RowKit
attribute [local go_sem ↓] Go.wp_at_zero Go.wp_at_succ
attribute [local go_sem] method_read method_unread

/-- The text s is the digits ds. -/
structure Dig (s : ByteArray) (ds : List Nat) : Prop where
  len : ds.length = s.size
  at' : ∀ i (h : i < s.size), s[i].toNat = 48 + ds.getD i 0
  lt : ∀ i, ds.getD i 0 < 10
  le : s.size ≤ 1100
theorem Dig.step {s : ByteArray} {ds : List Nat} (h : Dig s ds) (k : Nat) (hk : k < s.size) : dec (ds.take (k + 1)) = dec (ds.take k) * 10 + ds.getD k 0 := by
  rw [take_snoc ds 0 k (by rw [h.len]; exact hk), dec_snoc, Nat.mod_eq_of_lt (h.lt k)]
theorem Dig.pw {s : ByteArray} {ds : List Nat} (h : Dig s ds) (k : Nat) : dec (ds.take k) < pw 81 := by
  have h1 := dec_lt (ds.take k)
  have h2 := ten_le (32 * 3) (ds.take k).length (by simp only [List.length_take]; have := h.len; have := h.le; omega)
  rw [pw_is 3] at h2
  exact Nat.lt_of_lt_of_le h1 h2

/-- What a read at place i gives. -/
def Got (s : ByteArray) (ds : List Nat) (a : Addr) (i : Nat) (ch err : Value) : Prop :=
  (i < s.size ∧ ch = .int .u8 ((48 + ds.getD i 0 : Nat) : Int) ∧ err = .nilIface) ∨ (i = s.size ∧ ch = .int .u8 0 ∧ err = .iface 95 (.pointer (some a)))
theorem ReadByte_next (r i : Nat) (s : ByteArray) (ds : List Nat) (a : Addr) (w : World) (hs : Dig s ds) (hr : Rd w r s i) (hi : i ≤ s.size) (he : Eof w a) (hr0 : 0 < r) :
    Calls Ybaf.prog 83 #[.pointer (some ⟨r, 0, none⟩)] w fun e w' => ∃ ch err, e = .returned (.tuple #[ch, err]) ∧ Got s ds a i ch err ∧ Rd w' r s (min (i + 1) s.size) ∧ Kept w w' (· = r) := by
  have h1 := hs.le
  by_cases hlt : i < s.size
  · refine (ReadByte_more r i s w hr hlt (by omega)).mono ?_
    rintro e w' ⟨rfl, h1, h2⟩
    rw [hs.at' i hlt]
    exact ⟨_, _, rfl, .inl ⟨hlt, rfl, rfl⟩, by rw [Nat.min_eq_left (by omega)]; exact h1, h2⟩
  · refine (ReadByte_eof r i s a w hr (by omega) he hr0).mono ?_
    rintro e w' ⟨rfl, h1, h2⟩
    exact ⟨_, _, rfl, .inr ⟨by omega, rfl, rfl⟩, by rw [Nat.min_eq_right (by omega)]; rw [show s.size = i by omega]; exact h1, h2⟩

theorem eof_comp : (Ybaf.prog.info? 95).map (·.comparable) = some true := by kernel_rfl
theorem eof_elem : (Ybaf.prog.info? 116).isSome = true := by kernel_rfl
theorem eof_eql (a : Addr) (w : World) : (binOp .eql 57 (.iface 95 (.pointer (some a))) (.iface 95 (.pointer (some a)))).run Ybaf.prog w = .ok (.bool true) w := by
  obtain ⟨i, hi, hcmp⟩ := Option.map_eq_some_iff.1 eof_comp
  obtain ⟨j, hj⟩ := Option.isSome_iff_exists.1 eof_elem
  exact run_eql_iface_ptr_same (P := Ybaf.prog) w a Ybaf.underlying57 Ybaf.underlying95 hi hcmp hj

theorem results_four {fn : Func} {t u v x : Tmp} (h : fn.results = #[.tmp t, .tmp u, .tmp v, .tmp x]) (tmps : Array Value) (P : Program) (w : World) :
    (results fn tmps).run P w = .ok (.tuple #[tmps.getD t undef, tmps.getD u undef, tmps.getD v undef, tmps.getD x undef]) w := by
  simp [results, h]

/-- The loop's relation. -/
structure Inv (w wr : World) (s : ByteArray) (ds : List Nat) (a : Addr) (r k i x : Nat) (xs : List Nat) (z ch err : Value) : Prop where
  hk : k ≤ s.size
  hi : i < 19
  hx : x < 10 ^ i
  hv : val xs * 10 ^ i + x = dec (ds.take k)
  row : Row wr w.heap.size z xs
  words : Words xs
  norm : Norm xs
  got : Got s ds a k ch err
  rd : Rd wr r s (min (k + 1) s.size)
  kept : Kept w wr (· = r)

set_option maxHeartbeats 1000000 in
set_option maxRecDepth 100000 in
theorem scan_any (r : Nat) (s : ByteArray) (ds : List Nat) (a : Addr) (w : World) (hs : Dig s ds) (h0 : 0 < s.size) (hr : Rd w r s 0) (he : Eof w a) (hr0 : 0 < r) :
    Calls Ybaf.prog 46 #[.slice none 0 0, .iface 46 (.pointer (some ⟨r, 0, none⟩)), .int .i64 10, .bool false] w fun e w' => ∃ v ws, e = .returned (.tuple #[v, .int .i64 10, .int .i64 (s.size : Int), .nilIface]) ∧ Row w' w.heap.size v ws ∧ Words ws ∧ Norm ws ∧ val ws = dec ds ∧ Rd w' r s s.size ∧ Kept w w' (· = r) := by
  go_enter Ybaf.func46, Ybaf.ntmps46
  go_wp2_with (go_at_call 83; refine (ReadByte_next r 0 s ds a _ hs hr (by omega) he hr0).mono ?_; rintro e w1 ⟨ch, err, rfl, hg, hr1, k1⟩)
  refine (maxPow_10 w1).mono ?_
  rintro e w2 ⟨rfl, rfl⟩
  go_wp2_with fail
  go_loopw [0, 3, 10, 11, 13, 14, 15, 20, 21, 22] (fun z v3 v10 err v13 v14 ch v20 v21 v22 wr => ∃ k i x xs pv, Inv w wr s ds a r k i x xs z ch err ∧ pv ≠ (95 : Int) ∧ v3 = .bool false ∧ v10 = .int .i64 (k : Int) ∧ v13 = .int .i32 pv ∧ v14 = .bool false ∧ v20 = .int .u64 (x : Int) ∧ v21 = .int .i64 (i : Int) ∧ v22 = .int .i64 (-1))
    (fun _ _ v10 _ _ _ _ _ _ _ _ => s.size - (intOf v10).toNat)
  case atStart =>
    exact ⟨0, 0, 0, [], 46, ⟨by omega, by omega, by decide, by simp [val, dec], Row.nil _ _, Words.nil, .inl rfl, hg, hr1, k1⟩, by decide, rfl, rfl, rfl, rfl, rfl, rfl, rfl⟩
  case round =>
    obtain ⟨k, i, x, xs, pv, hI, hpv, rfl, rfl, rfl, rfl, rfl, rfl, rfl⟩ := hrel
    have hi := hI.hi
    have heo : Eof wr a := he.kept hI.kept (by omega)
    have hsz := hI.kept.size
    have hrl := hr.lt
    have hlen : xs.length ≤ 81 := by
      refine norm_len hI.norm (Nat.lt_of_le_of_lt ?_ (hs.pw k))
      rw [← hI.hv]
      exact Nat.le_trans (Nat.le_mul_of_pos_right _ (Nat.pow_pos (by decide))) (Nat.le_add_right _ _)
    have hle := hs.le
    have hk := hI.hk
    have hxi : x < 10 ^ 18 := Nat.lt_of_lt_of_le hI.hx (Nat.pow_le_pow_right (by decide) (by omega))
    rcases hI.got with ⟨hlt, hch, herr⟩ | ⟨hke, hch, herr⟩
    · have hd := hs.lt k
      subst hch herr
      obtain ⟨d, hdd⟩ : ∃ d, d = ds.getD k 0 := ⟨_, rfl⟩
      rw [← hdd] at hd ⊢
      obtain ⟨c, hc⟩ : ∃ c, c = 48 + d := ⟨_, rfl⟩
      rw [← hc]
      have n46 : ¬ (c : Int) = 46 := by omega
      have n95 : ¬ (c : Int) = 95 := by omega
      have l48 : (48 : Int) ≤ (c : Int) := by omega
      have l57 : (c : Int) ≤ 57 := by omega
      have wd : IntKind.u8.wrap ((c : Int) - 48) = (d : Int) := by rw [IntKind.wrap_u8]; omega
      have wd2 : IntKind.u64.wrap (d : Int) = (d : Int) := wrapN d (by omega)
      have d10 : ¬ (10 : Int) ≤ (d : Int) := by omega
      have wx : IntKind.u64.wrap ((x : Int) * 10) = (x : Int) * 10 := by rw [IntKind.wrap_u64]; omega
      have wx2 : IntKind.u64.wrap ((x : Int) * 10 + (d : Int)) = (x : Int) * 10 + (d : Int) := by rw [IntKind.wrap_u64]; omega
      have hst := hs.step k hlt
      rw [← hdd, ← hI.hv] at hst
      have HST := hide hst
      clear hc hdd hst
      by_cases h18 : i = 18
      · subst h18
        go_wp2_with fail
        refine (mulAddWW_any _ _ w.heap.size w.heap.size 10000000000000000000 (x * 10 + d) xs wr hI.row.place hI.row hI.words (by omega) (by omega) (by omega) hsz (by omega)).mono ?_
        rintro e w3 ⟨v, ws, rfl, r3⟩
        have hb3 : ¬ blk u0 r := fun h => by have := (hI.row.lt h).1; omega
        have rd3 := hI.rd.kept r3.kept hb3
        have eo3 : Eof w3 a := heo.kept r3.kept (fun h => by have := (hI.row.lt h).1; omega)
        have s3 := r3.kept.size
        go_wp2_with (go_at_call 83; refine (ReadByte_next r (k + 1) s ds a _ hs (by rw [Nat.min_eq_left (by omega)] at rd3; exact rd3) (by omega) eo3 hr0).mono ?_; rintro e w4 ⟨ch4, err4, rfl, hg4, hr4, k4⟩)
        refine ⟨⟨k + 1, 0, 0, ws, 48, ⟨by omega, by omega, by decide, ?_, r3.row.kept k4 ?_, r3.words, r3.norm, hg4, hr4, ?_⟩, by decide, rfl, rfl, rfl, rfl, rfl, rfl, rfl⟩, ?_⟩
        · rw [HST.out, r3.val]; omega
        · intro j hj e
          rcases r3.lies j hj with h | h
          · have := (hI.row.lt h).1; omega
          · omega
        · exact (hI.kept.trans r3.kept (fun j hj h => by have := (hI.row.lt h).1; omega)).trans k4 (fun _ _ h => h)
        · simp only [intOf]; omega
      · have i19 : ¬ (i : Int) + 1 = 19 := by omega
        go_wp2_with (go_at_call 83; refine (ReadByte_next r (k + 1) s ds a _ hs (by have := hI.rd; rw [Nat.min_eq_left (by omega)] at this; exact this) (by omega) heo hr0).mono ?_; rintro e w4 ⟨ch4, err4, rfl, hg4, hr4, k4⟩)
        refine ⟨⟨k + 1, i + 1, x * 10 + d, xs, 48, ⟨by omega, by omega, ?_, ?_, hI.row.kept k4 ?_, hI.words, hI.norm, hg4, hr4, ?_⟩, by decide, rfl, rfl, rfl, rfl, rfl, rfl, rfl⟩, ?_⟩
        · have := hI.hx; rw [Nat.pow_succ]; omega
        · rw [HST.out, Nat.pow_succ, ← Nat.mul_assoc]; omega
        · intro j hj e
          have := (hI.row.lt hj).1; omega
        · exact hI.kept.trans k4 (fun _ _ h => h)
        · simp only [intOf]; omega
    · subst hch herr
      have hg0 : wr.cell? ⟨0, 0, none⟩ = some (.iface 95 (.pointer (some a))) := heo
      have hq := fun w => eof_eql a w
      have nk : ¬ (k : Int) = 0 := by omega
      have rdk : Rd wr r s s.size := by have := hI.rd; rw [Nat.min_eq_right (by omega)] at this; exact this
      have hvk : val xs * 10 ^ i + x = dec ds := by have := hI.hv; rw [List.take_of_length_le (by rw [hs.len]; omega)] at this; exact this
      have hxi2 := hI.hx
      by_cases hi0 : i = 0
      · subst hi0
        have HV := hide hvk
        clear hvk
        go_wp2_with fail
        (try simp only [Exit.inBlock, Exit.then]); refine bodyPost_ret (results_four rfl _ _ _) rfl ?_
        refine ⟨u0, xs, by rw [← hke]; rfl, hI.row, hI.words, hI.norm, ?_, rdk, hI.kept⟩
        have := HV.out
        rw [Nat.pow_zero] at this hxi2
        omega
      · have hip : (0 : Int) < (i : Int) := by omega
        obtain ⟨P, hP⟩ : ∃ P, P = 10 ^ i := ⟨_, rfl⟩
        have hP18 : P ≤ 10 ^ 18 := by rw [hP]; exact Nat.pow_le_pow_right (by decide) (by omega)
        have hP0 : 0 < P := by rw [hP]; exact Nat.pow_pos (by decide)
        rw [← hP] at hvk
        have HV := hide hvk
        have HP := hide hP
        clear hvk hP hxi2
        go_wp2_with (go_at_call 54; refine (pow_10 i P (by omega) HP.out _).mono ?_; rintro e w5 ⟨rfl, rfl⟩)
        refine (mulAddWW_any _ _ w.heap.size w.heap.size P x xs _ hI.row.place hI.row hI.words (by omega) (by omega) (by omega) hsz (by omega)).mono ?_
        rintro e w3 ⟨v, ws, rfl, r3⟩
        have hb3 : ¬ blk u0 r := fun h => by have := (hI.row.lt h).1; omega
        have rd3 := rdk.kept r3.kept hb3
        go_wp2_with fail
        (try simp only [Exit.inBlock, Exit.then]); refine bodyPost_ret (results_four rfl _ _ _) rfl ?_
        refine ⟨v, ws, by rw [← hke]; rfl, r3.row, r3.words, r3.norm, ?_, rd3, ?_⟩
        · rw [r3.val]; exact HV.out
        · exact hI.kept.trans r3.kept (fun j hj h => by have := (hI.row.lt h).1; omega)

end Go.Proofs.YbulkdgsoFmt.M
