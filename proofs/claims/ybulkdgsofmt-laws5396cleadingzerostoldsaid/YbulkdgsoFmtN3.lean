/-
  The walk of 'zzs5396cmodel'.
-/
import Derived.Test.YbulkdgsoFmtN1
import Derived.Test.YbulkdgsoFmtN2
namespace Go.Proofs.YbulkdgsoFmt.M
open Go.RowKit

/-- The number that the digits (mod 10) write. -/
def dec (ds : List Nat) : Nat := ds.foldl (fun a d => a * 10 + d % 10) 0
theorem dec_nil : dec [] = 0 := rfl
theorem dec_snoc (ds : List Nat) (d : Nat) : dec (ds ++ [d]) = dec ds * 10 + d % 10 := by unfold dec; rw [List.foldl_append]; rfl
theorem dec_lt_rev : ∀ ds : List Nat, dec ds.reverse < 10 ^ ds.length
  | [] => by simp [dec]
  | d :: ds => by
    have ih := dec_lt_rev ds
    rw [List.reverse_cons, dec_snoc, List.length_cons, Nat.pow_succ]
    omega
theorem dec_lt (ds : List Nat) : dec ds < 10 ^ ds.length := by
  have := dec_lt_rev ds.reverse
  simpa using this
theorem ten_le (m n : Nat) (h : n ≤ 16 * m) : (10 : Nat) ^ n ≤ 18014398509481984 ^ m := by
  have h1 : (10 : Nat) ^ n ≤ 10 ^ (16 * m) := Nat.pow_le_pow_right (by decide) h
  rw [Nat.pow_mul] at h1
  exact Nat.le_trans h1 (Nat.pow_le_pow_left (by decide) m)
theorem pw_is (m : Nat) : 18014398509481984 ^ (32 * m) = pw (27 * m) := by
  unfold pw
  rw [show (18014398509481984 : Nat) = 2 ^ 54 from rfl, show (18446744073709551616 : Nat) = 2 ^ 64 from rfl, ← Nat.pow_mul, ← Nat.pow_mul]
  congr 1
  omega
theorem dec_pw (ds : List Nat) (h : ds.length ≤ 1024) : dec ds < pw 60 := by
  have h2 := ten_le (32 * 2) ds.length (by omega)
  rw [pw_is 2] at h2
  exact Nat.lt_of_lt_of_le (dec_lt ds) (Nat.le_trans h2 (pw_mono (by decide)))
theorem pw_mul (k m : Nat) (h : m ≤ 18446744073709551616) (x : Nat) (hx : x < pw k) : x * m < pw (k + 1) := by
  rw [pw_succ]
  have : x * m ≤ x * 18446744073709551616 := Nat.mul_le_mul_left _ h
  omega

theorem BI.alloc {w : World} {B p : Nat} {neg : Bool} {v : Value} {ws : List Nat} (h : BI w B p neg v ws) (o : Obj) : BI (w.alloc o) B p neg v ws :=
  h.kept ((Kept.refl w (fun _ => False)).alloc o) (fun h => h) (fun _ _ h => h)
theorem BI.blk_lt {w : World} {B p : Nat} {neg : Bool} {v : Value} {ws : List Nat} (h : BI w B p neg v ws) {j : Nat} (hj : blk v j) : B ≤ j ∧ j < w.heap.size := h.row.lt hj

/-- A slice of bytes that came in, below block B. -/
def OutB (w : World) (B : Nat) (a : Option Addr) (len : Nat) (ds : List Nat) : Prop :=
  ds.length = len ∧ (∀ d ∈ ds, d ≤ 255) ∧ (0 < len → ∃ b off, a = some ⟨b, off, none⟩ ∧ b < B ∧ ∀ j, j < len → w.cell? ⟨b, off + j, none⟩ = some (.int .u8 ((ds.getD j 0 : Nat) : Int)))

theorem OutB.below {w w' : World} {B : Nat} {a : Option Addr} {len : Nat} {ds : List Nat} (h : OutB w B a len ds) (hb : Below B w w') : OutB w' B a len ds := by
  refine ⟨h.1, h.2.1, fun h0 => ?_⟩
  obtain ⟨b, off, e, hB, hc⟩ := h.2.2 h0
  exact ⟨b, off, e, hB, fun j hj => (hb.cell (p := ⟨b, off + j, none⟩) hB).trans (hc j hj)⟩

/-- Block p is the big.Int of N, or of -N. -/
def Num (w : World) (B p : Nat) (neg : Bool) (N : Nat) : Prop := ∃ v ws, BI w B p (if neg then negd false ws else false) v ws ∧ val ws = N

set_option maxHeartbeats 2000000 in
set_option maxRecDepth 100000 in
theorem model_any (neg : Bool) (a : Option Addr) (len cap : Nat) (ds : List Nat) (w : World) (hlen : len ≤ 1024) (ho : OutB w w.heap.size a len ds) :
    Calls Ybaf.prog 8 #[.bool neg, .slice a len cap] w fun e w' => e = .returned (.pointer (some ⟨w.heap.size, 0, none⟩)) ∧ Num w' w.heap.size w.heap.size neg (dec ds) ∧ Below w.heap.size w w' := by
  go_enter Ybaf.func8, Ybaf.ntmps8
  go_wp2_with fail
  go_loopw [13] (fun iv wr => ∃ (k : Nat) (v : Value) (ws : List Nat), k ≤ len ∧ iv = .int .i64 k ∧ BI wr w.heap.size w.heap.size false v ws ∧ val ws = dec (ds.take k) ∧ Below w.heap.size w wr)
    (fun iv _ => len - (intOf iv).toNat)
  case atStart => exact ⟨0, _, [], Nat.zero_le _, rfl, ⟨At.new w 34 [.bool false, .slice none 0 0], Nat.le_refl _, Row.nil _ _, Words.nil, .inl rfl⟩, rfl, (Below.refl _ _).alloc (Nat.le_refl _) _⟩
  case round =>
    obtain ⟨k, v, ws, hk, rfl, hbi, hv, hbel⟩ := hrel
    have hsz := hbel.size
    have hplt := hbi.lt
    by_cases hlt : k < len
    · obtain ⟨b, off, rfl, hb, hc⟩ := (ho.below hbel).2.2 (by omega)
      have cd := hc k hlt
      have d255 : ds.getD k 0 ≤ 255 := by
        have hkl : k < ds.length := by rw [ho.1]; exact hlt
        rw [List.getD, List.getElem?_eq_getElem hkl]
        exact ho.2.1 _ (List.getElem_mem hkl)
      have hts := take_snoc ds 0 k (by rw [ho.1]; exact hlt)
      obtain ⟨d, hd⟩ : ∃ d, d = ds.getD k 0 := ⟨_, rfl⟩
      rw [← hd] at cd d255 hts
      have hdk : dec (ds.take (k + 1)) = val ws * 10 + d % 10 := by rw [hts, dec_snoc, ← hv]
      have HDK := hide hdk
      have hv60 : val ws < pw 60 := by rw [hv]; exact dec_pw _ (by simp; omega)
      have hl60 := norm_len hbi.norm hv60
      clear hd hts hdk hv hc
      go_wp2_with fail
      refine (Lsh_3 wr.heap.size w.heap.size w.heap.size _ false v ws (At.new wr 34 [.bool false, .slice none 0 0]) hsz (hbi.alloc _) (by simp; omega) (by omega) (by omega)).mono ?_
      rintro e w1 ⟨rfl, tv, ts, ht, htv, hk1, hl1⟩
      have z1 : wr.heap.size + 1 ≤ w1.heap.size := by have := hk1.size; simpa using this
      have ha1 := (hbi.alloc (.cells #[.bool false, .slice none 0 0] 34)).kept hk1 (by omega) (fun j hj e => by have := (hbi.blk_lt hj).2; omega)
      have hb1 : Below w.heap.size w w1 := hbel.trans (((Below.refl w.heap.size wr).alloc hsz _).trans (hk1.below (by simp; omega) (fun j e => by omega)))
      go_wp2_with fail
      refine (Lsh_1 w1.heap.size w.heap.size w.heap.size _ false v ws (At.new w1 34 [.bool false, .slice none 0 0]) (by omega) (ha1.alloc _) (by simp; omega) (by omega) (by omega)).mono ?_
      rintro e w2 ⟨rfl, uv, us, hu, huv, hk2, hl2⟩
      have z2 : w1.heap.size + 1 ≤ w2.heap.size := by have := hk2.size; simpa using this
      have ha2 := (ha1.alloc (.cells #[.bool false, .slice none 0 0] 34)).kept hk2 (by omega) (fun j hj e => by have := (ha1.blk_lt hj).2; omega)
      have ht2 := (ht.alloc (.cells #[.bool false, .slice none 0 0] 34)).kept hk2 (by omega) (fun j hj e => by have := (ht.blk_lt hj).2; omega)
      have hb2 : Below w.heap.size w w2 := hb1.trans (((Below.refl w.heap.size w1).alloc (by omega) _).trans (hk2.below (by simp; omega) (fun j e => by omega)))
      have ht61 : ts.length ≤ 61 := norm_len ht.norm (by rw [htv]; exact pw_mul 60 8 (by decide) _ hv60)
      have hu61 : us.length ≤ 61 := norm_len hu.norm (by rw [huv]; exact pw_mul 60 2 (by decide) _ hv60)
      have hut : us.length ≤ ts.length := norm_len hu.norm (Nat.lt_of_le_of_lt (by rw [htv, huv]; omega) (val_lt ts ht.words))
      go_wp2_with fail
      refine (Add_apart w.heap.size wr.heap.size w1.heap.size w.heap.size w2 false v tv uv ws ts us ha2 ht2 hu (by omega) (.inl hut) (by omega) (by omega) (fun j hj h => by have a1 := hl2 j hj; have a2 := (ha1.blk_lt h).2; simp at a1; omega)).mono ?_
      rintro e w3 ⟨rfl, v3, ws3, ha3, hv3, hk3, hl3⟩
      have z3 := hk3.size
      have hb3 : Below w.heap.size w w3 := hb2.trans (hk3.below (by omega) (fun j e => by
        rcases e with e | e
        · omega
        · exact (ha2.blk_lt e).1))
      clear ha1 ha2 ht ht2 hu hk1 hk2 hk3 hl1 hl2 hl3 hb1 hb2 hbi hbel
      go_wp2_with fail
      rw [show ((d : Int) % 10) = ((d % 10 : Nat) : Int) from by omega]
      refine (SetUint64_any w3.heap.size w.heap.size (d % 10) false (.slice none 0 0) _ (At.new w3 34 [.bool false, .slice none 0 0]) (by omega) (.inl rfl) (by omega) (by simp; omega)).mono ?_
      rintro e w4 ⟨rfl, dv, dw, hdi, hdv, hk4, hl4⟩
      have z4 : w3.heap.size + 1 ≤ w4.heap.size := by have := hk4.size; simpa using this
      have hp3 := ha3.lt
      have ha4 := (ha3.alloc (.cells #[.bool false, .slice none 0 0] 34)).kept hk4 (fun e => e.elim (fun e => by omega) blk_nil) (fun j hj e => e.elim (fun e => by have := (ha3.blk_lt hj).2; omega) blk_nil)
      have hb4 : Below w.heap.size w w4 := hb3.trans (((Below.refl w.heap.size w3).alloc (by omega) _).trans (hk4.below (by simp; omega) (fun j e => e.elim (fun e => by omega) (fun e => absurd e blk_nil))))
      have hv62 : val ws3 < pw 62 := by
        rw [hv3, htv, huv]
        have := pw_mul 60 10 (by decide) _ hv60
        have := pw_mono (show 60 + 1 ≤ 62 by decide)
        omega
      have hl62 := norm_len ha4.norm hv62
      have hdl : dw.length ≤ 1 := norm_len hdi.norm (by rw [hdv, pw_succ, pw_zero]; omega)
      go_wp2_with fail
      refine (Add_self w.heap.size w3.heap.size w.heap.size w4 v3 dv ws3 dw ha4 hdi (by omega) ?_ (by omega) (by omega) (fun j hj h => ?_)).mono ?_
      · by_cases h0 : ws3 = []
        · exact .inr h0
        · exact .inl (by have := List.length_pos_iff.2 h0; omega)
      · have a2 := (ha3.blk_lt h).2
        rcases hl4 j hj with a1 | a1
        · exact blk_nil a1
        · simp at a1; omega
      rintro e w5 ⟨rfl, v5, ws5, ha5, hv5, hk5, hl5⟩
      have hb5 : Below w.heap.size w w5 := hb4.trans (hk5.below (by omega) (fun j e => by
        rcases e with e | e
        · omega
        · exact (ha4.blk_lt e).1))
      have hfin : val ws5 = dec (ds.take (k + 1)) := by rw [hv5, hv3, htv, huv, hdv, HDK.out]; omega
      have HF := hide hfin
      clear ha3 ha4 hdi hk4 hk5 hl4 hl5 hb3 hb4 hv5 hv3 htv huv hdv HDK hfin hv60 hv62
      go_wp2_with fail
      go_roundw
      case rel => exact ⟨k + 1, v5, ws5, by omega, by go_num, ha5, HF.out, hb5⟩
      case measure => simp [intOf]; omega
    · have e : k = len := by omega
      subst e
      have hvd : val ws = dec ds := by rw [hv, List.take_of_length_le (by rw [ho.1]; exact Nat.le_refl _)]
      clear hv
      cases neg with
      | false =>
        go_wp2_with fail
        go_ret
        exact ⟨rfl, ⟨v, ws, hbi, hvd⟩, hbel⟩
      | true =>
        go_wp2_with fail
        refine (Neg_self w.heap.size w.heap.size wr false v ws hbi).mono ?_
        rintro e w1 ⟨rfl, h1, h2⟩
        go_wp2_with fail
        go_ret
        exact ⟨rfl, ⟨v, ws, h1, hvd⟩, hbel.trans (h2.below hsz (fun j e => by omega))⟩
end Go.Proofs.YbulkdgsoFmt.M
