/-
  strings.TrimPrefix(s, "-"), parseInteger.
-/
import Derived.Test.YbulkdgsoFmtN7
namespace Go.Proofs.YbulkdgsoFmt.M
open Go.RowKit
attribute [local go_sem ↓] Go.wp_at_zero Go.wp_at_succ

/-- The text with its sign. -/
def signed (neg : Bool) (s : ByteArray) : ByteArray := if neg then ⟨#[45] ++ s.data⟩ else s

theorem size_neg (s : ByteArray) : (⟨#[45] ++ s.data⟩ : ByteArray).size = s.size + 1 := by
  simp only [ByteArray.size, Array.size_append, List.size_toArray, List.length_cons, List.length_nil]; omega
theorem head_neg (s : ByteArray) : (⟨#[45] ++ s.data⟩ : ByteArray).extract 0 1 = ⟨#[45]⟩ := by
  apply ByteArray.ext
  rw [ByteArray.data_extract]
  simp
theorem tail_neg (s : ByteArray) (n : Nat) (hn : n = s.size + 1) : (⟨#[45] ++ s.data⟩ : ByteArray).extract 1 n = s := by
  apply ByteArray.ext
  rw [ByteArray.data_extract]
  subst hn
  apply Array.ext
  · simp only [Array.size_extract, Array.size_append, List.size_toArray, List.length_cons, List.length_nil, ByteArray.size]; omega
  · intro i h1 h2
    simp only [Array.getElem_extract, Array.getElem_append, List.size_toArray, List.length_cons, List.length_nil]
    rw [dif_neg (by omega)]
    congr 1
    omega
theorem no_minus (s : ByteArray) (ds : List Nat) (hs : Dig s ds) : ((s.extract 0 1).toList == [45]) = false := by
  apply beq_false_of_ne
  intro h
  rw [ByteArray.toList_eq, ByteArray.data_extract] at h
  have h0 : 0 < s.size := by
    by_cases h0 : 0 < s.size
    · exact h0
    · have := congrArg List.length h
      simp only [Array.length_toList, Array.size_extract, List.length_cons, List.length_nil] at this
      have e : s.data.size = s.size := rfl
      omega
  have h1 := hs.at' 0 h0
  have h2 := congrArg (fun l => l[0]?) h
  simp only [Array.getElem?_toList, List.getElem?_cons_zero] at h2
  rw [Array.getElem?_extract, if_pos (by have e : s.data.size = s.size := rfl; omega), Nat.zero_add] at h2
  have h3 : s.data[0]? = some s[0] := Array.getElem?_eq_getElem h0
  rw [h3] at h2
  rw [Option.some.inj h2] at h1
  have : (45 : UInt8).toNat = 45 := rfl
  omega

set_option maxHeartbeats 1000000 in
set_option maxRecDepth 100000 in
theorem HasPrefix_hit (s : ByteArray) (w : World) (hs : s.size ≤ 1100) :
    Calls Ybaf.prog 30 #[.string ⟨#[45] ++ s.data⟩, .string ⟨#[45]⟩] w fun e w' => e = .returned (.bool true) ∧ w' = w := by
  have h1 := size_neg s
  have h2 := head_neg s
  obtain ⟨t, ht⟩ : ∃ t, t = (⟨#[45] ++ s.data⟩ : ByteArray) := ⟨_, rfl⟩
  rw [← ht] at h1 h2 ⊢
  clear ht
  go_enter Ybaf.func30, Ybaf.ntmps30
  go_wp2_with fail
  go_ret
  exact ⟨rfl, rfl⟩
set_option maxHeartbeats 1000000 in
set_option maxRecDepth 100000 in
theorem HasPrefix_miss (s : ByteArray) (ds : List Nat) (w : World) (hs : Dig s ds) :
    Calls Ybaf.prog 30 #[.string s, .string ⟨#[45]⟩] w fun e w' => e = .returned (.bool false) ∧ w' = w := by
  have h1 := no_minus s ds hs
  go_enter Ybaf.func30, Ybaf.ntmps30
  go_wp2_with fail
  all_goals (go_ret; exact ⟨rfl, rfl⟩)

set_option maxHeartbeats 1000000 in
set_option maxRecDepth 100000 in
theorem Trim_lite (neg : Bool) (s : ByteArray) (ds : List Nat) (w : World) (hs : Dig s ds) :
    Calls Ybaf.prog 22 #[.string (signed neg s), .string ⟨#[45]⟩] w fun e w' => e = .returned (.string s) ∧ w' = w := by
  have hle := hs.le
  cases neg with
  | false =>
    rw [show signed false s = s from rfl]
    go_enter Ybaf.func22, Ybaf.ntmps22
    go_wp2_with (go_at_call 30; refine (HasPrefix_miss s ds _ hs).mono ?_; rintro e w1 ⟨rfl, rfl⟩)
    go_ret
    exact ⟨rfl, rfl⟩
  | true =>
    rw [show signed true s = ⟨#[45] ++ s.data⟩ from rfl]
    have h1 := size_neg s
    have h2 := tail_neg s _ rfl
    have h3 := fun w => HasPrefix_hit s w hle
    obtain ⟨t, ht⟩ : ∃ t, t = (⟨#[45] ++ s.data⟩ : ByteArray) := ⟨_, rfl⟩
    rw [← ht] at h1 h2 h3 ⊢
    clear ht
    have H3 := hide h3
    clear h3
    have l1 : (1 : Int) ≤ (s.size : Int) + 1 := by omega
    go_enter Ybaf.func22, Ybaf.ntmps22
    go_wp2_with (go_at_call 30; refine (H3.out _).mono ?_; rintro e w1 ⟨rfl, rfl⟩)
    go_ret
    exact ⟨rfl, rfl⟩

set_option maxHeartbeats 1000000 in
set_option maxRecDepth 100000 in
theorem Trim_any (neg : Bool) (s : ByteArray) (ds : List Nat) (w : World) (hs : Dig s ds) :
    Calls Ybaf.prog 9 #[.string (signed neg s), .string ⟨#[45]⟩] w fun e w' => e = .returned (.string s) ∧ w' = w := by
  go_enter Ybaf.func9, Ybaf.ntmps9
  go_wp2_with (go_at_call 22; refine (Trim_lite neg s ds _ hs).mono ?_; rintro e w1 ⟨rfl, rfl⟩)
  go_ret
  exact ⟨rfl, rfl⟩

theorem size_signed (neg : Bool) (s : ByteArray) : (signed neg s).size = s.size + (if neg then 1 else 0) := by
  cases neg with
  | false => rfl
  | true => exact size_neg s
theorem dec_lt_ten (ds : List Nat) (k n : Nat) (hk : k ≤ n) : dec (ds.take k) < 10 ^ n := by
  refine Nat.lt_of_lt_of_le (dec_lt _) (Nat.pow_le_pow_right (by decide) ?_)
  simp only [List.length_take]
  omega

set_option maxHeartbeats 1000000 in
set_option maxRecDepth 100000 in
/-- parseInteger. -/
theorem parse_any (neg : Bool) (s : ByteArray) (ds : List Nat) (a : Addr) (w : World) (hs : Dig s ds) (he : Eof w a) :
    Calls Ybaf.prog 6 #[.string (signed neg s)] w fun e w' => e = .returned (.pointer (some ⟨w.heap.size, 0, none⟩)) ∧ Num w' w.heap.size w.heap.size neg (dec ds) ∧ Below w.heap.size w w' := by
  have hle := hs.le
  have h0 : 0 < w.heap.size := World.block_lt_of_cell? w ⟨0, 0, none⟩ he
  have hsz := size_signed neg s
  have HT := hide (fun w => Trim_any neg s ds w hs)
  obtain ⟨t, ht⟩ : ∃ t, t = signed neg s := ⟨_, rfl⟩
  rw [← ht] at hsz HT ⊢
  clear ht
  have hat := At.new w 34 [.bool false, .slice none 0 0]
  have hbel : Below w.heap.size w (w.alloc (.cells #[.bool false, .slice none 0 0] 34)) := (Below.refl _ w).alloc (Nat.le_refl _) _
  go_enter Ybaf.func6, Ybaf.ntmps6
  by_cases h19 : s.size ≤ 19
  · have l19 : (s.size : Int) ≤ 19 := by omega
    go_wp2_with (go_at_call 9; refine (HT.out _).mono ?_; rintro e w1 ⟨rfl, hw⟩; have hw := hw.symm; subst hw)
    go_loop [5, 15] (fun v5 v15 => ∃ k x : Nat, k ≤ s.size ∧ x = dec (ds.take k) ∧ v5 = .int .u64 (x : Int) ∧ v15 = .int .i64 (k : Int)) (fun _ v15 => s.size - (intOf v15).toNat)
    case atStart => exact ⟨0, 0, Nat.zero_le _, rfl, rfl, rfl⟩
    case round =>
      obtain ⟨k, x, hk, hx, rfl, rfl⟩ := hrel
      by_cases hlt : k < s.size
      · have hx18 : x < 10 ^ 18 := by rw [hx]; exact dec_lt_ten ds k 18 (by omega)
        have hd := hs.lt k
        have hst := hs.step k hlt
        have hb := hs.at' k hlt
        obtain ⟨d, hdd⟩ : ∃ d, d = ds.getD k 0 := ⟨_, rfl⟩
        rw [← hdd] at hd hst hb
        rw [← hx] at hst
        have HST := hide hst
        have wd : IntKind.u8.wrap ((s[k].toNat : Int) - 48) = (d : Int) := by rw [IntKind.wrap_u8, hb]; omega
        have wd2 : IntKind.u64.wrap (d : Int) = (d : Int) := wrapN d (by omega)
        have wx : IntKind.u64.wrap ((x : Int) * 10) = (x : Int) * 10 := by rw [IntKind.wrap_u64]; omega
        have wx2 : IntKind.u64.wrap ((x : Int) * 10 + (d : Int)) = (x : Int) * 10 + (d : Int) := by rw [IntKind.wrap_u64]; omega
        have lk : (k : Int) < (s.size : Int) := by omega
        clear hx hst hdd hb
        go_wp2_with fail
        refine ⟨⟨k + 1, x * 10 + d, by omega, HST.out.symm, rfl, rfl⟩, ?_⟩
        simp only [intOf]
        omega
      · obtain rfl : k = s.size := by omega
        rw [List.take_of_length_le (by rw [hs.len]; exact Nat.le_refl _)] at hx
        have hx64 : x < 18446744073709551616 := by
          have := dec_lt_ten ds s.size 19 h19
          rw [List.take_of_length_le (by rw [hs.len]; exact Nat.le_refl _)] at this
          omega
        have HX := hide hx
        clear hx
        cases neg with
        | false =>
          simp only [Bool.false_eq_true, if_false, Nat.add_zero] at hsz
          go_wp2_with (go_at_call 10; refine (SetUint64_any w.heap.size w.heap.size x false (.slice none 0 0) _ hat (Nat.le_refl _) (.inl rfl) hx64 (by simp)).mono ?_; rintro e w2 ⟨rfl, v, ws, hb2, hv2, k2, _⟩)
          go_ret
          exact ⟨rfl, ⟨v, ws, hb2, hv2.trans HX.out⟩, hbel.trans (k2.below (by simp) (fun j e => e.elim (fun e => by omega) (fun e => (blk_nil e).elim)))⟩
        | true =>
          simp only [if_true] at hsz
          go_wp2_with fail
          refine (SetUint64_any w.heap.size w.heap.size x false (.slice none 0 0) _ hat (Nat.le_refl _) (.inl rfl) hx64 (by simp)).mono ?_
          rintro e w2 ⟨rfl, v, ws, hb2, hv2, k2, _⟩
          have z2 : w.heap.size ≤ w2.heap.size := by have := k2.size; simp at this; omega
          go_wp2_with fail
          refine (Neg_self w.heap.size w.heap.size w2 false v ws hb2).mono ?_
          rintro e w3 ⟨rfl, hb3, k3⟩
          go_wp2_with fail
          go_ret
          exact ⟨rfl, ⟨v, ws, hb3, hv2.trans HX.out⟩, (hbel.trans (k2.below (by simp) (fun j e => e.elim (fun e => by omega) (fun e => (blk_nil e).elim)))).trans (k3.below z2 (fun j e => by omega))⟩
  · have l19 : ¬ (s.size : Int) ≤ 19 := by omega
    go_wp2_with (go_at_call 9; refine (HT.out _).mono ?_; rintro e w1 ⟨rfl, hw⟩; have hw := hw.symm; subst hw)
    refine (SetString_any w.heap.size w.heap.size s ds a _ hs (by omega) (he.kept ((Kept.refl w (fun _ => False)).alloc _) (fun h => h)) hat h0 (Nat.le_refl _)).mono ?_
    rintro e w2 ⟨rfl, v, ws, hb2, hv2, k2⟩
    have z2 : w.heap.size ≤ w2.heap.size := by have := k2.size; simp at this; omega
    have hbel2 : Below w.heap.size w w2 := hbel.trans (k2.below (by simp) (fun j e => by omega))
    have HV := hide hv2
    clear hv2
    cases neg with
    | false =>
      simp only [Bool.false_eq_true, if_false, Nat.add_zero] at hsz
      go_wp2_with fail
      go_ret
      exact ⟨rfl, ⟨v, ws, hb2, HV.out⟩, hbel2⟩
    | true =>
      simp only [if_true] at hsz
      go_wp2_with fail
      refine (Neg_self w.heap.size w.heap.size w2 false v ws hb2).mono ?_
      rintro e w3 ⟨rfl, hb3, k3⟩
      go_wp2_with fail
      go_ret
      exact ⟨rfl, ⟨v, ws, hb3, HV.out⟩, hbel2.trans (k3.below z2 (fun j e => by omega))⟩

end Go.Proofs.YbulkdgsoFmt.M
