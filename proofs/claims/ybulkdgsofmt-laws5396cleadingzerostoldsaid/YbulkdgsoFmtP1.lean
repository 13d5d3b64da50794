/-
  The walks of the two laws.
-/
import Derived.Test.YbulkdgsoFmtN9
namespace Go.Proofs.YbulkdgsoFmt.M
open Go.RowKit
attribute [local go_sem ↓] Go.wp_at_zero Go.wp_at_succ

/-- The text's body. -/
def body (k : Nat) (ds : List Nat) : List UInt8 := List.replicate k 48 ++ ds.map (fun d => UInt8.ofNat (48 + d % 10))
def digs (k : Nat) (ds : List Nat) : List Nat := List.replicate k 0 ++ ds.map (· % 10)

theorem txt_signed (neg : Bool) (k : Nat) (ds : List Nat) : (⟨(txt neg k ds).toArray⟩ : ByteArray) = signed neg ⟨(body k ds).toArray⟩ := by
  cases neg with
  | false => rfl
  | true => simp [txt, signed, body]
theorem dec_zeros : ∀ k : Nat, dec (List.replicate k 0) = 0
  | 0 => rfl
  | k + 1 => by rw [List.replicate_succ', dec_snoc, dec_zeros k]
theorem dec_digs_rev (k : Nat) : ∀ ds : List Nat, dec (digs k ds.reverse) = dec ds.reverse
  | [] => by simp [digs, dec_zeros]; rfl
  | d :: ds => by
    have h : digs k (d :: ds).reverse = digs k ds.reverse ++ [d % 10] := by simp [digs]
    rw [h, dec_snoc, dec_digs_rev k ds, List.reverse_cons, dec_snoc, Nat.mod_mod]
theorem dec_digs (k : Nat) (ds : List Nat) : dec (digs k ds) = dec ds := by
  have := dec_digs_rev k ds.reverse
  rwa [List.reverse_reverse] at this
theorem body_map (k : Nat) (ds : List Nat) : (body k ds).map UInt8.toNat = (digs k ds).map (48 + ·) := by
  simp only [body, digs, List.map_append, List.map_replicate, List.map_map]
  congr 1
  apply List.map_congr_left
  intro d _
  show (UInt8.ofNat (48 + d % 10)).toNat = 48 + d % 10
  rw [UInt8.toNat_ofNat']
  omega
theorem digs_lt (k : Nat) (ds : List Nat) : ∀ d ∈ digs k ds, d < 10 := by
  intro d hm
  simp only [digs, List.mem_append, List.mem_map] at hm
  rcases hm with hm | ⟨d', _, e⟩
  · have := (List.mem_replicate.1 hm).2
    omega
  · omega
theorem OutB.up {w : World} {B B' : Nat} {a : Option Addr} {len : Nat} {ds : List Nat} (h : OutB w B a len ds) (hb : B ≤ B') : OutB w B' a len ds :=
  ⟨h.1, h.2.1, fun h0 => by obtain ⟨b, off, e, hB, hc⟩ := h.2.2 h0; exact ⟨b, off, e, Nat.lt_of_lt_of_le hB hb, hc⟩⟩
theorem dig_body (k : Nat) (ds : List Nat) (h : k + ds.length ≤ 1100) : Dig ⟨(body k ds).toArray⟩ (digs k ds) := by
  have hl : (body k ds).length = k + ds.length := by simp [body]
  have hl2 : (digs k ds).length = k + ds.length := by simp [digs]
  have hsz : (⟨(body k ds).toArray⟩ : ByteArray).size = k + ds.length := hl
  refine ⟨by rw [hsz, hl2], ?_, ?_, by rw [hsz]; exact h⟩
  · intro i hi
    have h1 : i < (body k ds).length := hi
    have h2 : i < (digs k ds).length := by omega
    have e := congrArg (fun l => l[i]?) (body_map k ds)
    simp only [List.getElem?_map, List.getElem?_eq_getElem h1, List.getElem?_eq_getElem h2, Option.map_some] at e
    rw [List.getD, List.getElem?_eq_getElem h2]
    exact Option.some.inj e
  · intro i
    by_cases h2 : i < (digs k ds).length
    · rw [List.getD, List.getElem?_eq_getElem h2]
      exact digs_lt k ds _ (List.getElem_mem h2)
    · rw [List.getD, List.getElem?_eq_none (by omega)]
      decide

theorem Num.below {w w' : World} {B p : Nat} {neg : Bool} {N : Nat} (h : Num w B p neg N) (hb : Below w.heap.size w w') : Num w' B p neg N := by
  obtain ⟨v, ws, h1, h2⟩ := h
  exact ⟨v, ws, h1.kept (Kept.of_below hb (fun _ => False)) (fun h => h) (fun _ _ h => h), h2⟩
theorem Num.lt {w : World} {B p : Nat} {neg : Bool} {N : Nat} (h : Num w B p neg N) : p < w.heap.size := by
  obtain ⟨v, ws, h1, h2⟩ := h
  exact h1.lt
theorem Num.drewN {w : World} {B p : Nat} {neg : Bool} {N : Nat} (h : Num w B p neg N) (q : Nat) : Num (w.drewN q) B p neg N := by
  obtain ⟨v, ws, h1, h2⟩ := h
  exact ⟨v, ws, h1.kept ((Kept.refl w (fun _ => False)).drewN q) (fun h => h) (fun _ _ h => h), h2⟩

/-- Two numbers of one value compare as one. -/
theorem Cmp_num (p q B B' : Nat) (w : World) (neg : Bool) (N : Nat) (hp : Num w B p neg N) (hq : Num w B' q neg N) (hne : p ≠ q) (hN : N < pw 60) :
    Calls Ybaf.prog 7 #[.pointer (some ⟨p, 0, none⟩), .pointer (some ⟨q, 0, none⟩)] w fun e w' => e = .returned (.int .i64 0) ∧ ∃ d, w' = w.drewN d := by
  obtain ⟨v, ws, h1, h2⟩ := hp
  obtain ⟨v', ws', h1', h2'⟩ := hq
  obtain rfl : ws = ws' := norm_unique _ _ h1.words h1'.words h1.norm h1'.norm (h2.trans h2'.symm)
  have := norm_len h1.norm (by rw [h2]; exact hN)
  exact Cmp_eq p q B B' w _ v v' ws h1 h1' hne (by omega)

/-- parseInteger of the text that build writes. -/
theorem parse_txt (neg : Bool) (k : Nat) (ds : List Nat) (a : Addr) (w : World) (hk : k < 40) (hl : ds.length ≤ 1024) (he : Eof w a) :
    Calls Ybaf.prog 6 #[.string ⟨(txt neg k ds).toArray⟩] w fun e w' => e = .returned (.pointer (some ⟨w.heap.size, 0, none⟩)) ∧ Num w' w.heap.size w.heap.size neg (dec ds) ∧ Below w.heap.size w w' := by
  rw [txt_signed, ← dec_digs k ds]
  exact parse_any neg _ _ a w (dig_body k ds (by omega)) he

set_option maxHeartbeats 1000000 in
set_option maxRecDepth 100000 in
theorem value_any (neg : Bool) (a : Option Addr) (len cp : Nat) (ds : List Nat) (ad : Addr) (w : World) (he : Eof w ad) (ho : OutB w w.heap.size a len ds) :
    Calls Ybaf.prog 3 #[.bool neg, .slice a len cp] w fun e w' => e = .returned (.bool true) ∧ Below w.heap.size w w' := by
  by_cases h : 1024 < len
  · have h1 : (1024 : Int) < (len : Int) := by omega
    clear ho
    go_enter Ybaf.func3, Ybaf.ntmps3
    go_wp2_with fail
    go_ret
    exact ⟨rfl, Below.refl _ _⟩
  · have h1 : ¬ (1024 : Int) < (len : Int) := by omega
    have hl : ds.length ≤ 1024 := by rw [ho.1]; omega
    have HO := hide ho
    clear ho
    go_enter Ybaf.func3, Ybaf.ntmps3
    go_wp2_with fail
    refine (build_any neg 0 a len cp ds w (by omega) (by omega) HO.out).mono ?_
    rintro e w1 ⟨rfl, b1⟩
    have z1 := b1.size
    have he1 : Eof w1 ad := he.kept (Kept.of_below b1 (fun _ => False)) (fun h => h)
    have HP := hide (fun w he => parse_txt neg 0 ds ad w (by omega) hl he)
    obtain ⟨tx, htx⟩ : ∃ tx, tx = (⟨(txt neg 0 ds).toArray⟩ : ByteArray) := ⟨_, rfl⟩
    rw [← htx] at HP ⊢
    clear htx
    have k1 : Kept w w1 (fun _ => False) := Kept.of_below b1 _
    go_wp2_with fail
    refine (HP.out w1 he1).mono ?_
    rintro e w2 ⟨rfl, n2, b2⟩
    have k2 : Kept w w2 (fun _ => False) := k1.trans (Kept.of_below b2 (fun _ => False)) (fun _ _ h => h)
    have z2 := k2.size
    have l2 := n2.lt
    go_wp2_with fail
    refine (model_any neg a len cp ds w2 (by omega) ((HO.out.below (k2.below (Nat.le_refl _) (fun _ h => h.elim))).up z2)).mono ?_
    rintro e w3 ⟨rfl, n3, b3⟩
    have k3 : Kept w w3 (fun _ => False) := k2.trans (Kept.of_below b3 (fun _ => False)) (fun _ _ h => h)
    go_wp2_with fail
    refine (Cmp_num w1.heap.size w2.heap.size _ _ w3 neg (dec ds) (n2.below b3) n3 (by omega) (dec_pw ds hl)).mono ?_
    rintro e w4 ⟨rfl, q, rfl⟩
    go_wp2_with fail
    go_ret
    exact ⟨rfl, (k3.drewN q).below (Nat.le_refl _) (fun _ h => h.elim)⟩

set_option maxHeartbeats 1000000 in
set_option maxRecDepth 100000 in
theorem zeros_any (neg : Bool) (z : Int) (a : Option Addr) (len cp : Nat) (ds : List Nat) (ad : Addr) (w : World) (hz0 : 0 ≤ z) (hz1 : z ≤ 255) (he : Eof w ad) (ho : OutB w w.heap.size a len ds) :
    Calls Ybaf.prog 4 #[.bool neg, .int .u8 z, .slice a len cp] w fun e w' => e = .returned (.bool true) ∧ Below w.heap.size w w' := by
  by_cases h : 1024 < len
  · have h1 : (1024 : Int) < (len : Int) := by omega
    clear ho
    go_enter Ybaf.func4, Ybaf.ntmps4
    go_wp2_with fail
    go_ret
    exact ⟨rfl, Below.refl _ _⟩
  · have h1 : ¬ (1024 : Int) < (len : Int) := by omega
    have hl : ds.length ≤ 1024 := by rw [ho.1]; omega
    have HO := hide ho
    obtain ⟨k, hk⟩ : ∃ k : Nat, z % 40 = (k : Int) := ⟨(z % 40).toNat, by omega⟩
    have hk40 : k < 40 := by omega
    clear ho
    go_enter Ybaf.func4, Ybaf.ntmps4
    go_wp2_with fail
    refine (build_any neg k a len cp ds w (by omega) hk40 HO.out).mono ?_
    rintro e w1 ⟨rfl, b1⟩
    have k1 : Kept w w1 (fun _ => False) := Kept.of_below b1 _
    have he1 : Eof w1 ad := he.kept k1 (fun h => h)
    have z1 := k1.size
    have HP := hide (fun w he => parse_txt neg k ds ad w hk40 hl he)
    obtain ⟨tx, htx⟩ : ∃ tx, tx = (⟨(txt neg k ds).toArray⟩ : ByteArray) := ⟨_, rfl⟩
    rw [← htx] at HP ⊢
    clear htx
    go_wp2_with fail
    refine (HP.out w1 he1).mono ?_
    rintro e w2 ⟨rfl, n2, b2⟩
    have k2 : Kept w w2 (fun _ => False) := k1.trans (Kept.of_below b2 (fun _ => False)) (fun _ _ h => h)
    have z2 := k2.size
    have l2 := n2.lt
    have he2 : Eof w2 ad := he.kept k2 (fun h => h)
    go_wp2_with fail
    refine (build_any neg 0 a len cp ds w2 (by omega) (by omega) ((HO.out.below (k2.below (Nat.le_refl _) (fun _ h => h.elim))).up z2)).mono ?_
    rintro e w3 ⟨rfl, b3⟩
    have z3 := b3.size
    have n3 := n2.below b3
    have k3 : Kept w w3 (fun _ => False) := k2.trans (Kept.of_below b3 (fun _ => False)) (fun _ _ h => h)
    have he3 : Eof w3 ad := he.kept k3 (fun h => h)
    have HP2 := hide (fun w he => parse_txt neg 0 ds ad w (by omega) hl he)
    obtain ⟨ty, hty⟩ : ∃ ty, ty = (⟨(txt neg 0 ds).toArray⟩ : ByteArray) := ⟨_, rfl⟩
    rw [← hty] at HP2 ⊢
    clear hty
    go_wp2_with fail
    refine (HP2.out w3 he3).mono ?_
    rintro e w4 ⟨rfl, n4, b4⟩
    have k4 : Kept w w4 (fun _ => False) := k3.trans (Kept.of_below b4 (fun _ => False)) (fun _ _ h => h)
    have l3 := n4.lt
    go_wp2_with fail
    refine (Cmp_num w1.heap.size w3.heap.size _ _ w4 neg (dec ds) (n3.below b4) n4 (by omega) (dec_pw ds hl)).mono ?_
    rintro e w5 ⟨rfl, q, rfl⟩
    have n5 : Num (w4.drewN q) w1.heap.size w1.heap.size neg (dec ds) := (n3.below b4).drewN q
    have k5 : Kept w (w4.drewN q) (fun _ => False) := k4.drewN q
    obtain ⟨w5, hw5⟩ : ∃ w5, w5 = w4.drewN q := ⟨_, rfl⟩
    rw [← hw5] at n5 k5 ⊢
    clear hw5
    have z5 := k5.size
    have l5 := n5.lt
    go_wp2_with fail
    refine (model_any neg a len cp ds w5 (by omega) ((HO.out.below (k5.below (Nat.le_refl _) (fun _ h => h.elim))).up z5)).mono ?_
    rintro e w6 ⟨rfl, n6, b6⟩
    have k6 : Kept w w6 (fun _ => False) := k5.trans (Kept.of_below b6 (fun _ => False)) (fun _ _ h => h)
    go_wp2_with fail
    refine (Cmp_num w1.heap.size w5.heap.size _ _ w6 neg (dec ds) (n5.below b6) n6 (by omega) (dec_pw ds hl)).mono ?_
    rintro e w7 ⟨rfl, q, rfl⟩
    go_wp2_with fail
    go_ret
    exact ⟨rfl, (k6.drewN q).below (Nat.le_refl _) (fun _ h => h.elim)⟩

end Go.Proofs.YbulkdgsoFmt.M
