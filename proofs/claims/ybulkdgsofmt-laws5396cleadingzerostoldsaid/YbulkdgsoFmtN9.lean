/-
  zzs5396cbuild: the text.
-/
import Derived.Test.YbulkdgsoFmtN8
import Derived.OwnWalk
import Derived.Laws.IdiomStrings
namespace Go.Proofs.YbulkdgsoFmt.M
open Go.RowKit
attribute [local go_sem ↓] Go.wp_at_zero Go.wp_at_succ

abbrev bv (b : UInt8) : Value := .int .u8 (b.toNat : Int)
/-- The bytes of the text. -/
def txt (neg : Bool) (k : Nat) (ds : List Nat) : List UInt8 := (if neg then [45] else []) ++ List.replicate k 48 ++ ds.map (fun d => UInt8.ofNat (48 + d % 10))
/-- The buffer holds the bytes l. -/
def Buf (w wr : World) (cap : Nat) (l : List UInt8) : Prop := wr.ownsRow w.heap.size 5 1 (.slice (some ⟨w.heap.size, 0, none⟩) l.length cap) l.length (l.map bv) ∧ Below w.heap.size w wr ∧ w.heap.size < wr.heap.size
theorem info5 : (Ybaf.prog.info? 5).map (fun i => (i.zero, i.size, i.bytes)) = some (some (.int .u8 0), 1, 1) := by kernel_rfl

theorem Buf.push {w wr w' : World} {cap : Nat} {l : List UInt8} (h : Buf w wr cap l) (b : UInt8) (o : Obj)
    (h1 : w'.ownsRow w.heap.size 5 1 (.slice (some ⟨w.heap.size, 0, none⟩) (l.length + 1) cap) (l.length + 1) (l.map bv ++ [bv b])) (h2 : (wr.alloc o).grownBy w' (some w.heap.size)) : Buf w w' cap (l ++ [b]) := by
  refine ⟨?_, ?_, ?_⟩
  · simpa using h1
  · exact (h.2.1.alloc (Nat.le_of_lt h.2.2) o).grown h2 (by have := h.2.2; simp; omega) (fun k e => by have := Option.some.inj e; omega)
  · have := h2.size
    have := h.2.2
    simp at *
    omega

theorem Buf.cells {w wr : World} {cap : Nat} {l : List UInt8} (h : Buf w wr cap l) : ∀ j (hj : j < l.length), wr.cell? ((⟨w.heap.size, 0, none⟩ : Addr).add j) = some (.int .u8 (l[j].toNat : Int)) := fun j hj =>
  h.1.cells rfl j _ (by rw [List.getElem?_map, List.getElem?_eq_getElem hj]; rfl)
theorem bv_digit (d : Nat) : [bv (UInt8.ofNat (48 + d % 10))] = [.int .u8 (48 + (d : Int) % 10)] := by
  have h : (UInt8.ofNat (48 + d % 10)).toNat = 48 + d % 10 := by
    rw [UInt8.toNat_ofNat']
    omega
  show [Value.int .u8 ((UInt8.ofNat (48 + d % 10)).toNat : Int)] = _
  rw [h]
  rfl

set_option maxHeartbeats 1000000 in
set_option maxRecDepth 100000 in
theorem build_any (neg : Bool) (z : Nat) (a : Option Addr) (len cp : Nat) (ds : List Nat) (w : World) (hlen : len ≤ 1024) (hz : z < 40) (ho : OutB w w.heap.size a len ds) :
    Calls Ybaf.prog 5 #[.bool neg, .int .i64 (z : Int), .slice a len cp] w fun e w' => e = .returned (.string ⟨(txt neg z ds).toArray⟩) ∧ Below w.heap.size w w' := by
  obtain ⟨i5, hi, hz0, hz1, hz2⟩ := info_parts info5
  obtain ⟨cap, hcap⟩ : ∃ cap, cap = len + z + 1 := ⟨_, rfl⟩
  have c1 : len + z + 1 ≤ cap := by omega
  have c2 : cap ≤ len + z + 1 := by omega
  have c3 : (len : Int) + (z : Int) + 1 = (cap : Int) := by omega
  have HO := hide ho
  clear ho hcap
  cases neg with
  | false =>
    go_enter Ybaf.func5, Ybaf.ntmps5
    go_wp2_with (at_make; refine wpList_make_own _ rfl _ _ 22 rfl w.heap.size 5 i5 _ 1 Ybaf.underlying22 hi hz0 hz1 _ _ _ cap rfl rfl (by omega) (by rw [hz2]; omega) (by unfold maxLen; omega) (Nat.le_refl _) ?_; intro w1 hown1 hgrow1)
    have hb0 : Buf w w1 cap [] := ⟨hown1, (Below.refl _ w).grown hgrow1 (Nat.le_refl _) (fun k e => by cases e), (hown1.lt _ rfl).2⟩
    clear hown1 hgrow1
    go_loopw [7, 8] (fun v7 v8 wr => ∃ (j : Nat) (l : List UInt8), j ≤ z ∧ l = [] ++ List.replicate j 48 ∧ v7 = .slice (some ⟨w.heap.size, 0, none⟩) l.length cap ∧ v8 = .int .i64 (j : Int) ∧ Buf w wr cap l) (fun _ v8 _ => z - (intOf v8).toNat)
    case atStart => exact ⟨0, [], Nat.zero_le _, by simp, rfl, rfl, hb0⟩
    case round =>
      obtain ⟨j, l, hj, hl, rfl, rfl, hb⟩ := hrel
      have hll : l.length ≤ 1 + j := by rw [hl, List.length_append, List.length_replicate]; exact Nat.add_le_add_right (by decide) _
      by_cases hlt : j < z
      · have HL := hide hl
        clear hl
        go_wp2_with (at_builtin; refine wpList_append_fits _ rfl _ _ 22 rfl w.heap.size 5 i5 1 Ybaf.underlying22 hi hz1 w.heap.size _ _ _ rfl (hb.1.alloc _) ⟨wr.heap.size, 0, none⟩ 1 1 [.int .u8 48] rfl rfl (cell_one_new _ _ _) (fun u hu => by simp at hu; subst hu; rfl) (by omega) ?_; intro w2 hown2 hgrow2)
        refine ⟨⟨j + 1, l ++ [48], by omega, ?_, by simp, rfl, hb.push 48 _ hown2 hgrow2⟩, ?_⟩
        · rw [HL.out, List.replicate_succ', List.append_assoc]
        · simp only [intOf]; omega
      · obtain rfl : j = z := by omega
        have HL := hide hl
        have HB := hide hb
        clear hl hb
        go_wp2_with fail
        go_loopw [7, 31] (fun v7 v31 wr => ∃ (k : Nat) (l : List UInt8), k ≤ len ∧ l = [] ++ List.replicate j 48 ++ (ds.take k).map (fun d => UInt8.ofNat (48 + d % 10)) ∧ v7 = .slice (some ⟨w.heap.size, 0, none⟩) l.length cap ∧ v31 = .int .i64 (k : Int) ∧ Buf w wr cap l) (fun _ v31 _ => len - (intOf v31).toNat)
        case atStart => exact ⟨0, l, Nat.zero_le _, by rw [HL.out]; simp, rfl, rfl, HB.out⟩
        case round =>
          obtain ⟨k, l, hk, hl, rfl, rfl, hb⟩ := hrel
          have hll : l.length ≤ 1 + j + k := by
            rw [hl, List.length_append, List.length_append, List.length_replicate, List.length_map, List.length_take]
            exact Nat.add_le_add (Nat.add_le_add_right (by decide) _) (Nat.min_le_left _ _)
          by_cases hlt : k < len
          · obtain ⟨b, off, rfl, hB, hc⟩ := (HO.out.below hb.2.1).2.2 (by omega)
            have cd := hc k hlt
            have hts := take_snoc ds 0 k (by rw [HO.out.1]; exact hlt)
            have d255 : ds.getD k 0 ≤ 255 := by
              have hkl : k < ds.length := by rw [HO.out.1]; exact hlt
              rw [List.getD, List.getElem?_eq_getElem hkl]
              exact HO.out.2.1 _ (List.getElem_mem hkl)
            obtain ⟨d, hd⟩ : ∃ d, d = ds.getD k 0 := ⟨_, rfl⟩
            rw [← hd] at cd d255 hts
            have HL2 := hide hl
            have HTS := hide hts
            have wx : IntKind.u8.wrap (48 + (d : Int) % 10) = 48 + (d : Int) % 10 := by rw [IntKind.wrap_u8]; omega
            clear hd hts hl hc
            go_wp2_with (at_builtin; refine wpList_append_fits _ rfl _ _ 22 rfl w.heap.size 5 i5 1 Ybaf.underlying22 hi hz1 w.heap.size _ _ _ rfl (hb.1.alloc _) ⟨wr.heap.size, 0, none⟩ 1 1 [.int .u8 (48 + (d : Int) % 10)] rfl rfl (cell_one_new _ _ _) (fun u hu => by simp at hu; subst hu; rfl) (by omega) ?_; intro w2 hown2 hgrow2)
            rw [← bv_digit d] at hown2
            refine ⟨⟨k + 1, l ++ [UInt8.ofNat (48 + d % 10)], by omega, ?_, by simp, rfl, hb.push _ _ hown2 hgrow2⟩, ?_⟩
            · rw [HL2.out, HTS.out, List.map_append, List.append_assoc]; rfl
            · simp only [intOf]; omega
          · obtain rfl : k = len := by omega
            rw [List.take_of_length_le (by rw [HO.out.1]; exact Nat.le_refl _)] at hl
            have hcv := run_convert_bytes_back (P := Ybaf.prog) wr 22 9 5 ⟨w.heap.size, 0, none⟩ cap l Ybaf.underlying22 Ybaf.underlying5 Ybaf.underlying9 (hb.cells)
            have HL2 := hide hl
            have HB2 := hide hb
            clear hl hb
            go_wp2_with fail
            go_ret
            refine ⟨?_, HB2.out.2.1⟩
            rw [show txt false j ds = l from HL2.out.symm]
            rfl
  | true =>
    go_enter Ybaf.func5, Ybaf.ntmps5
    go_wp2_with (first
      | (at_make; refine wpList_make_own _ rfl _ _ 22 rfl w.heap.size 5 i5 _ 1 Ybaf.underlying22 hi hz0 hz1 _ _ _ cap rfl rfl (by omega) (by rw [hz2]; omega) (by unfold maxLen; omega) (Nat.le_refl _) ?_; intro w1 hown1 hgrow1)
      | (at_builtin; refine wpList_append_fits _ rfl _ _ 22 rfl w.heap.size 5 i5 1 Ybaf.underlying22 hi hz1 w.heap.size _ _ _ rfl (hown1.alloc _) ⟨w1.heap.size, 0, none⟩ 1 1 [.int .u8 45] rfl rfl (cell_one_new _ _ _) (fun u hu => by simp at hu; subst hu; rfl) (by omega) ?_; intro w2 hown2 hgrow2))
    have hbN : Buf w w1 cap [] := ⟨hown1, (Below.refl _ w).grown hgrow1 (Nat.le_refl _) (fun k e => by cases e), (hown1.lt _ rfl).2⟩
    clear hown1 hgrow1
    have hb0 : Buf w w2 cap [45] := hbN.push 45 _ hown2 hgrow2
    clear hown2 hgrow2 hbN
    go_loopw [7, 8] (fun v7 v8 wr => ∃ (j : Nat) (l : List UInt8), j ≤ z ∧ l = [45] ++ List.replicate j 48 ∧ v7 = .slice (some ⟨w.heap.size, 0, none⟩) l.length cap ∧ v8 = .int .i64 (j : Int) ∧ Buf w wr cap l) (fun _ v8 _ => z - (intOf v8).toNat)
    case atStart => exact ⟨0, [45], Nat.zero_le _, by simp, rfl, rfl, hb0⟩
    case round =>
      obtain ⟨j, l, hj, hl, rfl, rfl, hb⟩ := hrel
      have hll : l.length ≤ 1 + j := by rw [hl, List.length_append, List.length_replicate]; exact Nat.add_le_add_right (by decide) _
      by_cases hlt : j < z
      · have HL := hide hl
        clear hl
        go_wp2_with (at_builtin; refine wpList_append_fits _ rfl _ _ 22 rfl w.heap.size 5 i5 1 Ybaf.underlying22 hi hz1 w.heap.size _ _ _ rfl (hb.1.alloc _) ⟨wr.heap.size, 0, none⟩ 1 1 [.int .u8 48] rfl rfl (cell_one_new _ _ _) (fun u hu => by simp at hu; subst hu; rfl) (by omega) ?_; intro w2 hown2 hgrow2)
        refine ⟨⟨j + 1, l ++ [48], by omega, ?_, by simp, rfl, hb.push 48 _ hown2 hgrow2⟩, ?_⟩
        · rw [HL.out, List.replicate_succ', List.append_assoc]
        · simp only [intOf]; omega
      · obtain rfl : j = z := by omega
        have HL := hide hl
        have HB := hide hb
        clear hl hb
        go_wp2_with fail
        go_loopw [7, 31] (fun v7 v31 wr => ∃ (k : Nat) (l : List UInt8), k ≤ len ∧ l = [45] ++ List.replicate j 48 ++ (ds.take k).map (fun d => UInt8.ofNat (48 + d % 10)) ∧ v7 = .slice (some ⟨w.heap.size, 0, none⟩) l.length cap ∧ v31 = .int .i64 (k : Int) ∧ Buf w wr cap l) (fun _ v31 _ => len - (intOf v31).toNat)
        case atStart => exact ⟨0, l, Nat.zero_le _, by rw [HL.out]; simp, rfl, rfl, HB.out⟩
        case round =>
          obtain ⟨k, l, hk, hl, rfl, rfl, hb⟩ := hrel
          have hll : l.length ≤ 1 + j + k := by
            rw [hl, List.length_append, List.length_append, List.length_replicate, List.length_map, List.length_take]
            exact Nat.add_le_add (Nat.add_le_add_right (by decide) _) (Nat.min_le_left _ _)
          by_cases hlt : k < len
          · obtain ⟨b, off, rfl, hB, hc⟩ := (HO.out.below hb.2.1).2.2 (by omega)
            have cd := hc k hlt
            have hts := take_snoc ds 0 k (by rw [HO.out.1]; exact hlt)
            have d255 : ds.getD k 0 ≤ 255 := by
              have hkl : k < ds.length := by rw [HO.out.1]; exact hlt
              rw [List.getD, List.getElem?_eq_getElem hkl]
              exact HO.out.2.1 _ (List.getElem_mem hkl)
            obtain ⟨d, hd⟩ : ∃ d, d = ds.getD k 0 := ⟨_, rfl⟩
            rw [← hd] at cd d255 hts
            have HL2 := hide hl
            have HTS := hide hts
            have wx : IntKind.u8.wrap (48 + (d : Int) % 10) = 48 + (d : Int) % 10 := by rw [IntKind.wrap_u8]; omega
            clear hd hts hl hc
            go_wp2_with (at_builtin; refine wpList_append_fits _ rfl _ _ 22 rfl w.heap.size 5 i5 1 Ybaf.underlying22 hi hz1 w.heap.size _ _ _ rfl (hb.1.alloc _) ⟨wr.heap.size, 0, none⟩ 1 1 [.int .u8 (48 + (d : Int) % 10)] rfl rfl (cell_one_new _ _ _) (fun u hu => by simp at hu; subst hu; rfl) (by omega) ?_; intro w2 hown2 hgrow2)
            rw [← bv_digit d] at hown2
            refine ⟨⟨k + 1, l ++ [UInt8.ofNat (48 + d % 10)], by omega, ?_, by simp, rfl, hb.push _ _ hown2 hgrow2⟩, ?_⟩
            · rw [HL2.out, HTS.out, List.map_append, List.append_assoc]; rfl
            · simp only [intOf]; omega
          · obtain rfl : k = len := by omega
            rw [List.take_of_length_le (by rw [HO.out.1]; exact Nat.le_refl _)] at hl
            have hcv := run_convert_bytes_back (P := Ybaf.prog) wr 22 9 5 ⟨w.heap.size, 0, none⟩ cap l Ybaf.underlying22 Ybaf.underlying5 Ybaf.underlying9 (hb.cells)
            have HL2 := hide hl
            have HB2 := hide hb
            clear hl hb
            go_wp2_with fail
            go_ret
            refine ⟨?_, HB2.out.2.1⟩
            rw [show txt true j ds = l from HL2.out.symm]
            rfl

end Go.Proofs.YbulkdgsoFmt.M
