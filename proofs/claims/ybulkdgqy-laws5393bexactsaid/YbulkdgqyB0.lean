/-
  Plain lists: what 'beyond' and the model gather. No Go here.
-/
namespace Go.Proofs.Ybulkdgqy.B

/-- The node at place i of the round that starts at p. -/
def nd (zs : List Int) (n p i : Nat) : Int := zs.getD ((p + i) % n) 0
/-- The places, of the first k, whose node f does not know. -/
def ps (f : Int → Bool) (zs : List Int) (n p k : Nat) : List Nat := (List.range k).filter (fun i => !f (nd zs n p i))
/-- The nodes at these places. -/
def tk (f : Int → Bool) (zs : List Int) (n p k : Nat) : List Int := (ps f zs n p k).map (nd zs n p)

theorem ps_zero (f : Int → Bool) (zs : List Int) (n p : Nat) : ps f zs n p 0 = [] := rfl
theorem tk_zero (f : Int → Bool) (zs : List Int) (n p : Nat) : tk f zs n p 0 = [] := rfl

theorem ps_new (f : Int → Bool) (zs : List Int) (n p k : Nat) (h : f (nd zs n p k) = false) : ps f zs n p (k + 1) = ps f zs n p k ++ [k] := by
  unfold ps
  rw [List.range_succ, List.filter_append]
  simp [h]
theorem ps_old (f : Int → Bool) (zs : List Int) (n p k : Nat) (h : f (nd zs n p k) = true) : ps f zs n p (k + 1) = ps f zs n p k := by
  unfold ps
  rw [List.range_succ, List.filter_append]
  simp [h]
theorem tk_new (f : Int → Bool) (zs : List Int) (n p k : Nat) (h : f (nd zs n p k) = false) : tk f zs n p (k + 1) = tk f zs n p k ++ [nd zs n p k] := by
  unfold tk
  rw [ps_new f zs n p k h]
  simp
theorem tk_old (f : Int → Bool) (zs : List Int) (n p k : Nat) (h : f (nd zs n p k) = true) : tk f zs n p (k + 1) = tk f zs n p k := by
  unfold tk
  rw [ps_old f zs n p k h]
theorem ps_le (f : Int → Bool) (zs : List Int) (n p k : Nat) : (ps f zs n p k).length ≤ k := by
  unfold ps
  have := List.length_filter_le (fun i => !f (nd zs n p i)) (List.range k)
  simpa using this
theorem tk_len (f : Int → Bool) (zs : List Int) (n p k : Nat) : (tk f zs n p k).length = (ps f zs n p k).length := by unfold tk; simp
theorem tk_le (f : Int → Bool) (zs : List Int) (n p k : Nat) : (tk f zs n p k).length ≤ k := by
  rw [tk_len]; exact ps_le f zs n p k

/-- More rounds only add at the end. -/
theorem ps_more (f : Int → Bool) (zs : List Int) (n p k : Nat) : ∀ d, ∃ r, ps f zs n p (k + d) = ps f zs n p k ++ r
  | 0 => ⟨[], by simp⟩
  | d + 1 => by
    obtain ⟨r, hr⟩ := ps_more f zs n p k d
    cases h : f (nd zs n p (k + d)) with
    | true => exact ⟨r, by rw [← Nat.add_assoc, ps_old f zs n p (k + d) h, hr]⟩
    | false => exact ⟨r ++ [k + d], by rw [← Nat.add_assoc, ps_new f zs n p (k + d) h, hr, List.append_assoc]⟩
theorem ps_mono (f : Int → Bool) (zs : List Int) (n p : Nat) {k m : Nat} (h : k ≤ m) : ∃ r, ps f zs n p m = ps f zs n p k ++ r := by
  obtain ⟨r, hr⟩ := ps_more f zs n p k (m - k)
  exact ⟨r, by rw [← hr]; congr 1; omega⟩

/-- Where 'beyond' stops: after k rounds, for the first time with 'size' nodes, or at the round's end. -/
def Stops (f : Int → Bool) (zs : List Int) (n p : Nat) (size : Int) (k : Nat) : Prop :=
  k ≤ n ∧ (k = n ∨ ((tk f zs n p k).length : Int) = size) ∧ ∀ j, j < k → ((tk f zs n p j).length : Int) ≠ size

theorem len_mono (f : Int → Bool) (zs : List Int) (n p : Nat) {k m : Nat} (h : k ≤ m) : (tk f zs n p k).length ≤ (tk f zs n p m).length := by
  obtain ⟨r, hr⟩ := ps_mono f zs n p h
  rw [tk_len, tk_len, hr]
  simp

/-- The walk does not stop early: too few are there, or the size is no count. -/
theorem stops_all {f : Int → Bool} {zs : List Int} {n p k : Nat} {size : Int} (h : Stops f zs n p size k) (hs : size < 0 ∨ ((tk f zs n p n).length : Int) < size) : k = n := by
  obtain ⟨hk, h1 | h1, _⟩ := h
  · exact h1
  · have := len_mono f zs n p hk
    omega

theorem stops_zero {f : Int → Bool} {zs : List Int} {n p k : Nat} (h : Stops f zs n p 0 k) : k = 0 := by
  obtain ⟨hk, h1, h2⟩ := h
  by_cases h0 : k = 0
  · exact h0
  · exact absurd (by rw [tk_zero]; rfl) (h2 0 (by omega))

/-- How the count goes: from each round to the next by at most one. -/
theorem len_step (f : Int → Bool) (zs : List Int) (n p k : Nat) : (tk f zs n p (k + 1)).length ≤ (tk f zs n p k).length + 1 := by
  cases h : f (nd zs n p k) with
  | true => rw [tk_old f zs n p k h]; omega
  | false => rw [tk_new f zs n p k h]; simp

theorem stops_some {f : Int → Bool} {zs : List Int} {n p k : Nat} {s : Nat} (h : Stops f zs n p s k) (hs : s ≤ (tk f zs n p n).length) : (tk f zs n p k).length = s := by
  obtain ⟨hk, h1 | h1, h2⟩ := h
  · subst h1
    have key : ∀ j, j ≤ k → (tk f zs k p j).length ≤ s := by
      intro j
      induction j with
      | zero => intro _; rw [tk_zero]; simp
      | succ j ih =>
        intro hj
        have a1 := ih (by omega)
        have a2 := h2 j (by omega)
        have a3 := len_step f zs k p j
        omega
    have := key k (Nat.le_refl _)
    omega
  · omega

/-- What was taken is the first s of all; the last of them stands at the place k - 1. -/
theorem stops_take {f : Int → Bool} {zs : List Int} {n p k : Nat} {s : Nat} (h : Stops f zs n p s k) (hs : s ≤ (tk f zs n p n).length) : tk f zs n p k = (tk f zs n p n).take s := by
  have e := stops_some h hs
  obtain ⟨r, hr⟩ := ps_mono f zs n p h.1
  have hr' : tk f zs n p n = tk f zs n p k ++ r.map (nd zs n p) := by unfold tk; rw [hr]; simp
  rw [hr', ← e]
  simp

theorem stops_last {f : Int → Bool} {zs : List Int} {n p k : Nat} {s : Nat} (h : Stops f zs n p s k) (hs : s ≤ (tk f zs n p n).length) (h1 : 1 ≤ s) : (ps f zs n p n).getD (s - 1) 0 + 1 = k := by
  have e := stops_some h hs
  obtain ⟨r, hr⟩ := ps_mono f zs n p h.1
  have hk : 1 ≤ k := by
    have := tk_le f zs n p k
    omega
  obtain ⟨k, rfl⟩ : ∃ j, k = j + 1 := ⟨k - 1, by omega⟩
  have hn := h.2.2 k (by omega)
  cases hf : f (nd zs n p k) with
  | true => rw [tk_old f zs n p k hf] at e; omega
  | false =>
    rw [hr, ps_new f zs n p k hf]
    rw [tk_new f zs n p k hf] at e
    have e2 := tk_len f zs n p k
    simp at e
    have e3 : (ps f zs n p k).length = s - 1 := by omega
    rw [← e3]
    simp [List.getD]

/-! ### With nobody known: the split -/
theorem tk_none (zs : List Int) (n p : Nat) : ∀ k, tk (fun _ => false) zs n p k = (List.range k).map (nd zs n p)
  | 0 => rfl
  | k + 1 => by rw [tk_new _ zs n p k rfl, tk_none zs n p k, List.range_succ]; simp

theorem stops_none {zs : List Int} {n p k : Nat} {s : Nat} (h : Stops (fun _ => false) zs n p s k) (hs : s ≤ n) : k = s := by
  have := stops_some h (by rw [tk_none]; simpa using hs)
  rw [tk_none] at this
  simpa using this

theorem nd_shift (zs : List Int) (n p a i : Nat) : nd zs n (p + a) i = nd zs n p (a + i) := by unfold nd; rw [Nat.add_assoc]

theorem tk_split (zs : List Int) (n p a b : Nat) : tk (fun _ => false) zs n p (a + b) = tk (fun _ => false) zs n p a ++ tk (fun _ => false) zs n (p + a) b := by
  rw [tk_none, tk_none, tk_none, List.range_add, List.map_append, List.map_map]
  congr 1
  apply List.map_congr_left
  intro i _
  exact (nd_shift zs n p a i).symm

end Go.Proofs.Ybulkdgqy.B
