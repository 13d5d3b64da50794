/-
  Plain mathematics of words: no Go here. A number as a list of words (below 2^64), the least first.
-/
namespace Go.Proofs.YbulkdgsoFmt.M

/-- The number that a list of words writes. -/
def val : List Nat → Nat
  | [] => 0
  | x :: xs => x + 18446744073709551616 * val xs

def Words (ws : List Nat) : Prop := ∀ x ∈ ws, x < 18446744073709551616

/-- The last word is not 0. -/
def Norm (ws : List Nat) : Prop := ws = [] ∨ ws.getD (ws.length - 1) 0 ≠ 0

/-- 2^64 to the k. -/
def pw (k : Nat) : Nat := 18446744073709551616 ^ k
theorem pw_zero : pw 0 = 1 := rfl
theorem pw_succ (k : Nat) : pw (k + 1) = 18446744073709551616 * pw k := by unfold pw; rw [Nat.pow_succ, Nat.mul_comm]
theorem pw_pos (k : Nat) : 0 < pw k := by unfold pw; exact Nat.pow_pos (by decide)

theorem val_nil : val [] = 0 := rfl
theorem val_cons (x : Nat) (xs : List Nat) : val (x :: xs) = x + 18446744073709551616 * val xs := rfl

theorem val_append (xs ys : List Nat) : val (xs ++ ys) = val xs + pw xs.length * val ys := by
  induction xs with
  | nil => simp [val, pw]
  | cons x xs ih =>
    rw [List.cons_append, val_cons, ih, val_cons, List.length_cons, pw_succ, Nat.mul_add, Nat.mul_assoc]
    omega

theorem val_snoc (xs : List Nat) (x : Nat) : val (xs ++ [x]) = val xs + pw xs.length * x := by
  rw [val_append]; simp [val]

theorem take_snoc {α : Type} (xs : List α) (d : α) (k : Nat) (h : k < xs.length) : xs.take (k + 1) = xs.take k ++ [xs.getD k d] := by
  rw [List.take_succ_eq_append_getElem h]
  simp [List.getD, h]

theorem val_take_succ (xs : List Nat) (k : Nat) (h : k < xs.length) : val (xs.take (k + 1)) = val (xs.take k) + pw k * xs.getD k 0 := by
  rw [take_snoc xs 0 k h, val_snoc, List.length_take, Nat.min_eq_left (Nat.le_of_lt h)]

theorem Words.nil : Words [] := fun x h => by cases h
theorem Words.snoc {ws : List Nat} (h : Words ws) {x : Nat} (hx : x < 18446744073709551616) : Words (ws ++ [x]) := by
  intro y hy
  rcases List.mem_append.1 hy with hy | hy
  · exact h y hy
  · simp at hy; omega
theorem Words.append {a b : List Nat} (h : Words a) (h' : Words b) : Words (a ++ b) := by
  intro y hy
  rcases List.mem_append.1 hy with hy | hy
  · exact h y hy
  · exact h' y hy
theorem Words.take {ws : List Nat} (h : Words ws) (k : Nat) : Words (ws.take k) := fun x hx => h x (List.mem_of_mem_take hx)
theorem Words.drop {ws : List Nat} (h : Words ws) (k : Nat) : Words (ws.drop k) := fun x hx => h x (List.mem_of_mem_drop hx)
theorem Words.at {ws : List Nat} (h : Words ws) (k : Nat) : ws.getD k 0 < 18446744073709551616 := by
  by_cases hk : k < ws.length
  · rw [List.getD, List.getElem?_eq_getElem hk]; exact h _ (List.getElem_mem hk)
  · rw [List.getD, List.getElem?_eq_none (by omega)]; decide

theorem val_zeros : ∀ ws : List Nat, (∀ j, ws.getD j 0 = 0) → val ws = 0
  | [], _ => rfl
  | x :: xs, h => by
    have h0 : x = 0 := h 0
    have h1 := val_zeros xs (fun j => by have := h (j + 1); simpa using this)
    rw [val_cons, h0, h1]

/-- What 'norm' strikes off counts for nothing. -/
theorem val_take_zeros (ws : List Nat) (k : Nat) (h : ∀ j, k ≤ j → j < ws.length → ws.getD j 0 = 0) : val (ws.take k) = val ws := by
  have e : val ws = val (ws.take k ++ ws.drop k) := by rw [List.take_append_drop]
  rw [e, val_append, val_zeros (ws.drop k)]
  · omega
  · intro j
    by_cases hj : k + j < ws.length
    · have := h (k + j) (by omega) hj
      simpa [List.getD] using this
    · simp [List.getD]; rw [List.getElem?_eq_none (by omega)]; rfl

theorem norm_take (ws : List Nat) (k : Nat) (hk : k ≤ ws.length) (h : k = 0 ∨ ws.getD (k - 1) 0 ≠ 0) : Norm (ws.take k) := by
  rcases h with rfl | h
  · exact .inl (by simp)
  · by_cases h0 : k = 0
    · subst h0; exact .inl (by simp)
    · refine .inr ?_
      have e : (ws.take k).length = k := by simp; omega
      rw [e]
      have : (ws.take k).getD (k - 1) 0 = ws.getD (k - 1) 0 := by
        simp [List.getD, show k - 1 < k by omega]
      rw [this]; exact h

theorem norm_tail {x : Nat} {xs : List Nat} (h : Norm (x :: xs)) : Norm xs := by
  rcases h with h | h
  · cases h
  · by_cases hx : xs = []
    · exact .inl hx
    · refine .inr ?_
      have hl : 0 < xs.length := List.length_pos_iff.2 hx
      have e : (x :: xs).getD ((x :: xs).length - 1) 0 = xs.getD (xs.length - 1) 0 := by
        rw [List.length_cons, show xs.length + 1 - 1 = (xs.length - 1) + 1 by omega]
        simp [List.getD]
      rw [← e]; exact h

theorem norm_pos : ∀ ws : List Nat, Norm ws → ws ≠ [] → 0 < val ws
  | [], _, h => absurd rfl h
  | x :: xs, hn, _ => by
    rw [val_cons]
    by_cases hx : xs = []
    · subst hx
      rcases hn with h | h
      · cases h
      · simp at h; omega
    · have := norm_pos xs (norm_tail hn) hx
      omega

/-- Two normal lists of words that write one number are one. -/
theorem norm_unique : ∀ a b : List Nat, Words a → Words b → Norm a → Norm b → val a = val b → a = b
  | [], [], _, _, _, _, _ => rfl
  | [], y :: ys, _, _, _, hb, h => by
    have := norm_pos (y :: ys) hb (by simp)
    rw [val_nil] at h; omega
  | x :: xs, [], _, _, ha, _, h => by
    have := norm_pos (x :: xs) ha (by simp)
    rw [val_nil] at h; omega
  | x :: xs, y :: ys, wa, wb, ha, hb, h => by
    have hx : x < 18446744073709551616 := wa x (by simp)
    have hy : y < 18446744073709551616 := wb y (by simp)
    rw [val_cons, val_cons] at h
    have e1 : x = y := by omega
    have e2 : val xs = val ys := by omega
    rw [e1, norm_unique xs ys (fun z hz => wa z (by simp [hz])) (fun z hz => wb z (by simp [hz])) (norm_tail ha) (norm_tail hb) e2]

theorem val_lt : ∀ ws : List Nat, Words ws → val ws < pw ws.length
  | [], _ => by simp [val, pw]
  | x :: xs, h => by
    have hx : x < 18446744073709551616 := h x (by simp)
    have := val_lt xs (fun z hz => h z (by simp [hz]))
    rw [val_cons, List.length_cons, pw_succ]
    omega

/-- A normal list of n words is at least 2^(64 (n - 1)). -/
theorem norm_ge : ∀ ws : List Nat, Norm ws → ws ≠ [] → pw (ws.length - 1) ≤ val ws
  | [], _, h => absurd rfl h
  | x :: xs, hn, _ => by
    by_cases hx : xs = []
    · subst hx
      exact norm_pos [x] hn (by simp)
    · have ih := norm_ge xs (norm_tail hn) hx
      have hl : 0 < xs.length := List.length_pos_iff.2 hx
      have e : (x :: xs).length - 1 = (xs.length - 1) + 1 := by simp; omega
      rw [val_cons, e, pw_succ]
      omega

theorem pw_mono {a b : Nat} (h : a ≤ b) : pw a ≤ pw b := by unfold pw; exact Nat.pow_le_pow_right (by decide) h
theorem pw_lt {a b : Nat} (h : a < b) : pw a < pw b := by unfold pw; exact Nat.pow_lt_pow_right (by decide) h

/-- How many words a number takes. -/
theorem norm_len {ws : List Nat} (hn : Norm ws) {k : Nat} (h : val ws < pw k) : ws.length ≤ k := by
  by_cases h0 : ws = []
  · subst h0; simp
  · have := norm_ge ws hn h0
    by_cases hk : ws.length ≤ k
    · exact hk
    · have := pw_mono (show k ≤ ws.length - 1 by omega)
      omega

/-! ### one step of a sum, of a product -/
theorem add_step {res xs ys : List Nat} {i c r c' : Nat} (hl : res.length = i) (hx : i < xs.length) (hy : i < ys.length)
    (h : val res + c * pw i = val (xs.take i) + val (ys.take i)) (hr : r + 18446744073709551616 * c' = xs.getD i 0 + ys.getD i 0 + c) :
    val (res ++ [r]) + c' * pw (i + 1) = val (xs.take (i + 1)) + val (ys.take (i + 1)) := by
  rw [val_snoc, hl, val_take_succ xs i hx, val_take_succ ys i hy, pw_succ]
  have e := congrArg (fun t => pw i * t) hr
  simp only [Nat.mul_add] at e
  have e1 : c' * (18446744073709551616 * pw i) = pw i * (18446744073709551616 * c') := by
    rw [Nat.mul_comm c', Nat.mul_assoc, Nat.mul_left_comm]
  have e2 : c * pw i = pw i * c := Nat.mul_comm _ _
  omega

theorem mul_step {res xs : List Nat} {i c r c' y a : Nat} (hl : res.length = i) (hx : i < xs.length)
    (h : val res + c * pw i = val (xs.take i) * y + a) (hr : r + 18446744073709551616 * c' = xs.getD i 0 * y + c) :
    val (res ++ [r]) + c' * pw (i + 1) = val (xs.take (i + 1)) * y + a := by
  rw [val_snoc, hl, val_take_succ xs i hx, pw_succ, Nat.add_mul]
  have e := congrArg (fun t => pw i * t) hr
  simp only [Nat.mul_add] at e
  have e1 : c' * (18446744073709551616 * pw i) = pw i * (18446744073709551616 * c') := by
    rw [Nat.mul_comm c', Nat.mul_assoc, Nat.mul_left_comm]
  have e2 : c * pw i = pw i * c := Nat.mul_comm _ _
  have e3 : pw i * xs.getD i 0 * y = pw i * (xs.getD i 0 * y) := Nat.mul_assoc _ _ _
  omega

end Go.Proofs.YbulkdgsoFmt.M
