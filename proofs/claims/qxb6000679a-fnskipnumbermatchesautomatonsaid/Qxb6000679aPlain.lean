namespace Go.Proofs.Qxb6000679a

/-! ### The number grammar, on what is left of the text -/
def dig (c : Int) : Bool := decide (48 ≤ c) && decide (c ≤ 57)
/-- How many digits the text begins with. -/
def cnt : List Int → Nat
  | [] => 0
  | c :: r => if dig c then cnt r + 1 else 0
def isAt (l : List Int) (c : Int) : Bool := match l with | [] => false | x :: _ => x == c
def digAt (l : List Int) : Bool := match l with | [] => false | x :: _ => dig x
/-- An optional minus sign. -/
def stA (l : List Int) : Nat := if isAt l 45 then 1 else 0
/-- The integer part: none where there is none. -/
def stB (l : List Int) : Nat × Bool := if isAt l 48 then (1, true) else if digAt l then (cnt l, true) else (0, false)
/-- An optional fraction: how far it is read, and whether it is right. -/
def stC (l : List Int) : Nat × Bool := if isAt l 46 then (if digAt (l.drop 1) then (1 + cnt (l.drop 1), true) else (1, false)) else (0, true)
def sgn (l : List Int) : Nat := if isAt l 43 || isAt l 45 then 1 else 0
/-- An optional exponent. -/
def stD (l : List Int) : Nat × Bool :=
  if isAt l 101 || isAt l 69 then (if digAt (l.drop (1 + sgn (l.drop 1))) then (1 + sgn (l.drop 1) + cnt (l.drop (1 + sgn (l.drop 1))), true) else (1 + sgn (l.drop 1), false)) else (0, true)
def stCD (l : List Int) : Nat × Bool := if (stC l).2 then ((stC l).1 + (stD (l.drop (stC l).1)).1, (stD (l.drop (stC l).1)).2) else ((stC l).1, false)
def stBCD (l : List Int) : Nat × Bool := if (stB l).2 then ((stB l).1 + (stCD (l.drop (stB l).1)).1, (stCD (l.drop (stB l).1)).2) else ((stB l).1, false)
/-- How far 'skipNumber' reads, and whether it is a number. -/
def skipL (l : List Int) : Nat × Bool := (stA l + (stBCD (l.drop (stA l))).1, (stBCD (l.drop (stA l))).2)

theorem cnt_le : ∀ l : List Int, cnt l ≤ l.length
  | [] => Nat.le_refl _
  | c :: r => by
    unfold cnt
    have := cnt_le r
    split <;> simp <;> omega
theorem cnt_pos {l : List Int} (h : digAt l = true) : 0 < cnt l := by
  cases l with
  | nil => cases h
  | cons c r => simp only [digAt] at h; simp [cnt, h]
theorem cnt_take : ∀ (l : List Int) (k : Nat), cnt l ≤ k → cnt (l.take k) = cnt l
  | [], _, _ => by simp
  | c :: r, 0, h => by
    have h' : cnt (c :: r) = 0 := by omega
    rw [h']; rfl
  | c :: r, k + 1, h => by
    simp only [List.take_succ_cons, cnt] at *
    split
    · rename_i hd
      rw [hd] at h
      rw [cnt_take r k (by simp at h; omega)]
    · rfl
theorem isAt_take {l : List Int} {k : Nat} {c : Int} (hk : 0 < k) : isAt (l.take k) c = isAt l c := by
  cases l with
  | nil => simp
  | cons x r => cases k with
    | zero => omega
    | succ k => rfl
theorem digAt_take {l : List Int} {k : Nat} (hk : 0 < k) : digAt (l.take k) = digAt l := by
  cases l with
  | nil => simp
  | cons x r => cases k with
    | zero => omega
    | succ k => rfl
theorem isAt_len {l : List Int} {c : Int} (h : isAt l c = true) : 0 < l.length := by
  cases l with
  | nil => cases h
  | cons x r => simp
theorem digAt_len {l : List Int} (h : digAt l = true) : 0 < l.length := by
  cases l with
  | nil => cases h
  | cons x r => simp
theorem dig_not (x c : Int) (h : dig x = true) (hc : c < 48 ∨ 57 < c) : (x == c) = false := by
  simp [dig] at h; simp; omega
theorem digAt_not {l : List Int} (h : digAt l = true) (c : Int) (hc : c < 48 ∨ 57 < c) : isAt l c = false := by
  cases l with
  | nil => cases h
  | cons x r => exact dig_not x c h hc
theorem isAt_none (l : List Int) (h : l.length = 0) (c : Int) : isAt l c = false := by
  cases l with
  | nil => rfl
  | cons x r => simp at h

/-! ### No more is read than is there -/
theorem stA_len (l : List Int) : stA l ≤ l.length := by
  unfold stA; split
  · rename_i h; exact isAt_len h
  · exact Nat.zero_le _
theorem sgn_len (l : List Int) : sgn l ≤ l.length := by
  unfold sgn; split
  · rename_i h
    rcases Bool.or_eq_true _ _ ▸ h with h | h <;> exact isAt_len h
  · exact Nat.zero_le _
theorem stB_len (l : List Int) : (stB l).1 ≤ l.length := by
  unfold stB; split
  · rename_i h; exact isAt_len h
  · split
    · exact cnt_le l
    · exact Nat.zero_le _
theorem stC_len (l : List Int) : (stC l).1 ≤ l.length := by
  unfold stC; split
  · rename_i h
    have h1 := isAt_len h
    have h2 := cnt_le (l.drop 1)
    rw [List.length_drop] at h2
    split
    · simp only; omega
    · exact h1
  · exact Nat.zero_le _
theorem stD_len (l : List Int) : (stD l).1 ≤ l.length := by
  unfold stD; split
  · rename_i h
    have h1 : 0 < l.length := by rcases Bool.or_eq_true _ _ ▸ h with h | h <;> exact isAt_len h
    have h3 := sgn_len (l.drop 1)
    have h2 := cnt_le (l.drop (1 + sgn (l.drop 1)))
    rw [List.length_drop] at h2 h3
    split
    · simp only; omega
    · simp only; omega
  · exact Nat.zero_le _
theorem stCD_len (l : List Int) : (stCD l).1 ≤ l.length := by
  have h1 := stC_len l
  have h2 := stD_len (l.drop (stC l).1)
  rw [List.length_drop] at h2
  unfold stCD; split
  · simp only; omega
  · exact h1
theorem stBCD_len (l : List Int) : (stBCD l).1 ≤ l.length := by
  have h1 := stB_len l
  have h2 := stCD_len (l.drop (stB l).1)
  rw [List.length_drop] at h2
  unfold stBCD; split
  · simp only; omega
  · exact h1
theorem skipL_len (l : List Int) : (skipL l).1 ≤ l.length := by
  have h1 := stA_len l
  have h2 := stBCD_len (l.drop (stA l))
  rw [List.length_drop] at h2
  unfold skipL
  simp only; omega

/-! ### The text cut off behind a number reads as the same number -/
theorem stA_take (l : List Int) (k : Nat) (hk : 0 < k) : stA (l.take k) = stA l := by simp [stA, isAt_take hk]
theorem take_zero_at (l : List Int) (c : Int) : isAt (l.take 0) c = false := by simp [isAt]
theorem stD_take (l : List Int) (h : (stD l).2 = true) : stD (l.take (stD l).1) = stD l ∧ (stD l).1 ≤ l.length := by
  unfold stD at *
  by_cases h1 : (isAt l 101 || isAt l 69) = true
  · rw [if_pos h1] at *
    by_cases h2 : digAt (l.drop (1 + sgn (l.drop 1))) = true
    · rw [if_pos h2] at *
      have hp := cnt_pos h2
      have hl := cnt_le (l.drop (1 + sgn (l.drop 1)))
      have hd := digAt_len h2
      rw [List.length_drop] at hl hd
      generalize hk : 1 + sgn (l.drop 1) + cnt (l.drop (1 + sgn (l.drop 1))) = k at *
      have hk0 : 0 < k := by omega
      have e1 : (l.take k).drop 1 = (l.drop 1).take (k - 1) := by rw [List.drop_take]
      have e2 : sgn ((l.take k).drop 1) = sgn (l.drop 1) := by
        rw [e1]; unfold sgn; rw [isAt_take (by omega), isAt_take (by omega)]
      have e3 : (l.take k).drop (1 + sgn (l.drop 1)) = (l.drop (1 + sgn (l.drop 1))).take (k - (1 + sgn (l.drop 1))) := by rw [List.drop_take]
      simp only [isAt_take hk0, h1, if_true, e2, e3]
      rw [digAt_take (by omega), if_pos h2, cnt_take _ _ (by omega)]
      exact ⟨by rw [hk], by omega⟩
    · rw [if_neg h2] at h; cases h
  · rw [if_neg h1]
    refine ⟨?_, by omega⟩
    simp [isAt]

theorem stC_take (l : List Int) (k : Nat) (h : (stC l).2 = true) (hk : (stC l).1 ≤ k) (hn : k = 0 → isAt l 46 = false) : stC (l.take k) = stC l ∧ (stC l).1 ≤ l.length := by
  unfold stC at *
  by_cases h1 : isAt l 46 = true
  · rw [if_pos h1] at *
    by_cases h2 : digAt (l.drop 1) = true
    · rw [if_pos h2] at *
      have hp := cnt_pos h2
      have hl := cnt_le (l.drop 1)
      have hd := digAt_len h2
      rw [List.length_drop] at hl hd
      simp only at hk
      have e1 : (l.take k).drop 1 = (l.drop 1).take (k - 1) := by rw [List.drop_take]
      simp only [isAt_take (show 0 < k by omega), h1, if_true, e1]
      rw [digAt_take (by omega), if_pos h2, cnt_take _ _ (by omega)]
      exact ⟨rfl, by omega⟩
    · rw [if_neg h2] at h; cases h
  · rw [if_neg h1]
    refine ⟨?_, by simp⟩
    by_cases hz : k = 0
    · subst hz; simp [isAt]
    · rw [isAt_take (by omega), if_neg h1]

theorem stCD_take (l : List Int) (h : (stCD l).2 = true) : stCD (l.take (stCD l).1) = stCD l ∧ (stCD l).1 ≤ l.length := by
  have hC : (stC l).2 = true := by
    unfold stCD at h
    cases hc : (stC l).2
    · rw [hc] at h; simp at h
    · rfl
  have hv : stCD l = ((stC l).1 + (stD (l.drop (stC l).1)).1, (stD (l.drop (stC l).1)).2) := by unfold stCD; rw [if_pos hC]
  rw [hv] at h ⊢
  obtain ⟨d1, d2⟩ := stD_take _ h
  rw [List.length_drop] at d2
  simp only at h ⊢
  generalize hk : (stC l).1 + (stD (l.drop (stC l).1)).1 = k at *
  obtain ⟨c1, c2⟩ := stC_take l k hC (by omega) (fun h0 => by
    have hc0 : (stC l).1 = 0 := by omega
    unfold stC at hc0
    cases hh : isAt l 46
    · rfl
    · rw [if_pos hh] at hc0
      split at hc0 <;> simp at hc0)
  refine ⟨?_, by omega⟩
  unfold stCD
  rw [c1, if_pos hC, List.drop_take]
  have e : k - (stC l).1 = (stD (l.drop (stC l).1)).1 := by omega
  rw [e, d1, hk]

theorem stB_take (l : List Int) (k : Nat) (h : (stB l).2 = true) (hk : (stB l).1 ≤ k) : stB (l.take k) = stB l ∧ (stB l).1 ≤ l.length ∧ 0 < (stB l).1 := by
  unfold stB at *
  by_cases h1 : isAt l 48 = true
  · rw [if_pos h1] at *
    simp only at hk
    have := isAt_len h1
    simp only [isAt_take (show 0 < k by omega), h1, if_true]
    exact ⟨trivial, by omega, by omega⟩
  · rw [if_neg h1] at *
    by_cases h2 : digAt l = true
    · rw [if_pos h2] at *
      have hp := cnt_pos h2
      have hl := cnt_le l
      simp only at hk
      rw [isAt_take (by omega), if_neg h1, digAt_take (by omega), if_pos h2, cnt_take _ _ hk]
      exact ⟨rfl, hl, hp⟩
    · rw [if_neg h2] at h; cases h

theorem stBCD_take (l : List Int) (h : (stBCD l).2 = true) : stBCD (l.take (stBCD l).1) = stBCD l ∧ (stBCD l).1 ≤ l.length ∧ 0 < (stBCD l).1 := by
  have hB : (stB l).2 = true := by
    unfold stBCD at h
    cases hc : (stB l).2
    · rw [hc] at h; simp at h
    · rfl
  have hv : stBCD l = ((stB l).1 + (stCD (l.drop (stB l).1)).1, (stCD (l.drop (stB l).1)).2) := by unfold stBCD; rw [if_pos hB]
  rw [hv] at h ⊢
  obtain ⟨d1, d2⟩ := stCD_take _ h
  rw [List.length_drop] at d2
  simp only at h ⊢
  generalize hk : (stB l).1 + (stCD (l.drop (stB l).1)).1 = k at *
  obtain ⟨c1, c2, c3⟩ := stB_take l k hB (by omega)
  refine ⟨?_, by omega, by omega⟩
  unfold stBCD
  rw [c1, if_pos hB, List.drop_take]
  have e : k - (stB l).1 = (stCD (l.drop (stB l).1)).1 := by omega
  rw [e, d1, hk]

/-- THE PLAIN LAW: what was read stands alone. -/
theorem skipL_take (l : List Int) (h : (skipL l).2 = true) : skipL (l.take (skipL l).1) = skipL l ∧ (skipL l).1 ≤ l.length ∧ 0 < (skipL l).1 := by
  unfold skipL at *
  simp only at h ⊢
  obtain ⟨d1, d2, d3⟩ := stBCD_take _ h
  rw [List.length_drop] at d2
  generalize hk : stA l + (stBCD (l.drop (stA l))).1 = k at *
  have e1 := stA_take l k (by omega)
  rw [e1, List.drop_take]
  have e : k - stA l = (stBCD (l.drop (stA l))).1 := by omega
  rw [e, d1, hk]
  exact ⟨rfl, by omega, by omega⟩
end Go.Proofs.Qxb6000679a
