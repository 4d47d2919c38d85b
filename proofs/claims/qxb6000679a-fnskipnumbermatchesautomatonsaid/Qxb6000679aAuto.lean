import Derived.Test.Qxb6000679aPlain
namespace Go.Proofs.Qxb6000679a

/-! ### The automaton, on what is left of the text -/
def isE (c : Int) : Bool := (c == 101) || (c == 69)
def isSg (c : Int) : Bool := (c == 43) || (c == 45)
/-- The transition table: none where there is none. -/
def stp (s : Nat) (c : Int) : Option Nat :=
  match s with
  | 0 => if c == 45 then some 1 else if c == 48 then some 2 else if dig c then some 3 else none
  | 1 => if c == 48 then some 2 else if dig c then some 3 else none
  | 2 => if c == 46 then some 4 else if isE c then some 6 else none
  | 3 => if dig c then some 3 else if c == 46 then some 4 else if isE c then some 6 else none
  | 4 => if dig c then some 5 else none
  | 5 => if dig c then some 5 else if isE c then some 6 else none
  | 6 => if isSg c then some 7 else if dig c then some 8 else none
  | 7 => if dig c then some 8 else none
  | 8 => if dig c then some 8 else none
  | _ => none
def acc (s : Nat) : Bool := (s == 2) || (s == 3) || (s == 5) || (s == 8)
def add (m : Nat) (p : Nat × Nat) : Nat × Nat := (m + p.1, p.2)
/-- How far the automaton goes from state 's', and where it stands then. -/
def run : Nat → List Int → Nat × Nat
  | s, [] => (0, s)
  | s, c :: r => match stp s c with
    | none => (0, s)
    | some t => add 1 (run t r)
def out (p : Nat × Nat) : Nat × Bool := (p.1, acc p.2)

theorem add_add' (m k : Nat) (p : Nat × Nat) : add m (add k p) = add (m + k) p := by simp [add]; omega
theorem add_zero' (p : Nat × Nat) : add 0 p = p := by simp [add]
theorem run_none {s : Nat} {c : Int} {r : List Int} (h : stp s c = none) : run s (c :: r) = (0, s) := by rw [run, h]
theorem run_some {s t : Nat} {c : Int} {r : List Int} (h : stp s c = some t) : run s (c :: r) = add 1 (run t r) := by rw [run, h]

theorem run8 : ∀ l, run 8 l = (cnt l, 8)
  | [] => rfl
  | c :: r => by
    cases h : dig c
    · rw [run_none (by simp [stp, h])]; simp [cnt, h]
    · rw [run_some (t := 8) (by simp [stp, h]), run8 r]; simp [cnt, h, add]; omega
theorem run7 (l : List Int) : run 7 l = if digAt l then (cnt l, 8) else (0, 7) := by
  cases l with
  | nil => rfl
  | cons c r =>
    cases h : dig c
    · rw [run_none (by simp [stp, h])]; simp [digAt, h]
    · rw [run_some (t := 8) (by simp [stp, h]), run8 r]; simp [digAt, cnt, h, add]; omega
theorem sg_not_dig {c : Int} (h : isSg c = true) : dig c = false := by
  simp [isSg] at h; rcases h with rfl | rfl <;> rfl
theorem e_not_dig {c : Int} (h : isE c = true) : dig c = false := by
  simp [isE] at h; rcases h with rfl | rfl <;> rfl
theorem run6 (l : List Int) : run 6 l = if digAt (l.drop (sgn l)) then (sgn l + cnt (l.drop (sgn l)), 8) else (sgn l, if sgn l = 1 then 7 else 6) := by
  cases l with
  | nil => rfl
  | cons c r =>
    have hs : sgn (c :: r) = if isSg c then 1 else 0 := rfl
    cases h : isSg c
    · rw [hs, h]
      simp only [Bool.false_eq_true, if_false, List.drop_zero]
      cases hd : dig c
      · rw [run_none (by simp [stp, h, hd])]; simp [digAt, hd]
      · rw [run_some (t := 8) (by simp [stp, h, hd]), run8 r]; simp [digAt, cnt, hd, add]; omega
    · rw [hs, h]
      simp only [if_true, List.drop_succ_cons, List.drop_zero]
      rw [run_some (t := 7) (by simp [stp, h]), run7 r]
      split <;> simp [add]

/-- From a state that lets an exponent follow. -/
def eP (s : Nat) (l : List Int) : Nat × Nat := if isAt l 101 || isAt l 69 then add 1 (run 6 (l.drop 1)) else (0, s)
theorem eP_out (s : Nat) (hs : acc s = true) (l : List Int) : out (eP s l) = stD l := by
  unfold eP stD
  by_cases h : (isAt l 101 || isAt l 69) = true
  · rw [if_pos h, if_pos h, run6, List.drop_drop]
    by_cases hd : digAt (l.drop (1 + sgn (l.drop 1))) = true
    · rw [if_pos hd, if_pos hd]; simp [out, add, acc]; omega
    · rw [if_neg hd, if_neg hd]
      simp only [out, add]
      split <;> rfl
  · rw [if_neg h, if_neg h]; simp [out, hs]
theorem run5 : ∀ l, run 5 l = add (cnt l) (eP 5 (l.drop (cnt l)))
  | [] => rfl
  | c :: r => by
    cases h : dig c
    · have hc : cnt (c :: r) = 0 := by simp [cnt, h]
      rw [hc, add_zero', List.drop_zero]
      cases he : isE c
      · rw [run_none (by simp [stp, h, he])]
        have : (isAt (c :: r) 101 || isAt (c :: r) 69) = false := he
        simp [eP, this]
      · rw [run_some (t := 6) (by simp [stp, h, he])]
        have : (isAt (c :: r) 101 || isAt (c :: r) 69) = true := he
        simp [eP, this]
    · have hc : cnt (c :: r) = cnt r + 1 := by simp [cnt, h]
      rw [run_some (t := 5) (by simp [stp, h]), run5 r, add_add', hc, Nat.add_comm 1, List.drop_succ_cons]
theorem run4 (l : List Int) : run 4 l = if digAt l then add (cnt l) (eP 5 (l.drop (cnt l))) else (0, 4) := by
  cases l with
  | nil => rfl
  | cons c r =>
    cases h : dig c
    · rw [run_none (by simp [stp, h])]; simp [digAt, h]
    · have hc : cnt (c :: r) = cnt r + 1 := by simp [cnt, h]
      have hd : digAt (c :: r) = true := h
      rw [run_some (t := 5) (by simp [stp, h]), run5 r, if_pos hd, add_add', hc, Nat.add_comm 1, List.drop_succ_cons]
/-- From a state that lets a fraction follow. -/
def fP (s : Nat) (l : List Int) : Nat × Nat := if isAt l 46 then add 1 (run 4 (l.drop 1)) else eP s l
theorem out_add (m : Nat) (p : Nat × Nat) : out (add m p) = (m + (out p).1, (out p).2) := rfl
theorem fP_out (s : Nat) (hs : acc s = true) (l : List Int) : out (fP s l) = stCD l := by
  unfold fP stCD stC
  by_cases h : isAt l 46 = true
  · simp only [if_pos h]
    rw [run4]
    by_cases hd : digAt (l.drop 1) = true
    · simp only [if_pos hd]
      rw [add_add', out_add, eP_out 5 rfl, List.drop_drop]
      simp
    · simp only [if_neg hd]
      simp [out, add, acc]
  · simp only [if_neg h]
    rw [eP_out s hs]
    simp
theorem run2 (l : List Int) : run 2 l = fP 2 l := by
  cases l with
  | nil => rfl
  | cons c r =>
    unfold fP eP
    cases h : (c == (46 : Int))
    · have h1 : isAt (c :: r) 46 = false := h
      cases he : isE c
      · have : (isAt (c :: r) 101 || isAt (c :: r) 69) = false := he
        rw [run_none (by simp only [stp, h, he]; rfl)]; simp [h1, this]
      · have : (isAt (c :: r) 101 || isAt (c :: r) 69) = true := he
        rw [run_some (t := 6) (by simp only [stp, h, he]; rfl)]; simp [h1, this]
    · have h1 : isAt (c :: r) 46 = true := h
      rw [run_some (t := 4) (by simp only [stp, h]; rfl)]; simp [h1]
theorem run3 : ∀ l, run 3 l = add (cnt l) (fP 3 (l.drop (cnt l)))
  | [] => rfl
  | c :: r => by
    cases hd : dig c
    · have hc : cnt (c :: r) = 0 := by simp [cnt, hd]
      rw [hc, add_zero', List.drop_zero]
      unfold fP eP
      cases h : (c == (46 : Int))
      · have h1 : isAt (c :: r) 46 = false := h
        cases he : isE c
        · have : (isAt (c :: r) 101 || isAt (c :: r) 69) = false := he
          rw [run_none (by simp only [stp, hd, h, he]; rfl)]; simp [h1, this]
        · have : (isAt (c :: r) 101 || isAt (c :: r) 69) = true := he
          rw [run_some (t := 6) (by simp only [stp, hd, h, he]; rfl)]; simp [h1, this]
      · have h1 : isAt (c :: r) 46 = true := h
        rw [run_some (t := 4) (by simp only [stp, hd, h]; rfl)]; simp [h1]
    · have hc : cnt (c :: r) = cnt r + 1 := by simp [cnt, hd]
      rw [run_some (t := 3) (by simp [stp, hd]), run3 r, add_add', hc, Nat.add_comm 1, List.drop_succ_cons]
/-- The integer part. -/
def iP (s : Nat) (l : List Int) : Nat × Nat := if isAt l 48 then add 1 (run 2 (l.drop 1)) else if digAt l then run 3 l else (0, s)
theorem iP_out (s : Nat) (hs : acc s = false) (l : List Int) : out (iP s l) = stBCD l := by
  unfold iP stBCD stB
  by_cases h : isAt l 48 = true
  · simp only [if_pos h]
    rw [run2, out_add, fP_out 2 rfl]
    simp
  · simp only [if_neg h]
    by_cases hd : digAt l = true
    · simp only [if_pos hd]
      rw [run3, out_add, fP_out 3 rfl]
      simp
    · simp only [if_neg hd]
      simp [out, hs]
theorem run3_first {c : Int} {r : List Int} (h : dig c = true) : add 1 (run 3 r) = run 3 (c :: r) := by rw [run_some (t := 3) (by simp [stp, h])]
theorem run1 (l : List Int) : run 1 l = iP 1 l := by
  cases l with
  | nil => rfl
  | cons c r =>
    unfold iP
    cases h : (c == (48 : Int))
    · have h1 : isAt (c :: r) 48 = false := h
      cases hd : dig c
      · rw [run_none (by simp only [stp, h, hd]; rfl)]; simp [h1, digAt, hd]
      · rw [run_some (t := 3) (by simp only [stp, h, hd]; rfl), run3_first hd]; simp [h1, digAt, hd]
    · have h1 : isAt (c :: r) 48 = true := h
      rw [run_some (t := 2) (by simp only [stp, h]; rfl)]; simp [h1]
theorem run0 (l : List Int) : run 0 l = if isAt l 45 then add 1 (run 1 (l.drop 1)) else iP 0 l := by
  cases l with
  | nil => rfl
  | cons c r =>
    unfold iP
    cases hm : (c == (45 : Int))
    · have hm1 : isAt (c :: r) 45 = false := hm
      cases h : (c == (48 : Int))
      · have h1 : isAt (c :: r) 48 = false := h
        cases hd : dig c
        · rw [run_none (by simp only [stp, hm, h, hd]; rfl)]; simp [hm1, h1, digAt, hd]
        · rw [run_some (t := 3) (by simp only [stp, hm, h, hd]; rfl), run3_first hd]; simp [hm1, h1, digAt, hd]
      · have h1 : isAt (c :: r) 48 = true := h
        rw [run_some (t := 2) (by simp only [stp, hm, h]; rfl)]; simp [hm1, h1]
    · have hm1 : isAt (c :: r) 45 = true := hm
      rw [run_some (t := 1) (by simp only [stp, hm]; rfl)]; simp [hm1]
/-- THE PLAIN LAW: 'skipNumber' is the automaton. -/
theorem run_is (l : List Int) : out (run 0 l) = skipL l := by
  rw [run0]
  unfold skipL stA
  by_cases h : isAt l 45 = true
  · simp only [if_pos h]
    rw [out_add, run1, iP_out 1 rfl]
  · simp only [if_neg h]
    rw [iP_out 0 rfl]
    simp
end Go.Proofs.Qxb6000679a
