import Derived.Test.Qxb6000679aSpace
namespace Go.Proofs.Qxb6000679a
open Go.RowKit

theorem clone_any (a : Option Addr) (n c : Nat) (zs : List Int) (w : World) (hb : Buf w a n zs) (hn : a = none → n = 0 ∧ c = 0) :
    Calls Try.prog 9 #[.slice a n c] w fun e w' => ClSays w.heap.size n zs e w' ∧ Below w.heap.size w w' := by
  cases a with
  | none =>
    obtain ⟨rfl, rfl⟩ := hn rfl
    exact clone_none zs w hb
  | some x => exact clone_some x n c zs w hb

/-- What came in: a row of bytes, whatever its length. -/
structure Came (w : World) (a : Option Addr) (n c : Nat) (zs : List Int) : Prop where
  buf : n ≤ 1048576 → Buf w a n zs
  nil_ : a = none → n = 0 ∧ c = 0
  len : n ≤ maxLen

set_option maxHeartbeats 1000000 in
theorem stops_walk (a : Option Addr) (n c : Nat) (zs : List Int) (i : Int) (w : World) (hc : Came w a n c zs) (hi : i ≤ 9223372036854775807) (hj : -9223372036854775808 ≤ i) :
    Calls Try.prog 3 #[.slice a n c, .int .i64 i] w fun e w' => e = .returned (.bool true) ∧ Below w.heap.size w w' := by
  go_enter Try.func3, Try.ntmps3
  go_wp2_with fail
  refine (bytes8_any a n c i w).mono ?_
  rintro e w' ⟨⟨b, rfl⟩, rfl⟩
  cases b
  · go_wp2
    go_ret
    exact ⟨rfl, Below.refl _ _⟩
  by_cases hbig : (1048576 : Int) < n
  · go_wp2
    go_ret
    exact ⟨rfl, Below.refl _ _⟩
  by_cases hneg : i < 0
  · go_wp2
    go_ret
    exact ⟨rfl, Below.refl _ _⟩
  have hb := hc.buf (by omega)
  have hsm := hb.small
  obtain ⟨k, rfl⟩ := Int.eq_ofNat_of_zero_le (show 0 ≤ i by omega)
  have d1 : decide ((1048576 : Int) < (n : Int)) = false := by simp; omega
  have d2 : decide ((k : Int) < 0) = false := by simp
  clear hbig hneg
  go_wp2_with fail
  refine (clone_any a n c zs w' hb hc.nil_).mono ?_
  rintro e w1 ⟨⟨a', c', rfl, hb1, _, _, _⟩, hbel⟩
  clear hc hb
  go_wp2_with fail
  refine (zzspace_any a' n c' zs k w1 hb1).mono ?_
  rintro e w2 ⟨⟨j, rfl, h1, h2, h3, h4⟩, rfl⟩
  by_cases hge : n ≤ k
  · have hjk : ((j : Int) == (k : Int)) = true := by simp; omega
    clear h1 h2 h3 h4
    go_wp2
    go_ret
    exact ⟨rfl, hbel⟩
  have hjn : j ≤ n := by omega
  have d3 : decide ((n : Int) ≤ (k : Int)) = false := by simp; omega
  have d4 : decide (j < k) = false := by simp; omega
  have d5 : decide (n < j) = false := by simp; omega
  have H3 : Hid (∀ m, k ≤ m → m < j → isSp (zs.getD m 0) = true) := h3
  have H4 : Hid (n ≤ j ∨ isSp (zs.getD j 0) = false) := h4
  clear h3 h4 h2
  go_wp2_with fail
  go_loop [6] (fun t => ∃ m : Nat, k ≤ m ∧ m ≤ j ∧ t = .int .i64 m) (fun t => j - (intOf t).toNat)
  case atStart => exact ⟨k, Nat.le_refl _, h1, rfl⟩
  case round =>
    obtain ⟨m, hkm, hmj, rfl⟩ := hrel
    rcases hb1.at_ with h | ⟨b, o, hba, hbl, hx⟩
    · omega
    subst hba
    by_cases hlt : m < j
    · have c0 := hx m (by omega)
      have hsp := H3.out m hkm hlt
      generalize zs.getD m 0 = z at *
      clear hx
      go_wp2_with fail
      refine (isSpace_any z _).mono ?_
      rintro e w3 ⟨rfl, rfl⟩
      rw [hsp]
      go_wp2
      go_round
      case rel => exact ⟨m + 1, by omega, by omega, by go_num⟩
      case measure => simp [intOf]; omega
    · have hmm : m = j := by omega
      by_cases hjl : j < n
      · have c0 := hx j hjl
        have hsp : isSp (zs.getD j 0) = false := by rcases H4.out with h | h; omega; exact h
        generalize zs.getD j 0 = z at *
        clear hx
        go_wp2_with fail
        refine (isSpace_any z _).mono ?_
        rintro e w3 ⟨rfl, rfl⟩
        rw [hsp]
        go_wp2
        go_ret
        exact ⟨rfl, hbel⟩
      · clear hx
        go_wp2
        go_ret
        exact ⟨rfl, hbel⟩
end Go.Proofs.Qxb6000679a
