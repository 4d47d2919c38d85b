import Derived.Test.Qxb6000679aSkip
namespace Go.Proofs.Qxb6000679a
open Go.RowKit

theorem skip_any (a : Option Addr) (n c : Nat) (zs : List Int) (i : Nat) (w : World) (hb : Buf w a n zs) (hi : i < n) :
    Calls Try.prog 19 #[.slice a n c, .int .i64 i] w fun e w' => SkSays zs i e ∧ w' = w := by
  rcases hb.at_ with h | ⟨b, o, rfl, _, _⟩
  · omega
  · exact skip_walk b o n c zs i w hb hi

set_option maxHeartbeats 400000 in
theorem zzskip_any (a : Option Addr) (n c : Nat) (zs : List Int) (i : Nat) (w : World) (hb : Buf w a n zs) (hi : i < n) :
    Calls Try.prog 14 #[.slice a n c, .int .i64 i] w fun e w' => SkSays zs i e ∧ w' = w := by
  go_enter Try.func14, Try.ntmps14
  go_wp2_with fail
  refine (skip_any a n c zs i w hb hi).mono ?_
  rintro e w' ⟨he, rfl⟩
  unfold SkSays at he
  obtain ⟨j, hj⟩ : ∃ j : Int, ((i + (skipL (zs.drop i)).1 : Nat) : Int) = j := ⟨_, rfl⟩
  obtain ⟨m, hm⟩ : ∃ m, msg (skipL (zs.drop i)).2 = m := ⟨_, rfl⟩
  rw [hj, hm] at he
  subst he
  have HJ : Hid (((i + (skipL (zs.drop i)).1 : Nat) : Int) = j) := hj
  have HM : Hid (msg (skipL (zs.drop i)).2 = m) := hm
  clear hj hm
  go_wp2
  go_ret2
  exact ⟨by unfold SkSays; rw [HJ.out, HM.out]; rfl, rfl⟩

theorem zzskip_zero (a : Option Addr) (n c : Nat) (zs : List Int) (w : World) (hb : Buf w a n zs) (hi : 0 < n) (L : Nat) (M : ByteArray) (hL : (skipL zs).1 = L) (hM : msg (skipL zs).2 = M) :
    Calls Try.prog 14 #[.slice a n c, .int .i64 0] w fun e w' => e = .returned (.tuple #[.int .i64 (L : Int), .string M]) ∧ w' = w := by
  refine (zzskip_any a n c zs 0 w hb hi).mono ?_
  rintro e w' ⟨he, rfl⟩
  unfold SkSays at he
  rw [List.drop_zero, Nat.zero_add, hL, hM] at he
  exact ⟨he, rfl⟩

/-- A buffer's tail. -/
theorem Buf.tail {w : World} {b n : Nat} {zs : List Int} (h : Buf w (some ⟨b, 0, none⟩) n zs) (i : Nat) (hi : i < n) : Buf w (some ⟨b, i, none⟩) (n - i) (zs.drop i) := by
  rcases h.at_ with h0 | ⟨b', o, e, hl, hx⟩
  · omega
  · cases e
    refine ⟨by rw [List.length_drop, h.len], by have := h.small; omega, .inr ⟨b, i, rfl, hl, fun k hk => ?_⟩⟩
    have := hx (i + k) (by omega)
    rw [Nat.zero_add] at this
    rw [this]
    simp [List.getD]
/-- A buffer cut off. -/
theorem Buf.cut {w : World} {a : Option Addr} {n : Nat} {zs : List Int} (h : Buf w a n zs) (j : Nat) (hj : j ≤ n) : Buf w a j (zs.take j) := by
  refine ⟨by rw [List.length_take, h.len]; omega, by have := h.small; omega, ?_⟩
  rcases h.at_ with h0 | ⟨b', o, e, hl, hx⟩
  · exact .inl (by omega)
  · refine .inr ⟨b', o, e, hl, fun k hk => ?_⟩
    rw [hx k (by omega)]
    simp [List.getD, List.getElem?_take_of_lt hk]

set_option maxHeartbeats 1000000 in
theorem tail_walk (a : Option Addr) (n c : Nat) (zs : List Int) (i : Int) (w : World) (hc : Came w a n c zs) (hi : i ≤ 9223372036854775807) (hj : -9223372036854775808 ≤ i) :
    Calls Try.prog 6 #[.slice a n c, .int .i64 i] w fun e w' => e = .returned (.bool true) ∧ Below w.heap.size w w' := by
  go_enter Try.func6, Try.ntmps6
  go_wp2_with fail
  refine (bytes16_any a n c i w).mono ?_
  rintro e w' ⟨⟨b, rfl⟩, rfl⟩
  cases b
  · go_wp2
    go_ret
    exact ⟨rfl, Below.refl _ _⟩
  by_cases hbig : (1048576 : Int) < n
  · go_wp2
    go_ret
    exact ⟨rfl, Below.refl _ _⟩
  by_cases hneg : i < 0
  · go_wp2
    go_ret
    exact ⟨rfl, Below.refl _ _⟩
  by_cases hge : (n : Int) ≤ i
  · go_wp2
    go_ret
    exact ⟨rfl, Below.refl _ _⟩
  have hb := hc.buf (by omega)
  have hsm := hb.small
  obtain ⟨k, rfl⟩ := Int.eq_ofNat_of_zero_le (show 0 ≤ i by omega)
  have hkn : k < n := by omega
  go_wp2_with fail
  refine (clone_any a n c zs w' hb hc.nil_).mono ?_
  rintro e w1 ⟨⟨a', c', rfl, hb1, hcc, hfr, _⟩, hbel⟩
  clear hc hb
  obtain ⟨g, ha⟩ : ∃ g, a' = some ⟨g, 0, none⟩ := by
    rcases hb1.at_ with h | ⟨b, o, e, _, _⟩
    · omega
    · obtain ⟨g, hg, _⟩ := hfr _ e
      exact ⟨g, by rw [e, hg]⟩
  subst ha
  clear hfr
  go_wp2_with fail
  refine (zzskip_any _ n c' zs k w1 hb1 hkn).mono ?_
  rintro e w2 ⟨he, rfl⟩
  unfold SkSays at he
  subst he
  generalize hL : (skipL (zs.drop k)).1 = L
  generalize hM : msg (skipL (zs.drop k)).2 = M
  have HT := hb1.tail k hkn
  have hLn : L ≤ n := by
    have h1 := skipL_len (zs.drop k)
    rw [List.length_drop, hb1.len, hL] at h1
    omega
  have HL : Hid ((skipL (zs.drop k)).1 = L) := hL
  have HM : Hid (msg (skipL (zs.drop k)).2 = M) := hM
  clear hL hM
  go_wp2_with fail
  refine (zzskip_zero _ (n - k) _ (zs.drop k) w2 HT (by omega) L M HL.out HM.out).mono ?_
  rintro e w3 ⟨rfl, rfl⟩
  have e1 : (k : Int) + (L : Int) - (k : Int) = (L : Int) := by omega
  clear HT HL HM hb1
  go_wp2
  go_ret
  exact ⟨ret_bool (by simp), hbel⟩
end Go.Proofs.Qxb6000679a
