import Derived.Test.Qxb6000679aMatch
namespace Go.Proofs.Qxb6000679a
open Go.RowKit

set_option maxHeartbeats 1000000 in
theorem match_walk (a : Option Addr) (n c : Nat) (zs : List Int) (i : Int) (w : World) (hc : Came w a n c zs) (hi : i ≤ 9223372036854775807) (hj : -9223372036854775808 ≤ i) :
    Calls Try.prog 5 #[.slice a n c, .int .i64 i] w fun e w' => e = .returned (.bool true) ∧ Below w.heap.size w w' := by
  go_enter Try.func5, Try.ntmps5
  go_wp2_with fail
  refine (bytes13_any a n c i w).mono ?_
  rintro e w' ⟨⟨b, rfl⟩, rfl⟩
  cases b
  · go_wp2
    go_ret
    exact ⟨rfl, Below.refl _ _⟩
  by_cases hbig : (1048576 : Int) < n
  · go_wp2
    go_ret
    exact ⟨rfl, Below.refl _ _⟩
  by_cases hneg : i < 0
  · go_wp2
    go_ret
    exact ⟨rfl, Below.refl _ _⟩
  by_cases hge : (n : Int) ≤ i
  · go_wp2
    go_ret
    exact ⟨rfl, Below.refl _ _⟩
  have hb := hc.buf (by omega)
  have hsm := hb.small
  obtain ⟨k, rfl⟩ := Int.eq_ofNat_of_zero_le (show 0 ≤ i by omega)
  have hkn : k < n := by omega
  go_wp2_with fail
  refine (clone_any a n c zs w' hb hc.nil_).mono ?_
  rintro e w1 ⟨⟨a', c', rfl, hb1, hcc, hfr, _⟩, hbel⟩
  clear hc hb hfr
  go_wp2_with fail
  refine (zzskip_any _ n c' zs k w1 hb1 hkn).mono ?_
  rintro e w2 ⟨he, rfl⟩
  unfold SkSays at he
  subst he
  obtain ⟨L, hL⟩ : ∃ L, (skipL (zs.drop k)).1 = L := ⟨_, rfl⟩
  rw [hL]
  have HL : Hid ((skipL (zs.drop k)).1 = L) := hL
  have HB : Hid (Buf w2 a' n zs) := hb1
  clear hL hb1
  cases hq : (skipL (zs.drop k)).2
  · have HQ : Hid ((skipL (zs.drop k)).2 = false) := hq
    clear hq
    unfold msg
    simp only [Bool.false_eq_true, if_false]
    go_wp2_with fail
    refine (model_skip a' n c' zs k w2 HB.out (by omega) L false HL.out HQ.out).mono ?_
    rintro e w3 ⟨rfl, rfl⟩
    clear HL HQ HB
    go_wp2
    go_ret
    exact ⟨ret_bool (by simp), hbel⟩
  · have HQ : Hid ((skipL (zs.drop k)).2 = true) := hq
    clear hq
    unfold msg
    simp only [if_true]
    go_wp2_with fail
    refine (model_skip a' n c' zs k w2 HB.out (by omega) L true HL.out HQ.out).mono ?_
    rintro e w3 ⟨rfl, rfl⟩
    clear HL HQ HB
    go_wp2
    go_ret
    exact ⟨ret_bool (by simp), hbel⟩
end Go.Proofs.Qxb6000679a
