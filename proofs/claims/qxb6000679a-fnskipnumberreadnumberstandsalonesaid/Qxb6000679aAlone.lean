import Derived.Test.Qxb6000679aTail
namespace Go.Proofs.Qxb6000679a
open Go.RowKit

set_option maxHeartbeats 1000000 in
theorem alone_walk (a : Option Addr) (n c : Nat) (zs : List Int) (i : Int) (w : World) (hc : Came w a n c zs) (hi : i ≤ 9223372036854775807) (hj : -9223372036854775808 ≤ i) :
    Calls Try.prog 7 #[.slice a n c, .int .i64 i] w fun e w' => e = .returned (.bool true) ∧ Below w.heap.size w w' := by
  go_enter Try.func7, Try.ntmps7
  go_wp2_with fail
  refine (bytes17_any a n c i w).mono ?_
  rintro e w' ⟨⟨b, rfl⟩, rfl⟩
  cases b
  · go_wp2
    go_ret
    exact ⟨rfl, Below.refl _ _⟩
  by_cases hbig : (1048576 : Int) < n
  · go_wp2
    go_ret
    exact ⟨rfl, Below.refl _ _⟩
  by_cases hneg : i < 0
  · go_wp2
    go_ret
    exact ⟨rfl, Below.refl _ _⟩
  by_cases hge : (n : Int) ≤ i
  · go_wp2
    go_ret
    exact ⟨rfl, Below.refl _ _⟩
  have hb := hc.buf (by omega)
  have hsm := hb.small
  obtain ⟨k, rfl⟩ := Int.eq_ofNat_of_zero_le (show 0 ≤ i by omega)
  have hkn : k < n := by omega
  go_wp2_with fail
  refine (clone_any a n c zs w' hb hc.nil_).mono ?_
  rintro e w1 ⟨⟨a', c', rfl, hb1, hcc, hfr, _⟩, hbel⟩
  clear hc hb
  obtain ⟨g, ha⟩ : ∃ g, a' = some ⟨g, 0, none⟩ := by
    rcases hb1.at_ with h | ⟨b, o, e, _, _⟩
    · omega
    · obtain ⟨g, hg, _⟩ := hfr _ e
      exact ⟨g, by rw [e, hg]⟩
  subst ha
  clear hfr
  go_wp2_with fail
  refine (zzskip_any _ n c' zs k w1 hb1 hkn).mono ?_
  rintro e w2 ⟨he, rfl⟩
  unfold SkSays at he
  subst he
  cases hok : (skipL (zs.drop k)).2
  · generalize (skipL (zs.drop k)).1 = L
    unfold msg
    simp only [Bool.false_eq_true, if_false]
    go_wp2
    go_ret
    exact ⟨rfl, hbel⟩
  · obtain ⟨h1, h2, h3⟩ := skipL_take (zs.drop k) hok
    rw [List.length_drop, hb1.len] at h2
    have hT := hb1.cut (k + (skipL (zs.drop k)).1) (by omega)
    have hS : skipL ((zs.take (k + (skipL (zs.drop k)).1)).drop k) = skipL (zs.drop k) := by
      rw [List.drop_take, Nat.add_sub_cancel_left]; exact h1
    generalize hL : (skipL (zs.drop k)).1 = L at *
    have HS : Hid (skipL ((zs.take (k + L)).drop k) = (L, true)) := by rw [hS, ← hL, ← hok]; rfl
    have HT : Hid (Buf w2 (some ⟨g, 0, none⟩) (k + L) (zs.take (k + L))) := hT
    clear hS hT h1 hL hok hb1
    unfold msg
    simp only [if_true]
    have d1 : ((k : Int) + (L : Int) ≤ (k : Int)) = False := by simp; omega
    go_wp2_with fail
    refine (zzskip_any _ (k + L) c' (zs.take (k + L)) k w2 HT.out (by omega)).mono ?_
    rintro e w3 ⟨he, rfl⟩
    unfold SkSays at he
    rw [HS.out] at he
    unfold msg at he
    simp only [if_true] at he
    subst he
    clear HS HT
    go_wp2
    go_ret
    exact ⟨ret_bool (by simp), hbel⟩
end Go.Proofs.Qxb6000679a
