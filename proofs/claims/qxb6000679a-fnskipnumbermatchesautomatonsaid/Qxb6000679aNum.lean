import Derived.Test.Qxb6000679aStops
import Derived.Test.Qxb6000679aPlain
import Derived.Deep.DeepCutAuto
namespace Go.Proofs.Qxb6000679a
open Go.RowKit

set_option maxHeartbeats 400000 in
theorem isDigit_any (c : Int) (w : World) : Calls Try.prog 22 #[.int .u8 c] w fun e w' => e = .returned (.bool (dig c)) ∧ w' = w := by
  by_cases h : 48 ≤ c
  · go_enter Try.func22, Try.ntmps22
    go_wp2
    go_ret
    exact ⟨ret_bool (by simp [dig, h]), rfl⟩
  · go_enter Try.func22, Try.ntmps22
    go_wp2
    go_ret
    exact ⟨ret_bool (by simp [dig]; omega), rfl⟩

theorem drop_cons (zs : List Int) (k : Nat) (h : k < zs.length) : zs.drop k = zs.getD k 0 :: zs.drop (k + 1) := by
  rw [getD_lt _ _ _ h]; exact List.drop_eq_getElem_cons h
theorem drop_none (zs : List Int) (k : Nat) (h : zs.length ≤ k) : zs.drop k = [] := List.drop_of_length_le h
theorem cnt_yes (zs : List Int) (k : Nat) (h : k < zs.length) (hd : dig (zs.getD k 0) = true) : cnt (zs.drop k) = cnt (zs.drop (k + 1)) + 1 := by
  rw [drop_cons zs k h, cnt, if_pos hd]
theorem cnt_no (zs : List Int) (k : Nat) (h : k < zs.length) (hd : dig (zs.getD k 0) = false) : cnt (zs.drop k) = 0 := by
  rw [drop_cons zs k h, cnt, if_neg (by rw [hd]; exact Bool.false_ne_true)]
theorem cnt_end (zs : List Int) (k : Nat) (h : zs.length ≤ k) : cnt (zs.drop k) = 0 := by rw [drop_none zs k h]; rfl

def DgSays (zs : List Int) (i : Nat) (e : Ending) : Prop := e = .returned (.int .i64 ((i + cnt (zs.drop i) : Nat) : Int))

set_option maxHeartbeats 400000 in
theorem digits_any (a : Option Addr) (n c : Nat) (zs : List Int) (i : Nat) (w : World) (hb : Buf w a n zs) (hi : i ≤ n) :
    Calls Try.prog 23 #[.slice a n c, .int .i64 i] w fun e w' => DgSays zs i e ∧ w' = w := by
  have hsm := hb.small
  go_enter Try.func23, Try.ntmps23
  go_wp2
  go_loop [1] (fun t => ∃ k : Nat, i ≤ k ∧ k ≤ n ∧ t = .int .i64 k ∧ Hid (i + cnt (zs.drop i) = k + cnt (zs.drop k))) (fun t => n - (intOf t).toNat)
  case atStart => exact ⟨i, Nat.le_refl _, hi, rfl, rfl⟩
  case round =>
    obtain ⟨k, hik, hkn, rfl, HA⟩ := hrel
    by_cases hlt : k < n
    · rcases hb.at_ with h | ⟨b, o, hba, hbl, hx⟩
      · omega
      have hl := hb.len
      obtain ⟨z, hz⟩ : ∃ z, zs.getD k 0 = z := ⟨_, rfl⟩
      have c0 := hx k hlt
      rw [hz] at c0
      subst hba
      cases hd : dig z
      · have HF : Hid (i + cnt (zs.drop i) = k) := by
          rw [HA.out, cnt_no zs k (by omega) (by rw [hz]; exact hd)]; exact Nat.add_zero _
        clear hx hz hb hl HA
        go_wp2_with fail
        refine (isDigit_any z _).mono ?_
        rintro e w' ⟨rfl, rfl⟩
        rw [hd]
        go_wp2
        go_ret
        exact ⟨by rw [DgSays, HF.out]; rfl, rfl⟩
      · have HF : Hid (i + cnt (zs.drop i) = k + 1 + cnt (zs.drop (k + 1))) := by
          rw [HA.out, cnt_yes zs k (by omega) (by rw [hz]; exact hd)]; simp only [Hid]; omega
        clear hx hz hb hl HA
        go_wp2_with fail
        refine (isDigit_any z _).mono ?_
        rintro e w' ⟨rfl, rfl⟩
        rw [hd]
        go_wp2
        go_round
        case rel => exact ⟨k + 1, by omega, by omega, by go_num, HF⟩
        case measure => simp [intOf]; omega
    · have HF : Hid (i + cnt (zs.drop i) = k) := by
        rw [HA.out, cnt_end zs k (by rw [hb.len]; omega)]; exact Nat.add_zero _
      go_wp2
      go_ret
      exact ⟨by rw [DgSays, HF.out]; rfl, rfl⟩
end Go.Proofs.Qxb6000679a
