import Derived.Test.Qxb6000679aTail
import Derived.Test.Qxb6000679aAuto
namespace Go.Proofs.Qxb6000679a
open Go.RowKit

set_option maxHeartbeats 400000 in
theorem digit_any (c : Int) (w : World) : Calls Try.prog 24 #[.int .u8 c] w fun e w' => e = .returned (.bool (dig c)) ∧ w' = w := by
  by_cases h : 48 ≤ c
  · go_enter Try.func24, Try.ntmps24
    go_wp2
    go_ret
    exact ⟨ret_bool (by simp [dig, h]), rfl⟩
  · go_enter Try.func24, Try.ntmps24
    go_wp2
    go_ret
    exact ⟨ret_bool (by simp [dig]; omega), rfl⟩

/-- What the transition's function returns. -/
def stI (s : Nat) (c : Int) : Int := match stp s c with
  | some t => t
  | none => -1
set_option maxHeartbeats 1000000 in
theorem step0 (c : Int) (w : World) : Calls Try.prog 20 #[.int .i64 0, .int .u8 c] w fun e w' => e = .returned (.int .i64 (stI 0 c)) ∧ w' = w := by
  by_cases k45 : c = 45
  · subst c
    go_enter Try.func20, Try.ntmps20
    go_wp2
    go_ret
    exact ⟨rfl, rfl⟩
  have e45 : (c == 45) = false := by simp [k45]
  clear k45
  by_cases k48 : c = 48
  · subst c
    go_enter Try.func20, Try.ntmps20
    go_wp2
    go_ret
    exact ⟨rfl, rfl⟩
  have e48 : (c == 48) = false := by simp [k48]
  clear k48
  go_enter Try.func20, Try.ntmps20
  cases hd : dig c
  · skip
    go_wp2_with fail
    refine (digit_any c _).mono ?_
    rintro e w' ⟨rfl, rfl⟩
    rw [hd]
    go_wp2
    go_ret
    exact ⟨ret_int (by simp [stI, stp, e45, e48, hd]), rfl⟩
  · skip
    go_wp2_with fail
    refine (digit_any c _).mono ?_
    rintro e w' ⟨rfl, rfl⟩
    rw [hd]
    go_wp2
    go_ret
    exact ⟨ret_int (by simp [stI, stp, e45, e48, hd]), rfl⟩
set_option maxHeartbeats 1000000 in
theorem step1 (c : Int) (w : World) : Calls Try.prog 20 #[.int .i64 1, .int .u8 c] w fun e w' => e = .returned (.int .i64 (stI 1 c)) ∧ w' = w := by
  by_cases k48 : c = 48
  · subst c
    go_enter Try.func20, Try.ntmps20
    go_wp2
    go_ret
    exact ⟨rfl, rfl⟩
  have e48 : (c == 48) = false := by simp [k48]
  clear k48
  go_enter Try.func20, Try.ntmps20
  cases hd : dig c
  · skip
    go_wp2_with fail
    refine (digit_any c _).mono ?_
    rintro e w' ⟨rfl, rfl⟩
    rw [hd]
    go_wp2
    go_ret
    exact ⟨ret_int (by simp [stI, stp, e48, hd]), rfl⟩
  · skip
    go_wp2_with fail
    refine (digit_any c _).mono ?_
    rintro e w' ⟨rfl, rfl⟩
    rw [hd]
    go_wp2
    go_ret
    exact ⟨ret_int (by simp [stI, stp, e48, hd]), rfl⟩
set_option maxHeartbeats 1000000 in
theorem step2 (c : Int) (w : World) : Calls Try.prog 20 #[.int .i64 2, .int .u8 c] w fun e w' => e = .returned (.int .i64 (stI 2 c)) ∧ w' = w := by
  by_cases k46 : c = 46
  · subst c
    go_enter Try.func20, Try.ntmps20
    go_wp2
    go_ret
    exact ⟨rfl, rfl⟩
  have e46 : (c == 46) = false := by simp [k46]
  clear k46
  by_cases k101 : c = 101
  · subst c
    go_enter Try.func20, Try.ntmps20
    go_wp2
    go_ret
    exact ⟨rfl, rfl⟩
  have e101 : (c == 101) = false := by simp [k101]
  clear k101
  by_cases k69 : c = 69
  · subst c
    go_enter Try.func20, Try.ntmps20
    go_wp2
    go_ret
    exact ⟨rfl, rfl⟩
  have e69 : (c == 69) = false := by simp [k69]
  clear k69
  go_enter Try.func20, Try.ntmps20
  go_wp2
  go_ret
  exact ⟨ret_int (by simp [stI, stp, isE, e46, e101, e69]), rfl⟩
set_option maxHeartbeats 1000000 in
theorem step3 (c : Int) (w : World) : Calls Try.prog 20 #[.int .i64 3, .int .u8 c] w fun e w' => e = .returned (.int .i64 (stI 3 c)) ∧ w' = w := by
  by_cases k46 : c = 46
  · subst c
    go_enter Try.func20, Try.ntmps20
    go_wp2_with fail
    refine (digit_any 46 _).mono ?_
    rintro e w' ⟨rfl, rfl⟩
    rw [show dig 46 = false from rfl]
    go_wp2
    go_ret
    exact ⟨rfl, rfl⟩
  have e46 : (c == 46) = false := by simp [k46]
  clear k46
  by_cases k101 : c = 101
  · subst c
    go_enter Try.func20, Try.ntmps20
    go_wp2_with fail
    refine (digit_any 101 _).mono ?_
    rintro e w' ⟨rfl, rfl⟩
    rw [show dig 101 = false from rfl]
    go_wp2
    go_ret
    exact ⟨rfl, rfl⟩
  have e101 : (c == 101) = false := by simp [k101]
  clear k101
  by_cases k69 : c = 69
  · subst c
    go_enter Try.func20, Try.ntmps20
    go_wp2_with fail
    refine (digit_any 69 _).mono ?_
    rintro e w' ⟨rfl, rfl⟩
    rw [show dig 69 = false from rfl]
    go_wp2
    go_ret
    exact ⟨rfl, rfl⟩
  have e69 : (c == 69) = false := by simp [k69]
  clear k69
  go_enter Try.func20, Try.ntmps20
  cases hd : dig c
  · skip
    go_wp2_with fail
    refine (digit_any c _).mono ?_
    rintro e w' ⟨rfl, rfl⟩
    rw [hd]
    go_wp2
    go_ret
    exact ⟨ret_int (by simp [stI, stp, isE, e46, e101, e69, hd]), rfl⟩
  · skip
    go_wp2_with fail
    refine (digit_any c _).mono ?_
    rintro e w' ⟨rfl, rfl⟩
    rw [hd]
    go_wp2
    go_ret
    exact ⟨ret_int (by simp [stI, stp, hd]), rfl⟩
set_option maxHeartbeats 1000000 in
theorem step4 (c : Int) (w : World) : Calls Try.prog 20 #[.int .i64 4, .int .u8 c] w fun e w' => e = .returned (.int .i64 (stI 4 c)) ∧ w' = w := by
  go_enter Try.func20, Try.ntmps20
  cases hd : dig c
  · skip
    go_wp2_with fail
    refine (digit_any c _).mono ?_
    rintro e w' ⟨rfl, rfl⟩
    rw [hd]
    go_wp2
    go_ret
    exact ⟨ret_int (by simp [stI, stp, hd]), rfl⟩
  · skip
    go_wp2_with fail
    refine (digit_any c _).mono ?_
    rintro e w' ⟨rfl, rfl⟩
    rw [hd]
    go_wp2
    go_ret
    exact ⟨ret_int (by simp [stI, stp, hd]), rfl⟩
set_option maxHeartbeats 1000000 in
theorem step5 (c : Int) (w : World) : Calls Try.prog 20 #[.int .i64 5, .int .u8 c] w fun e w' => e = .returned (.int .i64 (stI 5 c)) ∧ w' = w := by
  by_cases k101 : c = 101
  · subst c
    go_enter Try.func20, Try.ntmps20
    go_wp2_with fail
    refine (digit_any 101 _).mono ?_
    rintro e w' ⟨rfl, rfl⟩
    rw [show dig 101 = false from rfl]
    go_wp2
    go_ret
    exact ⟨rfl, rfl⟩
  have e101 : (c == 101) = false := by simp [k101]
  clear k101
  by_cases k69 : c = 69
  · subst c
    go_enter Try.func20, Try.ntmps20
    go_wp2_with fail
    refine (digit_any 69 _).mono ?_
    rintro e w' ⟨rfl, rfl⟩
    rw [show dig 69 = false from rfl]
    go_wp2
    go_ret
    exact ⟨rfl, rfl⟩
  have e69 : (c == 69) = false := by simp [k69]
  clear k69
  go_enter Try.func20, Try.ntmps20
  cases hd : dig c
  · skip
    go_wp2_with fail
    refine (digit_any c _).mono ?_
    rintro e w' ⟨rfl, rfl⟩
    rw [hd]
    go_wp2
    go_ret
    exact ⟨ret_int (by simp [stI, stp, isE, e101, e69, hd]), rfl⟩
  · skip
    go_wp2_with fail
    refine (digit_any c _).mono ?_
    rintro e w' ⟨rfl, rfl⟩
    rw [hd]
    go_wp2
    go_ret
    exact ⟨ret_int (by simp [stI, stp, hd]), rfl⟩
set_option maxHeartbeats 1000000 in
theorem step6 (c : Int) (w : World) : Calls Try.prog 20 #[.int .i64 6, .int .u8 c] w fun e w' => e = .returned (.int .i64 (stI 6 c)) ∧ w' = w := by
  by_cases k43 : c = 43
  · subst c
    go_enter Try.func20, Try.ntmps20
    go_wp2
    go_ret
    exact ⟨rfl, rfl⟩
  have e43 : (c == 43) = false := by simp [k43]
  clear k43
  by_cases k45 : c = 45
  · subst c
    go_enter Try.func20, Try.ntmps20
    go_wp2
    go_ret
    exact ⟨rfl, rfl⟩
  have e45 : (c == 45) = false := by simp [k45]
  clear k45
  go_enter Try.func20, Try.ntmps20
  cases hd : dig c
  · skip
    go_wp2_with fail
    refine (digit_any c _).mono ?_
    rintro e w' ⟨rfl, rfl⟩
    rw [hd]
    go_wp2
    go_ret
    exact ⟨ret_int (by simp [stI, stp, isSg, e43, e45, hd]), rfl⟩
  · skip
    go_wp2_with fail
    refine (digit_any c _).mono ?_
    rintro e w' ⟨rfl, rfl⟩
    rw [hd]
    go_wp2
    go_ret
    exact ⟨ret_int (by simp [stI, stp, isSg, e43, e45, hd]), rfl⟩
set_option maxHeartbeats 1000000 in
theorem step7 (c : Int) (w : World) : Calls Try.prog 20 #[.int .i64 7, .int .u8 c] w fun e w' => e = .returned (.int .i64 (stI 7 c)) ∧ w' = w := by
  go_enter Try.func20, Try.ntmps20
  cases hd : dig c
  · skip
    go_wp2_with fail
    refine (digit_any c _).mono ?_
    rintro e w' ⟨rfl, rfl⟩
    rw [hd]
    go_wp2
    go_ret
    exact ⟨ret_int (by simp [stI, stp, hd]), rfl⟩
  · skip
    go_wp2_with fail
    refine (digit_any c _).mono ?_
    rintro e w' ⟨rfl, rfl⟩
    rw [hd]
    go_wp2
    go_ret
    exact ⟨ret_int (by simp [stI, stp, hd]), rfl⟩
set_option maxHeartbeats 1000000 in
theorem step8 (c : Int) (w : World) : Calls Try.prog 20 #[.int .i64 8, .int .u8 c] w fun e w' => e = .returned (.int .i64 (stI 8 c)) ∧ w' = w := by
  go_enter Try.func20, Try.ntmps20
  cases hd : dig c
  · skip
    go_wp2_with fail
    refine (digit_any c _).mono ?_
    rintro e w' ⟨rfl, rfl⟩
    rw [hd]
    go_wp2
    go_ret
    exact ⟨ret_int (by simp [stI, stp, hd]), rfl⟩
  · skip
    go_wp2_with fail
    refine (digit_any c _).mono ?_
    rintro e w' ⟨rfl, rfl⟩
    rw [hd]
    go_wp2
    go_ret
    exact ⟨ret_int (by simp [stI, stp, hd]), rfl⟩
theorem step_any (s : Nat) (hs : s ≤ 8) (c : Int) (w : World) : Calls Try.prog 20 #[.int .i64 s, .int .u8 c] w fun e w' => e = .returned (.int .i64 (stI s c)) ∧ w' = w :=
  match s, hs with
  | 0, _ => step0 c w
  | 1, _ => step1 c w
  | 2, _ => step2 c w
  | 3, _ => step3 c w
  | 4, _ => step4 c w
  | 5, _ => step5 c w
  | 6, _ => step6 c w
  | 7, _ => step7 c w
  | 8, _ => step8 c w
  | n + 9, h => absurd h (by omega)
set_option maxHeartbeats 400000 in
theorem acc0 (w : World) : Calls Try.prog 21 #[.int .i64 0] w fun e w' => e = .returned (.bool (acc 0)) ∧ w' = w := by
  go_enter Try.func21, Try.ntmps21
  go_wp2
  go_ret
  exact ⟨rfl, rfl⟩
set_option maxHeartbeats 400000 in
theorem acc1 (w : World) : Calls Try.prog 21 #[.int .i64 1] w fun e w' => e = .returned (.bool (acc 1)) ∧ w' = w := by
  go_enter Try.func21, Try.ntmps21
  go_wp2
  go_ret
  exact ⟨rfl, rfl⟩
set_option maxHeartbeats 400000 in
theorem acc2 (w : World) : Calls Try.prog 21 #[.int .i64 2] w fun e w' => e = .returned (.bool (acc 2)) ∧ w' = w := by
  go_enter Try.func21, Try.ntmps21
  go_wp2
  go_ret
  exact ⟨rfl, rfl⟩
set_option maxHeartbeats 400000 in
theorem acc3 (w : World) : Calls Try.prog 21 #[.int .i64 3] w fun e w' => e = .returned (.bool (acc 3)) ∧ w' = w := by
  go_enter Try.func21, Try.ntmps21
  go_wp2
  go_ret
  exact ⟨rfl, rfl⟩
set_option maxHeartbeats 400000 in
theorem acc4 (w : World) : Calls Try.prog 21 #[.int .i64 4] w fun e w' => e = .returned (.bool (acc 4)) ∧ w' = w := by
  go_enter Try.func21, Try.ntmps21
  go_wp2
  go_ret
  exact ⟨rfl, rfl⟩
set_option maxHeartbeats 400000 in
theorem acc5 (w : World) : Calls Try.prog 21 #[.int .i64 5] w fun e w' => e = .returned (.bool (acc 5)) ∧ w' = w := by
  go_enter Try.func21, Try.ntmps21
  go_wp2
  go_ret
  exact ⟨rfl, rfl⟩
set_option maxHeartbeats 400000 in
theorem acc6 (w : World) : Calls Try.prog 21 #[.int .i64 6] w fun e w' => e = .returned (.bool (acc 6)) ∧ w' = w := by
  go_enter Try.func21, Try.ntmps21
  go_wp2
  go_ret
  exact ⟨rfl, rfl⟩
set_option maxHeartbeats 400000 in
theorem acc7 (w : World) : Calls Try.prog 21 #[.int .i64 7] w fun e w' => e = .returned (.bool (acc 7)) ∧ w' = w := by
  go_enter Try.func21, Try.ntmps21
  go_wp2
  go_ret
  exact ⟨rfl, rfl⟩
set_option maxHeartbeats 400000 in
theorem acc8 (w : World) : Calls Try.prog 21 #[.int .i64 8] w fun e w' => e = .returned (.bool (acc 8)) ∧ w' = w := by
  go_enter Try.func21, Try.ntmps21
  go_wp2
  go_ret
  exact ⟨rfl, rfl⟩
theorem acc_any (s : Nat) (hs : s ≤ 8) (w : World) : Calls Try.prog 21 #[.int .i64 s] w fun e w' => e = .returned (.bool (acc s)) ∧ w' = w :=
  match s, hs with
  | 0, _ => acc0 w
  | 1, _ => acc1 w
  | 2, _ => acc2 w
  | 3, _ => acc3 w
  | 4, _ => acc4 w
  | 5, _ => acc5 w
  | 6, _ => acc6 w
  | 7, _ => acc7 w
  | 8, _ => acc8 w
  | n + 9, h => absurd h (by omega)
end Go.Proofs.Qxb6000679a
