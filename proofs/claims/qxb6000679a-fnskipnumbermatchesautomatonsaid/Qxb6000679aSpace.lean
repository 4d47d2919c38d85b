import Derived.Test.Qxb6000679aDefs
namespace Go.Proofs.Qxb6000679a
open Go.RowKit

/-- JSON's white space. -/
def isSp (c : Int) : Bool := (c == 32) || (c == 9) || (c == 10) || (c == 13)

set_option maxHeartbeats 400000 in
theorem isSpace_any (c : Int) (w : World) : Calls Try.prog 11 #[.int .u8 c] w fun e w' => e = .returned (.bool (isSp c)) ∧ w' = w := by
  by_cases h1 : c = 32
  · subst h1
    go_enter Try.func11, Try.ntmps11
    go_wp2
    go_ret
    exact ⟨rfl, rfl⟩
  by_cases h2 : c = 9
  · subst h2
    go_enter Try.func11, Try.ntmps11
    go_wp2
    go_ret
    exact ⟨rfl, rfl⟩
  by_cases h3 : c = 10
  · subst h3
    go_enter Try.func11, Try.ntmps11
    go_wp2
    go_ret
    exact ⟨rfl, rfl⟩
  have e1 : (c == 32) = false := by simp [h1]
  have e2 : (c == 9) = false := by simp [h2]
  have e3 : (c == 10) = false := by simp [h3]
  clear h1 h2 h3
  go_enter Try.func11, Try.ntmps11
  go_wp2
  go_ret
  exact ⟨ret_bool (by simp [isSp, e1, e2, e3]), rfl⟩

/-- Where 'space' stops. -/
def SpEnd (zs : List Int) (n i j : Nat) : Prop :=
  i ≤ j ∧ (j = i ∨ j ≤ n) ∧ (∀ m, i ≤ m → m < j → isSp (zs.getD m 0) = true) ∧ (n ≤ j ∨ isSp (zs.getD j 0) = false)
def SpSays (zs : List Int) (n i : Nat) (e : Ending) : Prop := ∃ j : Nat, e = .returned (.int .i64 j) ∧ SpEnd zs n i j

theorem isSp_cases (c : Int) : (c = 32 ∨ c = 9 ∨ c = 10 ∨ c = 13) ∨ (isSp c = false ∧ (c == 32) = false ∧ (c == 9) = false ∧ (c == 10) = false ∧ (c == 13) = false) := by
  by_cases h1 : c = 32; exact .inl (.inl h1)
  by_cases h2 : c = 9; exact .inl (.inr (.inl h2))
  by_cases h3 : c = 10; exact .inl (.inr (.inr (.inl h3)))
  by_cases h4 : c = 13; exact .inl (.inr (.inr (.inr h4)))
  exact .inr (by simp [isSp, h1, h2, h3, h4])

set_option maxHeartbeats 1000000 in
theorem space_any (a : Option Addr) (n c : Nat) (zs : List Int) (i : Nat) (w : World) (hb : Buf w a n zs) :
    Calls Try.prog 18 #[.slice a n c, .int .i64 i] w fun e w' => SpSays zs n i e ∧ w' = w := by
  have hsm := hb.small
  go_enter Try.func18, Try.ntmps18
  go_wp2
  go_loop [1] (fun t => ∃ k : Nat, t = .int .i64 k ∧ i ≤ k ∧ (k = i ∨ k ≤ n) ∧ Hid (∀ m, i ≤ m → m < k → isSp (zs.getD m 0) = true)) (fun t => n - (intOf t).toNat)
  case atStart => exact ⟨i, rfl, Nat.le_refl _, .inl rfl, fun m h1 h2 => absurd h2 (by omega)⟩
  case round =>
    obtain ⟨k, rfl, hik, hkn, HA⟩ := hrel
    by_cases hlt : k < n
    · rcases hb.at_ with h | ⟨b, o, hba, hbl, hx⟩
      · omega
      obtain ⟨z, hz⟩ : ∃ z, zs.getD k 0 = z := ⟨_, rfl⟩
      have c0 := hx k hlt
      rw [hz] at c0
      have HZ : Hid (zs.getD k 0 = z) := hz
      subst hba
      clear hx hz hb
      rcases isSp_cases z with h | ⟨h0, h1, h2, h3, h4⟩
      · have hsp : isSp z = true := by rcases h with rfl | rfl | rfl | rfl <;> rfl
        have HN : Hid (∀ m, i ≤ m → m < k + 1 → isSp (zs.getD m 0) = true) := fun m h1 h2 => by
          by_cases e : m = k
          · subst e; rw [HZ.out]; exact hsp
          · exact HA.out m h1 (by omega)
        clear hsp
        rcases h with rfl | rfl | rfl | rfl
        all_goals
          go_wp2
          go_round
          case rel => exact ⟨k + 1, by go_num, by omega, .inr (by omega), HN⟩
          case measure => simp [intOf]; omega
      · have hfin : SpEnd zs n i k := ⟨hik, hkn, HA.out, .inr (by rw [HZ.out]; exact h0)⟩
        clear h0
        go_wp2
        all_goals go_ret
        all_goals exact ⟨⟨k, rfl, hfin⟩, rfl⟩
    · have hfin : SpEnd zs n i k := ⟨hik, hkn, HA.out, .inl (by omega)⟩
      go_wp2
      go_ret
      exact ⟨⟨k, rfl, hfin⟩, rfl⟩

set_option maxHeartbeats 400000 in
theorem zzspace_any (a : Option Addr) (n c : Nat) (zs : List Int) (i : Nat) (w : World) (hb : Buf w a n zs) :
    Calls Try.prog 10 #[.slice a n c, .int .i64 i] w fun e w' => SpSays zs n i e ∧ w' = w := by
  go_enter Try.func10, Try.ntmps10
  go_wp2_with fail
  refine (space_any a n c zs i w hb).mono ?_
  rintro e w' ⟨⟨j, rfl, hj⟩, rfl⟩
  go_wp2
  go_ret
  exact ⟨⟨j, rfl, hj⟩, rfl⟩
end Go.Proofs.Qxb6000679a
