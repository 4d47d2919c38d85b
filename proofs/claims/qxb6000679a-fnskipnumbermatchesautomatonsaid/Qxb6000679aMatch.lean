import Derived.Test.Qxb6000679aModel
namespace Go.Proofs.Qxb6000679a
open Go.RowKit

theorem stp_le {s t : Nat} {c : Int} (hs : s ≤ 8) (h : stp s c = some t) : t ≤ 8 := by
  match s, hs with
  | 0, _ | 1, _ | 2, _ | 3, _ | 4, _ | 5, _ | 6, _ | 7, _ | 8, _ =>
    simp only [stp] at h
    repeat' (split at h)
    all_goals first | (cases h; omega) | cases h
  | n + 9, h' => omega

/-- What the model says: where the automaton stops, and whether its state accepts. -/
def MdSays (zs : List Int) (i : Nat) (e : Ending) : Prop := e = .returned (.tuple #[.int .i64 ((i + (run 0 (zs.drop i)).1 : Nat) : Int), .bool (acc (run 0 (zs.drop i)).2)])
/-- The automaton in state 's' at 'k' comes to what it comes to from the start at 'i'. -/
def Way (zs : List Int) (i s k : Nat) : Prop := i + (run 0 (zs.drop i)).1 = k + (run s (zs.drop k)).1 ∧ (run 0 (zs.drop i)).2 = (run s (zs.drop k)).2

theorem Way.stop {zs : List Int} {i s k : Nat} (h : Way zs i s k) (h0 : run s (zs.drop k) = (0, s)) : MdSays zs i (.returned (.tuple #[.int .i64 (k : Int), .bool (acc s)])) := by
  obtain ⟨h1, h2⟩ := h
  rw [h0] at h1 h2
  unfold MdSays
  rw [h1, h2]
  rfl

set_option maxHeartbeats 1000000 in
theorem model_any (a : Option Addr) (n c : Nat) (zs : List Int) (i : Nat) (w : World) (hb : Buf w a n zs) (hi : i ≤ n) :
    Calls Try.prog 15 #[.slice a n c, .int .i64 i] w fun e w' => MdSays zs i e ∧ w' = w := by
  have hsm := hb.small
  go_enter Try.func15, Try.ntmps15
  go_wp2
  go_loop [6, 7] (fun u t => ∃ s k : Nat, s ≤ 8 ∧ k ≤ n ∧ u = .int .i64 s ∧ t = .int .i64 k ∧ Hid (Way zs i s k)) (fun _ t => n - (intOf t).toNat)
  case atStart => exact ⟨0, i, by omega, hi, rfl, rfl, ⟨rfl, rfl⟩⟩
  case round =>
    obtain ⟨s, k, hs8, hkn, rfl, rfl, HA⟩ := hrel
    by_cases hlt : k < n
    · rcases hb.at_ with h | ⟨b, o, hba, hbl, hx⟩
      · omega
      have hl := hb.len
      obtain ⟨z, hz⟩ : ∃ z, zs.getD k 0 = z := ⟨_, rfl⟩
      have c0 := hx k hlt
      rw [hz] at c0
      subst hba
      have hdr := drop_cons zs k (by omega)
      rw [hz] at hdr
      cases hst : stp s z with
      | none =>
        have HF : Hid (MdSays zs i (.returned (.tuple #[.int .i64 (k : Int), .bool (acc s)]))) := HA.out.stop (by rw [hdr]; exact run_none hst)
        have hI : stI s z = -1 := by unfold stI; rw [hst]
        clear hx hz hb hl HA hdr hst
        go_wp2_with fail
        refine (step_any s hs8 z _).mono ?_
        rintro e w' ⟨rfl, rfl⟩
        rw [hI]
        clear hI c0
        go_wp2_with fail
        refine (acc_any s hs8 _).mono ?_
        rintro e w' ⟨rfl, rfl⟩
        generalize acc s = q at HF
        go_wp2
        go_ret2
        exact ⟨HF.out, rfl⟩
      | some t =>
        have ht8 := stp_le hs8 hst
        have HF : Hid (Way zs i t (k + 1)) := by
          obtain ⟨h1, h2⟩ := HA.out
          rw [hdr, run_some hst] at h1 h2
          exact ⟨by rw [h1]; simp only [add]; omega, h2⟩
        have hI : stI s z = (t : Int) := by unfold stI; rw [hst]
        clear hx hz hb hl HA hdr hst
        go_wp2_with fail
        refine (step_any s hs8 z _).mono ?_
        rintro e w' ⟨rfl, rfl⟩
        rw [hI]
        clear hI c0
        go_wp2
        go_round
        case rel => exact ⟨t, k + 1, ht8, by omega, by go_num, by go_num, HF⟩
        case measure => simp [intOf]; omega
    · have HF : Hid (MdSays zs i (.returned (.tuple #[.int .i64 (k : Int), .bool (acc s)]))) := HA.out.stop (by rw [drop_none zs k (by rw [hb.len]; omega)]; rfl)
      go_wp2_with fail
      refine (acc_any s hs8 _).mono ?_
      rintro e w' ⟨rfl, rfl⟩
      generalize acc s = q at HF
      go_wp2
      go_ret2
      exact ⟨HF.out, rfl⟩

theorem model_skip (a : Option Addr) (n c : Nat) (zs : List Int) (i : Nat) (w : World) (hb : Buf w a n zs) (hi : i ≤ n) (L : Nat) (q : Bool) (hL : (skipL (zs.drop i)).1 = L) (hq : (skipL (zs.drop i)).2 = q) :
    Calls Try.prog 15 #[.slice a n c, .int .i64 i] w fun e w' => e = .returned (.tuple #[.int .i64 ((i + L : Nat) : Int), .bool q]) ∧ w' = w := by
  refine (model_any a n c zs i w hb hi).mono ?_
  rintro e w' ⟨he, rfl⟩
  have h := run_is (zs.drop i)
  have h1 : (run 0 (zs.drop i)).1 = (skipL (zs.drop i)).1 := congrArg Prod.fst h
  have h2 : acc (run 0 (zs.drop i)).2 = (skipL (zs.drop i)).2 := congrArg Prod.snd h
  unfold MdSays at he
  rw [h1, h2, hL, hq] at he
  exact ⟨he, rfl⟩
end Go.Proofs.Qxb6000679a
