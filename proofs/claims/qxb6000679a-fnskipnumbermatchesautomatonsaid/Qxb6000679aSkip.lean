import Derived.Test.Qxb6000679aNum
import Derived.Deep.CutBlock
namespace Go.Proofs.Qxb6000679a
open Go.RowKit

def msg (ok : Bool) : ByteArray := if ok then ⟨#[]⟩ else ⟨#[97, 32, 100, 105, 103, 105, 116]⟩
def SkSays (zs : List Int) (i : Nat) (e : Ending) : Prop :=
  e = .returned (.tuple #[.int .i64 ((i + (skipL (zs.drop i)).1 : Nat) : Int), .string (msg (skipL (zs.drop i)).2)])

theorem isAt_in (zs : List Int) (p : Nat) (h : p < zs.length) (c : Int) : isAt (zs.drop p) c = (zs.getD p 0 == c) := by rw [drop_cons zs p h]; rfl
theorem isAt_out (zs : List Int) (p : Nat) (h : zs.length ≤ p) (c : Int) : isAt (zs.drop p) c = false := by rw [drop_none zs p h]; rfl
theorem digAt_in (zs : List Int) (p : Nat) (h : p < zs.length) : digAt (zs.drop p) = dig (zs.getD p 0) := by rw [drop_cons zs p h]; rfl
theorem digAt_out (zs : List Int) (p : Nat) (h : zs.length ≤ p) : digAt (zs.drop p) = false := by rw [drop_none zs p h]; rfl

/-- The cell at a position that is there. -/
theorem Buf.cell {w : World} {a : Option Addr} {n : Nat} {zs : List Int} (h : Buf w a n zs) (p : Nat) (hp : p < n) : ∃ b o z, a = some ⟨b, o, none⟩ ∧ w.cell? ⟨b, o + p, none⟩ = some (.int .u8 z) ∧ zs.getD p 0 = z := by
  rcases h.at_ with h0 | ⟨b, o, e, _, hx⟩
  · omega
  · exact ⟨b, o, _, e, hx p hp, rfl⟩

/-- What is still to be read from 'p' on, by 'f', decides the answer. -/
def At (f : List Int → Nat × Bool) (zs : List Int) (i p : Nat) : Prop := i + (skipL (zs.drop i)).1 = p + (f (zs.drop p)).1 ∧ (skipL (zs.drop i)).2 = (f (zs.drop p)).2
theorem at_A (zs : List Int) (i : Nat) : At stBCD zs i (i + stA (zs.drop i)) := by
  unfold At skipL
  rw [List.drop_drop]
  exact ⟨by simp only; omega, rfl⟩
theorem at_B {zs : List Int} {i p : Nat} (h : At stBCD zs i p) (m : Nat) (hB : stB (zs.drop p) = (m, true)) : At stCD zs i (p + m) := by
  unfold At at *
  have e : stBCD (zs.drop p) = (m + (stCD (zs.drop (p + m))).1, (stCD (zs.drop (p + m))).2) := by unfold stBCD; rw [hB]; simp [List.drop_drop]
  rw [e] at h
  exact ⟨by rw [h.1]; simp only; omega, h.2⟩
theorem at_C {zs : List Int} {i p : Nat} (h : At stCD zs i p) (m : Nat) (hB : stC (zs.drop p) = (m, true)) : At stD zs i (p + m) := by
  unfold At at *
  have e : stCD (zs.drop p) = (m + (stD (zs.drop (p + m))).1, (stD (zs.drop (p + m))).2) := by unfold stCD; rw [hB]; simp [List.drop_drop]
  rw [e] at h
  exact ⟨by rw [h.1]; simp only; omega, h.2⟩
theorem end_of {f : List Int → Nat × Bool} {zs : List Int} {i p : Nat} (h : At f zs i p) (m : Nat) (ok : Bool) (hf : f (zs.drop p) = (m, ok)) (q : Int) (hq : q = ((p + m : Nat) : Int)) :
    SkSays zs i (.returned (.tuple #[.int .i64 q, .string (msg ok)])) := by
  unfold At at h
  rw [hf] at h
  unfold SkSays
  rw [h.1, h.2, hq]
theorem no_B {zs : List Int} {p : Nat} (h : stB (zs.drop p) = (0, false)) : stBCD (zs.drop p) = (0, false) := by unfold stBCD; rw [h]; simp
theorem no_C {zs : List Int} {p m : Nat} (h : stC (zs.drop p) = (m, false)) : stCD (zs.drop p) = (m, false) := by unfold stCD; rw [h]; simp

theorem drop_one (zs : List Int) (q m : Nat) : (zs.drop q).drop m = zs.drop (q + m) := by rw [List.drop_drop]
theorem stC_none {zs : List Int} {q : Nat} (h : isAt (zs.drop q) 46 = false) : stC (zs.drop q) = (0, true) := by simp [stC, h]
theorem stC_yes {zs : List Int} {q : Nat} (h : isAt (zs.drop q) 46 = true) (hd : digAt (zs.drop (q + 1)) = true) : stC (zs.drop q) = (1 + cnt (zs.drop (q + 1)), true) := by simp [stC, h, hd]
theorem stC_bad {zs : List Int} {q : Nat} (h : isAt (zs.drop q) 46 = true) (hd : digAt (zs.drop (q + 1)) = false) : stC (zs.drop q) = (1, false) := by simp [stC, h, hd]
theorem stD_none {zs : List Int} {r : Nat} (h : (isAt (zs.drop r) 101 || isAt (zs.drop r) 69) = false) : stD (zs.drop r) = (0, true) := by
  unfold stD; rw [if_neg (by rw [h]; exact Bool.false_ne_true)]
theorem stD_yes {zs : List Int} {r : Nat} (h : (isAt (zs.drop r) 101 || isAt (zs.drop r) 69) = true) (hd : digAt (zs.drop (r + (1 + sgn (zs.drop (r + 1))))) = true) :
    stD (zs.drop r) = (1 + sgn (zs.drop (r + 1)) + cnt (zs.drop (r + (1 + sgn (zs.drop (r + 1))))), true) := by
  unfold stD; rw [if_pos h]; simp only [drop_one]; rw [if_pos hd]
theorem stD_bad {zs : List Int} {r : Nat} (h : (isAt (zs.drop r) 101 || isAt (zs.drop r) 69) = true) (hd : digAt (zs.drop (r + (1 + sgn (zs.drop (r + 1))))) = false) :
    stD (zs.drop r) = (1 + sgn (zs.drop (r + 1)), false) := by
  unfold stD; rw [if_pos h]; simp only [drop_one]; rw [if_neg (by rw [hd]; exact Bool.false_ne_true)]

set_option maxRecDepth 100000 in
set_option maxHeartbeats 4000000 in
theorem skip_walk (b o : Nat) (n c : Nat) (zs : List Int) (i : Nat) (w : World) (hb : Buf w (some ⟨b, o, none⟩) n zs) (hi : i < n) :
    Calls Try.prog 19 #[.slice (some ⟨b, o, none⟩) n c, .int .i64 i] w fun e w' => SkSays zs i e ∧ w' = w := by
  have hsm := hb.small
  have hl := hb.len
  have HB : Hid (Buf w (some ⟨b, o, none⟩) n zs) := hb
  have HX : Hid (∀ p, p < n → w.cell? ⟨b, o + p, none⟩ = some (.int .u8 (zs.getD p 0))) := fun p hp => by
    obtain ⟨b', o', z, e, h1, h2⟩ := hb.cell p hp
    cases e; rw [h2]; exact h1
  clear hb
  obtain ⟨z, hz⟩ : ∃ z, zs.getD i 0 = z := ⟨_, rfl⟩
  have c0 := HX.out i hi
  rw [hz] at c0
  have HA : Hid (isAt (zs.drop i) 45 = (z == 45)) := by rw [isAt_in zs i (by omega), hz]; rfl
  clear hz
  go_enter Try.func19, Try.ntmps19
  go_upto_if 10 with fail
  go_cut [1] (fun x w' => ∃ p : Nat, p ≤ n ∧ x = .int .i64 p ∧ w' = w ∧ Hid (p = i + stA (zs.drop i)))
  case first =>
    cases h : (z == 45)
    · go_wp2
      go_meet
      case rel => exact ⟨i, by omega, rfl, rfl, by simp [Hid, stA, HA.out, h]⟩
    · go_wp2
      go_meet
      case rel => exact ⟨i + 1, by omega, by go_num, rfl, by simp [Hid, stA, HA.out, h]⟩
  case rest =>
  obtain ⟨p, hp, rfl, hw, H1⟩ := hcut
  subst hw
  clear c0 HA
  have HS : Hid (At stBCD zs i p) := by rw [H1.out]; exact at_A zs i
  clear H1
  go_upto_block 0 with fail
  go_cut [1] (fun x w' => ∃ q : Nat, q ≤ n ∧ x = .int .i64 q ∧ w' = wc ∧ Hid (At stCD zs i q))
  case first =>
    go_upto_region 4 with fail
    go_cut [14] (fun x w' => x = .bool (isAt (zs.drop p) 48) ∧ w' = wc)
    case first =>
      by_cases hlt : p < n
      · obtain ⟨z, hz⟩ : ∃ z, zs.getD p 0 = z := ⟨_, rfl⟩
        have c0 := HX.out p hlt
        rw [hz] at c0
        have HA : Hid (isAt (zs.drop p) 48 = (z == 48)) := by rw [isAt_in zs p (by omega), hz]; rfl
        clear hz
        go_wp2
        go_meet
        case rel => exact ⟨by rw [HA.out], rfl⟩
      · have HA : Hid (isAt (zs.drop p) 48 = false) := isAt_out zs p (by omega) 48
        go_wp2
        go_meet
        case rel => exact ⟨by rw [HA.out], rfl⟩
    case rest =>
    obtain ⟨rfl, hw⟩ := hcut
    subst hw
    cases h : isAt (zs.drop p) 48
    · by_cases hlt : p < n
      · obtain ⟨z, hz⟩ : ∃ z, zs.getD p 0 = z := ⟨_, rfl⟩
        have c0 := HX.out p hlt
        rw [hz] at c0
        have HD : Hid (digAt (zs.drop p) = dig z) := by rw [digAt_in zs p (by omega), hz]; rfl
        clear hz
        cases hd : dig z
        · have HE : Hid (stB (zs.drop p) = (0, false)) := by simp [Hid, stB, h, HD.out, hd]
          have HF := end_of HS.out 0 false (no_B HE.out) p rfl
          clear HE
          go_wp2_with fail
          refine (isDigit_any z _).mono ?_
          rintro e w' ⟨rfl, rfl⟩
          rw [hd]
          go_wp2
          go_ret2
          exact ⟨HF, rfl⟩
        · have HE : Hid (stB (zs.drop p) = (cnt (zs.drop p), true)) := by simp [Hid, stB, h, HD.out, hd]
          have HN : Hid (At stCD zs i (p + cnt (zs.drop p))) := at_B HS.out _ HE.out
          have hle := cnt_le (zs.drop p)
          rw [List.length_drop] at hle
          clear HE
          go_wp2_with fail
          refine (isDigit_any z _).mono ?_
          rintro e w' ⟨rfl, rfl⟩
          rw [hd]
          go_wp2_with fail
          refine (digits_any _ n c zs p _ HB.out (by omega)).mono ?_
          rintro e w' ⟨hq, rfl⟩
          unfold DgSays at hq
          subst hq
          go_wp2
          go_meet
          case rel => exact ⟨p + cnt (zs.drop p), by omega, rfl, rfl, HN⟩
      · have HE : Hid (stB (zs.drop p) = (0, false)) := by simp [Hid, stB, h, digAt_out zs p (by omega)]
        have HF := end_of HS.out 0 false (no_B HE.out) p rfl
        clear HE
        go_wp2
        go_ret2
        exact ⟨HF, rfl⟩
    · have hp1 : p < n := by have := isAt_len h; rw [List.length_drop] at this; omega
      have HN : Hid (At stCD zs i (p + 1)) := at_B HS.out 1 (by simp [stB, h])
      go_wp2
      go_meet
      case rel => exact ⟨p + 1, by omega, by go_num, rfl, HN⟩
  case rest =>
  obtain ⟨q, hq, rfl, hw, H2⟩ := hcut
  subst hw
  clear HS hp
  go_upto_region 8 with fail
  go_cut [53] (fun x w' => x = .bool (isAt (zs.drop q) 46) ∧ w' = wc)
  case first =>
    by_cases hlt : q < n
    · obtain ⟨z, hz⟩ : ∃ z, zs.getD q 0 = z := ⟨_, rfl⟩
      have c0 := HX.out q hlt
      rw [hz] at c0
      have HA : Hid (isAt (zs.drop q) 46 = (z == 46)) := by rw [isAt_in zs q (by omega), hz]; rfl
      clear hz
      go_wp2
      go_meet
      case rel => exact ⟨by rw [HA.out], rfl⟩
    · have HA : Hid (isAt (zs.drop q) 46 = false) := isAt_out zs q (by omega) 46
      go_wp2
      go_meet
      case rel => exact ⟨by rw [HA.out], rfl⟩
  case rest =>
  obtain ⟨rfl, hw⟩ := hcut
  subst hw
  go_upto_if 53 with fail
  go_cut [1] (fun x w' => ∃ r : Nat, r ≤ n ∧ x = .int .i64 r ∧ w' = wc ∧ Hid (At stD zs i r))
  case first =>
    cases h : isAt (zs.drop q) 46
    · have HN : Hid (At stD zs i q) := at_C H2.out 0 (stC_none h)
      go_wp2
      go_meet
      case rel => exact ⟨q, hq, rfl, rfl, HN⟩
    · have hq1 : q < n := by have := isAt_len h; rw [List.length_drop] at this; omega
      by_cases he : q + 1 = n
      · have he' : ((q : Int) + 1 == (n : Int)) = true := by simp; omega
        have HF := end_of H2.out 1 false (no_C (stC_bad h (digAt_out zs (q + 1) (by omega)))) ((q : Int) + 1) (by omega)
        clear he
        go_wp2
        go_ret2
        exact ⟨HF, rfl⟩
      · have he' : ((q : Int) + 1 == (n : Int)) = false := by simp; omega
        have hlt : q + 1 < n := by omega
        obtain ⟨z, hz⟩ : ∃ z, zs.getD (q + 1) 0 = z := ⟨_, rfl⟩
        have c0 := HX.out (q + 1) hlt
        rw [hz] at c0
        have HD : Hid (digAt (zs.drop (q + 1)) = dig z) := by rw [digAt_in zs (q + 1) (by omega), hz]; rfl
        clear hz he
        cases hd : dig z
        · have HF := end_of H2.out 1 false (no_C (stC_bad h (by rw [HD.out]; exact hd))) ((q : Int) + 1) (by omega)
          go_wp2_with fail
          refine (isDigit_any z _).mono ?_
          rintro e w' ⟨rfl, rfl⟩
          rw [hd]
          go_wp2
          go_ret2
          exact ⟨HF, rfl⟩
        · have HN : Hid (At stD zs i (q + (1 + cnt (zs.drop (q + 1))))) := at_C H2.out _ (stC_yes h (by rw [HD.out]; exact hd))
          have hle := cnt_le (zs.drop (q + 1))
          rw [List.length_drop] at hle
          go_wp2_with fail
          refine (isDigit_any z _).mono ?_
          rintro e w' ⟨rfl, rfl⟩
          rw [hd]
          go_wp2_with fail
          rw [show ((q : Int) + 1) = ((q + 1 : Nat) : Int) by omega]
          refine (digits_any _ n c zs (q + 1) _ HB.out (by omega)).mono ?_
          rintro e w' ⟨hq', rfl⟩
          unfold DgSays at hq'
          subst hq'
          go_wp2
          go_meet
          case rel => exact ⟨q + (1 + cnt (zs.drop (q + 1))), by omega, by go_num, rfl, HN⟩
  case rest =>
  obtain ⟨r, hr, rfl, hw, H3⟩ := hcut
  subst hw
  clear H2 hq
  go_upto_region 13 with fail
  go_cut [89] (fun x w' => x = .bool (isAt (zs.drop r) 101 || isAt (zs.drop r) 69) ∧ w' = wc)
  case first =>
    by_cases hlt : r < n
    · obtain ⟨z, hz⟩ : ∃ z, zs.getD r 0 = z := ⟨_, rfl⟩
      have c0 := HX.out r hlt
      rw [hz] at c0
      have HA : Hid ((isAt (zs.drop r) 101 || isAt (zs.drop r) 69) = ((z == 101) || (z == 69))) := by rw [isAt_in zs r (by omega), isAt_in zs r (by omega), hz]; rfl
      clear hz
      cases h1 : (z == 101)
      · go_wp2
        go_meet
        case rel => exact ⟨by rw [HA.out, h1]; rfl, rfl⟩
      · go_wp2
        go_meet
        case rel => exact ⟨by rw [HA.out, h1]; rfl, rfl⟩
    · have HA : Hid ((isAt (zs.drop r) 101 || isAt (zs.drop r) 69) = false) := by rw [isAt_out zs r (by omega), isAt_out zs r (by omega)]; rfl
      go_wp2
      go_meet
      case rel => exact ⟨by rw [HA.out], rfl⟩
  case rest =>
  obtain ⟨rfl, hw⟩ := hcut
  subst hw
  obtain ⟨ex, hex⟩ : ∃ ex, (isAt (zs.drop r) 101 || isAt (zs.drop r) 69) = ex := ⟨_, rfl⟩
  rw [hex]
  cases ex
  · have HF := end_of H3.out 0 true (stD_none hex) r rfl
    clear hex
    go_wp2
    go_ret2
    exact ⟨HF, rfl⟩
  have hr1 : r < n := by
    rcases Bool.or_eq_true _ _ ▸ hex with h | h <;> (have := isAt_len h; rw [List.length_drop] at this; omega)
  have HE : Hid ((isAt (zs.drop r) 101 || isAt (zs.drop r) 69) = true) := hex
  clear hex
  go_upto_region 15 with fail
  go_cut [109] (fun x w' => x = .bool (isAt (zs.drop (r + 1)) 43 || isAt (zs.drop (r + 1)) 45) ∧ w' = wc)
  case first =>
    by_cases hlt : r + 1 < n
    · obtain ⟨z, hz⟩ : ∃ z, zs.getD (r + 1) 0 = z := ⟨_, rfl⟩
      have c0 := HX.out (r + 1) hlt
      rw [hz] at c0
      have HA : Hid ((isAt (zs.drop (r + 1)) 43 || isAt (zs.drop (r + 1)) 45) = ((z == 43) || (z == 45))) := by rw [isAt_in zs (r + 1) (by omega), isAt_in zs (r + 1) (by omega), hz]; rfl
      clear hz
      cases h1 : (z == 43)
      · go_wp2
        go_meet
        case rel => exact ⟨by rw [HA.out, h1]; rfl, rfl⟩
      · go_wp2
        go_meet
        case rel => exact ⟨by rw [HA.out, h1]; rfl, rfl⟩
    · have HA : Hid ((isAt (zs.drop (r + 1)) 43 || isAt (zs.drop (r + 1)) 45) = false) := by rw [isAt_out zs (r + 1) (by omega), isAt_out zs (r + 1) (by omega)]; rfl
      go_wp2
      go_meet
      case rel => exact ⟨by rw [HA.out], rfl⟩
  case rest =>
  obtain ⟨rfl, hw⟩ := hcut
  subst hw
  go_upto_if 109 with fail
  go_cut [1] (fun x w' => ∃ v : Nat, v ≤ n ∧ x = .int .i64 v ∧ w' = wc ∧ Hid (v = r + (1 + sgn (zs.drop (r + 1)))))
  case first =>
    obtain ⟨ex, hex⟩ : ∃ ex, (isAt (zs.drop (r + 1)) 43 || isAt (zs.drop (r + 1)) 45) = ex := ⟨_, rfl⟩
    rw [hex]
    cases ex
    · have HV : Hid (r + 1 = r + (1 + sgn (zs.drop (r + 1)))) := by simp [Hid, sgn, hex]
      clear hex
      go_wp2
      go_meet
      case rel => exact ⟨r + 1, by omega, by go_num, rfl, HV⟩
    · have hr2 : r + 1 < n := by
        rcases Bool.or_eq_true _ _ ▸ hex with h | h <;> (have := isAt_len h; rw [List.length_drop] at this; omega)
      have HV : Hid (r + 2 = r + (1 + sgn (zs.drop (r + 1)))) := by simp [Hid, sgn, hex]
      clear hex
      go_wp2
      go_meet
      case rel => exact ⟨r + 2, by omega, by go_num, rfl, HV⟩
  case rest =>
  obtain ⟨v, hv, rfl, hw, HV⟩ := hcut
  subst hw
  by_cases he : v = n
  · have he' : ((v : Int) == (n : Int)) = true := by simp; omega
    have HF := end_of H3.out _ false (stD_bad HE.out (by rw [← HV.out]; exact digAt_out zs v (by omega))) (v : Int) (by rw [HV.out])
    clear he
    go_wp2
    go_ret2
    exact ⟨HF, rfl⟩
  · have he' : ((v : Int) == (n : Int)) = false := by simp; omega
    have hlt : v < n := by omega
    obtain ⟨z, hz⟩ : ∃ z, zs.getD v 0 = z := ⟨_, rfl⟩
    have c0 := HX.out v hlt
    rw [hz] at c0
    have HD : Hid (digAt (zs.drop v) = dig z) := by rw [digAt_in zs v (by omega), hz]; rfl
    clear hz he
    cases hd : dig z
    · have HF := end_of H3.out _ false (stD_bad HE.out (by rw [← HV.out, HD.out]; exact hd)) (v : Int) (by rw [HV.out])
      go_wp2_with fail
      refine (isDigit_any z _).mono ?_
      rintro e w' ⟨rfl, rfl⟩
      rw [hd]
      go_wp2
      go_ret2
      exact ⟨HF, rfl⟩
    · have HF := end_of H3.out _ true (stD_yes HE.out (by rw [← HV.out, HD.out]; exact hd)) ((v + cnt (zs.drop v) : Nat) : Int) (by rw [← HV.out]; have := HV.out; omega)
      go_wp2_with fail
      refine (isDigit_any z _).mono ?_
      rintro e w' ⟨rfl, rfl⟩
      rw [hd]
      go_wp2_with fail
      refine (digits_any _ n c zs v _ HB.out (by omega)).mono ?_
      rintro e w' ⟨hq', rfl⟩
      unfold DgSays at hq'
      subst hq'
      go_wp2
      go_ret2
      exact ⟨HF, rfl⟩
end Go.Proofs.Qxb6000679a
