import Derived.Test.Qxb6000679aRows
import Derived.WalkKit
import Derived.WalkSpells
import Derived.WalkLawsBesides
namespace Go.Proofs.Qxb6000679a
open Go.RowKit

/-- The bytes that a slice of address 'a' and length 'n' leads to. -/
structure Buf (w : World) (a : Option Addr) (n : Nat) (zs : List Int) : Prop where
  len : zs.length = n
  small : n ≤ 1048576
  at_ : n = 0 ∨ ∃ b o, a = some ⟨b, o, none⟩ ∧ b < w.heap.size ∧ ∀ i, i < n → w.cell? ⟨b, o + i, none⟩ = some (.int .u8 (zs.getD i 0))

theorem Buf.below {w w' : World} {a : Option Addr} {n : Nat} {zs : List Int} (h : Buf w a n zs) (hb : Below w.heap.size w w') : Buf w' a n zs :=
  ⟨h.len, h.small, by
    rcases h.at_ with h0 | ⟨b, o, e, hl, hx⟩
    · exact .inl h0
    · exact .inr ⟨b, o, e, Nat.lt_of_lt_of_le hl hb.size, fun i hi => (hb.cell (p := ⟨b, o + i, none⟩) hl).trans (hx i hi)⟩⟩

theorem ret_bool {a b : Bool} (h : a = b) : Ending.returned (.bool a) = .returned (.bool b) := by rw [h]
theorem ret_int {k : IntKind} {a b : Int} (h : a = b) : Ending.returned (.int k a) = .returned (.int k b) := by rw [h]

/-! ### 'zzBytes': some bool -/
set_option maxHeartbeats 400000 in
theorem bytes8_any (a : Option Addr) (n c : Nat) (i : Int) (w : World) :
    Calls Try.prog 8 #[.slice a n c, .int .i64 i] w fun e w' => (∃ b, e = .returned (.bool b)) ∧ w' = w := by
  go_enter Try.func8, Try.ntmps8
  go_wp2
  all_goals go_ret
  all_goals exact ⟨⟨_, rfl⟩, rfl⟩
set_option maxHeartbeats 400000 in
theorem bytes13_any (a : Option Addr) (n c : Nat) (i : Int) (w : World) :
    Calls Try.prog 13 #[.slice a n c, .int .i64 i] w fun e w' => (∃ b, e = .returned (.bool b)) ∧ w' = w := by
  go_enter Try.func13, Try.ntmps13
  go_wp2
  all_goals go_ret
  all_goals exact ⟨⟨_, rfl⟩, rfl⟩
set_option maxHeartbeats 400000 in
theorem bytes16_any (a : Option Addr) (n c : Nat) (i : Int) (w : World) :
    Calls Try.prog 16 #[.slice a n c, .int .i64 i] w fun e w' => (∃ b, e = .returned (.bool b)) ∧ w' = w := by
  go_enter Try.func16, Try.ntmps16
  go_wp2
  all_goals go_ret
  all_goals exact ⟨⟨_, rfl⟩, rfl⟩
set_option maxHeartbeats 400000 in
theorem bytes17_any (a : Option Addr) (n c : Nat) (i : Int) (w : World) :
    Calls Try.prog 17 #[.slice a n c, .int .i64 i] w fun e w' => (∃ b, e = .returned (.bool b)) ∧ w' = w := by
  go_enter Try.func17, Try.ntmps17
  go_wp2
  all_goals go_ret
  all_goals exact ⟨⟨_, rfl⟩, rfl⟩

/-! ### 'zzb1CloneBytes': the same bytes, in a block of its own -/
def ClSays (B : Nat) (n : Nat) (zs : List Int) (e : Ending) (w' : World) : Prop :=
  ∃ a' c', e = .returned (.slice a' n c') ∧ Buf w' a' n zs ∧ n ≤ c' ∧ (∀ x, a' = some x → ∃ b, x = ⟨b, 0, none⟩ ∧ B ≤ b) ∧ (a' = none → c' = 0)

theorem eqNil22 (a : Option Addr) (n c : Nat) (w : World) : (binOp .eql 22 (.slice a n c) (.slice none 0 0)).run Try.prog w = .ok (.bool a.isNone) w :=
  Lib.run_eql_slice_nil w 22 5 a n c 0 0 Try.underlying22

theorem inf5 : (Try.prog.info? 5).map (fun i => (i.zero, i.size, i.bytes)) = some (some (.int .u8 0), 1, 1) := by kernel_rfl

theorem make_any (n : Nat) (hn : n ≤ 1048576) (w : World) :
    (Instr.makeSlice 22 (.int .i64 n) (.int .i64 n)).run Try.prog w = .ok (.slice (some ⟨w.heap.size, 0, none⟩) n n) (w.alloc (.cells (madeCells #[.int .u8 0] n) 5)) := by
  have h := inf5
  cases hq : Try.prog.info? 5 with
  | none => simp [hq] at h
  | some i =>
    simp only [hq, Option.map_some, Option.some.injEq, Prod.mk.injEq] at h
    have := run_make (P := Try.prog) w 22 5 i _ Try.underlying22 hq h.1 .i64 .i64 n n (by omega) (by omega) (by rw [h.2.2]; omega) (by omega)
    rw [h.2.1] at this
    simpa [Value.cells] using this

theorem getD_lt {α : Type} (l : List α) (d : α) (k : Nat) (h : k < l.length) : l.getD k d = l[k] := by
  simp [List.getD, h]

/-- The block 'g' is being filled: its first 'k' cells are the bytes; 'n' cells have room. -/
structure Fill (w : World) (g k n : Nat) (zs : List Int) : Prop where
  lt : g < w.heap.size
  done : ∀ i, i < k → w.cell? ⟨g, i, none⟩ = some (.int .u8 (zs.getD i 0))
  there : ∀ i, i < n → ∃ v, w.cell? ⟨g, i, none⟩ = some v
  free : ∀ i, w.frozen? ⟨g, i, none⟩ = false

theorem Fill.start (w : World) (n : Nat) (zs : List Int) : Fill (w.alloc (.cells (madeCells #[.int .u8 0] n) 5)) w.heap.size 0 n zs := by
  have hh := heap_alloc_new w (.cells (madeCells #[.int .u8 0] n) 5)
  refine ⟨by simp, by omega, fun i hi => ?_, fun i => frozen_of_row _ _ _ _ _ hh⟩
  rw [cell_of_row _ _ _ _ _ _ hh]
  exact ⟨_, Array.getElem?_eq_getElem (by rw [size_madeCells]; exact hi)⟩

theorem Fill.step {w : World} {g k n : Nat} {zs : List Int} (F : Fill w g k n zs) (hk : k < n) (z : Int) (hz : zs.getD k 0 = z) :
    Fill (w.setCell ⟨g, k, none⟩ (.int .u8 z)) g (k + 1) n zs := by
  obtain ⟨v, hv⟩ := F.there k hk
  have same := World.cell?_setCell_same w ⟨g, k, none⟩ (.int .u8 z) hv
  have other : ∀ i, i ≠ k → (w.setCell ⟨g, k, none⟩ (.int .u8 z)).cell? ⟨g, i, none⟩ = w.cell? ⟨g, i, none⟩ := fun i hi =>
    World.cell?_setCell_other w ⟨g, k, none⟩ ⟨g, i, none⟩ _ (by intro e; cases e; exact hi rfl)
  refine ⟨by simpa [World.setCell] using F.lt, fun i hi => ?_, fun i hi => ?_, fun i => by rw [World.frozen?_setCell]; exact F.free i⟩
  · by_cases e : i = k
    · subst e; rw [same, hz]
    · rw [other i e]; exact F.done i (by omega)
  · by_cases e : i = k
    · subst e; exact ⟨_, same⟩
    · rw [other i e]; exact F.there i hi

set_option maxHeartbeats 400000 in
theorem clone_some (x : Addr) (n c : Nat) (zs : List Int) (w : World) (hb : Buf w (some x) n zs) :
    Calls Try.prog 9 #[.slice (some x) n c] w fun e w' => ClSays w.heap.size n zs e w' ∧ Below w.heap.size w w' := by
  have hnil := eqNil22
  have hsm := hb.small
  have hmk := make_any n hsm
  go_enter Try.func9, Try.ntmps9
  go_wp2
  go_loopw [4] (fun i wr => ∃ k : Nat, k ≤ n ∧ i = .int .i64 k ∧ Fill wr w.heap.size k n zs ∧ Hid (Below w.heap.size w wr)) (fun i _ => n - (intOf i).toNat)
  case atStart => exact ⟨0, Nat.zero_le _, rfl, Fill.start _ _ _, (Below.refl _ _).alloc (Nat.le_refl _) _⟩
  case round =>
    obtain ⟨k, hk, rfl, F, HB⟩ := hrel
    by_cases hlt : k < n
    · rcases (hb.below HB.out).at_ with h0 | ⟨b, o, hba, hg, hx⟩
      · omega
      obtain ⟨z, hz⟩ : ∃ z, zs.getD k 0 = z := ⟨_, rfl⟩
      have c0 := hx k hlt
      rw [hz] at c0
      have HK : Hid (zs.getD k 0 = z) := hz
      obtain rfl : x = ⟨b, o, none⟩ := by simpa using hba
      obtain ⟨v, hv⟩ := F.there k hlt
      have hf := F.free k
      clear hz hx hba
      go_wp2
      go_roundw
      case rel => exact ⟨k + 1, by omega, by go_num, F.step hlt z HK.out, HB.out.setCell (Nat.le_refl _) _⟩
      case measure => simp [intOf]; omega
    · have hkk : k = n := by omega
      subst hkk
      go_wp2
      go_ret
      exact ⟨⟨_, _, rfl, ⟨hb.len, hsm, .inr ⟨_, 0, rfl, F.lt, fun i hi => by rw [Nat.zero_add]; exact F.done i hi⟩⟩, Nat.le_refl _, fun y hy => ⟨_, (by simpa using hy.symm), Nat.le_refl _⟩, fun h => by cases h⟩, HB.out⟩

set_option maxHeartbeats 400000 in
theorem clone_none (zs : List Int) (w : World) (hb : Buf w none 0 zs) :
    Calls Try.prog 9 #[.slice none 0 0] w fun e w' => ClSays w.heap.size 0 zs e w' ∧ Below w.heap.size w w' := by
  have hnil := eqNil22
  go_enter Try.func9, Try.ntmps9
  go_wp2
  go_ret
  exact ⟨⟨_, _, rfl, hb, Nat.le_refl _, fun x hx => (by cases hx), fun _ => rfl⟩, Below.refl _ _⟩
end Go.Proofs.Qxb6000679a
