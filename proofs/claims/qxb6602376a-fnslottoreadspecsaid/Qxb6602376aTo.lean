import Derived.Test.Qxb6602376aSize
import Derived.Deep.RegionHeld3
namespace Go.Proofs.Qxb6602376a
open Go.RowKit

/-- What 'toBanks' hands back: a table of the same banks; nil for nil. -/
def TbSays (B : Nat) (ba : Option Addr) (bl : Nat) (bs : List Bk) (e : Ending) (w' : World) : Prop :=
  ∃ ba' bk', e = .returned (.slice ba' bl bk') ∧ (ba'.isNone = ba.isNone ∧ (ba' = none → bl = 0 ∧ bk' = 0)) ∧ Tab w' ba' bl bs ∧ ∀ x, ba' = some x → B ≤ x.block

theorem eqNil24 (a : Option Addr) (n c : Nat) (w : World) : (binOp .eql 24 (.slice a n c) (.slice none 0 0)).run Try.prog w = .ok (.bool a.isNone) w :=
  Lib.run_eql_slice_nil w 24 41 a n c 0 0 Try.underlying24
theorem eqNil30 (a : Option Addr) (n c : Nat) (w : World) : (binOp .eql 30 (.slice a n c) (.slice none 0 0)).run Try.prog w = .ok (.bool a.isNone) w :=
  Lib.run_eql_slice_nil w 30 43 a n c 0 0 Try.underlying30

theorem inf43 : (Try.prog.info? 43).map (fun i => (i.zero, i.size, i.bytes)) = some (some (.agg #[.int .u32 0, .int .u64 0, .int .u32 0, .bool false]), 4, 24) := by kernel_rfl

theorem make_any (n : Nat) (hn : n ≤ 1048576) (w : World) :
    (Instr.makeSlice 30 (.int .i64 n) (.int .i64 n)).run Try.prog w = .ok (.slice (some ⟨w.heap.size, 0, none⟩) n n) (w.alloc (.cells (madeCells bk0.cs (n * 4)) 43)) := by
  have h := inf43
  cases hq : Try.prog.info? 43 with
  | none => simp [hq] at h
  | some i =>
    simp only [hq, Option.map_some, Option.some.injEq, Prod.mk.injEq] at h
    have := run_make (P := Try.prog) w 30 43 i _ Try.underlying30 hq h.1 .i64 .i64 n n (by omega) (by omega) (by rw [h.2.2]; omega) (by omega)
    rw [h.2.1] at this
    simpa [Value.cells, bk0, Bk.cs] using this

theorem madeCells_get (z : Array Value) (n i : Nat) (h : i < n) : ∃ v, (madeCells z n)[i]? = some v := by
  refine ⟨_, Array.getElem?_eq_getElem (by rw [size_madeCells]; exact h)⟩

/-- The block 'g' is being filled: its first 'k' banks are 'bs's; 'n' banks have room. -/
structure Fill (w : World) (g k n : Nat) (bs : List Bk) : Prop where
  lt : g < w.heap.size
  done : ∀ i, i < k → BankAt w g (i * 4) (bs.getD i bk0)
  room : w.there g 0 (n * 4)

theorem BankAt.range {w : World} {g o : Nat} {b : Bk} (h : BankAt w g o b) : w.rangeAt g o b.cs.toList := fun j v hv => by
  have hj : j < 4 := (List.getElem?_eq_some_iff.1 hv).1
  match j, hj with
  | 0, _ => rw [← hv]; exact h.c0
  | 1, _ => rw [← hv]; exact h.c1
  | 2, _ => rw [← hv]; exact h.c2
  | 3, _ => rw [← hv]; exact h.c3
theorem BankAt.of_range {w : World} {g o : Nat} {b : Bk} (h : w.rangeAt g o b.cs.toList) : BankAt w g o b :=
  ⟨h 0 _ rfl, h 1 _ rfl, h 2 _ rfl, h 3 _ rfl⟩

theorem Bk.cs_one (b : Bk) : b.cs.all (·.oneCell') = true := by simp [Bk.cs, Value.oneCell']
theorem Sl.cs_one (s : Sl) : s.cs.all (·.oneCell') = true := by simp [Sl.cs, Value.oneCell']
theorem Below.setCells {B : Nat} {a : World} (g : Nat) (hg : B ≤ g) : ∀ (vs : List Value) (o : Nat) (w : World), Below B a w → Below B a (w.setCells g o vs)
  | [], _, _, h => h
  | v :: r, o, _, h => Below.setCells g hg r (o + 1) _ (h.setCell (p := ⟨g, o, none⟩) hg v)
theorem size_setCells (g : Nat) : ∀ (vs : List Value) (o : Nat) (w : World), (w.setCells g o vs).heap.size = w.heap.size
  | [], _, _ => rfl
  | v :: r, o, w => by rw [World.setCells, size_setCells g r]; simp [World.setCell]

theorem Tab.setCells {w : World} {ba : Option Addr} {bl : Nat} {bs : List Bk} (h : Tab w ba bl bs) {g : Nat} (hg : ∀ x, ba = some x → x.block ≠ g) (o : Nat) (vs : List Value) : Tab (w.setCells g o vs) ba bl bs :=
  ⟨h.len, by
    rcases h.at_ with h0 | ⟨g', o', e, hl, hx⟩
    · exact .inl h0
    · exact .inr ⟨g', o', e, by rw [size_setCells]; exact hl, fun i hi => .of_range (World.rangeAt_setCells_apart (hx i hi).range _ _ _ (.inl (hg _ e)))⟩⟩

theorem Fill.start (w : World) (n : Nat) (bs : List Bk) : Fill (w.alloc (.cells (madeCells bk0.cs (n * 4)) 43)) w.heap.size 0 n bs := by
  refine ⟨by simp, by omega, fun j hj => ?_⟩
  obtain ⟨v, hv⟩ := madeCells_get bk0.cs (n * 4) j hj
  have hh := heap_alloc_new w (.cells (madeCells bk0.cs (n * 4)) 43)
  refine ⟨?_, frozen_of_row _ _ _ _ _ hh⟩
  rw [cell_of_row _ _ _ _ _ _ hh, Nat.zero_add, hv]; rfl

theorem Fill.room4 {w : World} {g k n : Nat} {bs : List Bk} (F : Fill w g k n bs) (hk : k < n) (o : Obj) : (w.alloc o).there g (k * 4) 4 := by
  refine World.there_alloc (fun j hj => ?_) o
  have := F.room (k * 4 + j) (by omega)
  rwa [Nat.zero_add] at this

theorem Fill.step {w : World} {g k n : Nat} {bs : List Bk} (F : Fill w g k n bs) (hk : k < n) (o : Obj) (b : Bk) (hb : bs.getD k bk0 = b) :
    Fill ((w.alloc o).setCells g (k * 4) b.cs.toList) g (k + 1) n bs := by
  refine ⟨?_, fun i hi => ?_, World.there_setCells (World.there_alloc F.room o) _ _ _⟩
  · rw [size_setCells]; have := F.lt; simp; omega
  · by_cases e : i = k
    · subst e
      rw [hb]
      exact .of_range (World.rangeAt_setCells_same _ _ _ _ (F.room4 hk o))
    · refine .of_range (World.rangeAt_setCells_apart (World.rangeAt_alloc (F.done i (by omega)).range o) _ _ _ (.inr (.inl ?_)))
      show i * 4 + 4 ≤ k * 4
      omega

theorem Fill.tab {w : World} {g n : Nat} {bs : List Bk} (F : Fill w g n n bs) (hl : bs.length = n) : Tab w (some ⟨g, 0, none⟩) n bs :=
  ⟨hl, .inr ⟨g, 0, rfl, F.lt, fun i hi => by rw [Nat.zero_add]; exact F.done i hi⟩⟩

set_option maxHeartbeats 1000000 in
theorem toBanks_some (a : Addr) (bl bk : Nat) (bs : List Bk) (w : World) (ht : Tab w (some a) bl bs) (hl : bl ≤ 1048576) :
    Calls Try.prog 27 #[.slice (some a) bl bk] w fun e w' => TbSays w.heap.size (some a) bl bs e w' ∧ Below w.heap.size w w' := by
  have hnil := eqNil24
  have hmk := make_any bl hl
  go_enter Try.func27, Try.ntmps27
  go_wp2
  go_loopw [4] (fun i wr => ∃ k : Nat, k ≤ bl ∧ i = .int .i64 k ∧ Fill wr w.heap.size k bl bs ∧ Hid (Below w.heap.size w wr)) (fun i _ => bl - (intOf i).toNat)
  case atStart => exact ⟨0, Nat.zero_le _, rfl, Fill.start _ _ _, (Below.refl _ _).alloc (Nat.le_refl _) _⟩
  case round =>
    obtain ⟨k, hk, rfl, F, HB⟩ := hrel
    by_cases hlt : k < bl
    · rcases (ht.below HB.out).at_ with h0 | ⟨g, o, hba, hg, hx⟩
      · omega
      obtain ⟨b, hbk⟩ : ∃ b, bs.getD k bk0 = b := ⟨_, rfl⟩
      obtain ⟨c0, c1, c2, c3⟩ := hx k hlt
      rw [hbk] at c0 c1 c2 c3
      have HK : Hid (bs.getD k bk0 = b) := hbk
      obtain rfl : a = ⟨g, o, none⟩ := by simpa using hba
      clear hbk hx hba
      have hth : (wr.alloc (.cells #[.int .u32 b.crc, .int .u64 b.off, .int .u32 b.sz, .bool b.ok] 41)).there w.heap.size (k * 4) b.cs.size := F.room4 hlt _
      have hi43 : (Try.prog.info? 43).map (·.size) = some b.cs.size := info43
      go_wp2_with (refine store_in 43 _ _ rfl rfl w.heap.size (k * 4) b.cs rfl rfl ?_ ?_ ?_ ?_; exact hth; exact hi43; exact b.cs_one)
      go_roundw
      case rel => exact ⟨k + 1, by omega, by go_num, F.step hlt (.cells b.cs 41) b HK.out, Below.setCells _ (Nat.le_refl _) _ _ _ (HB.out.alloc HB.out.size _)⟩
      case measure => simp [intOf]; omega
    · have hkk : k = bl := by omega
      subst hkk
      go_wp2
      go_ret
      exact ⟨⟨_, _, rfl, ⟨rfl, fun h => by cases h⟩, F.tab ht.len, fun x hx => by cases hx; exact Nat.le_refl _⟩, HB.out⟩

set_option maxHeartbeats 1000000 in
theorem toBanks_none (bs : List Bk) (w : World) (ht : Tab w none 0 bs) :
    Calls Try.prog 27 #[.slice none 0 0] w fun e w' => TbSays w.heap.size none 0 bs e w' ∧ Below w.heap.size w w' := by
  have hnil := eqNil24
  go_enter Try.func27, Try.ntmps27
  go_wp2
  go_ret
  exact ⟨⟨_, _, rfl, ⟨rfl, fun _ => ⟨rfl, rfl⟩⟩, ht, fun x hx => by cases hx⟩, Below.refl _ _⟩
end Go.Proofs.Qxb6602376a
