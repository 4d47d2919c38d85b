import Derived.Test.Qxb6602376aBox
namespace Go.Proofs.Qxb6602376a
open Go.RowKit

def newer (s t : Sl) : Bool := decide (s.ver < t.ver)
def first (s t : Sl) : Int := if newer s t then 1 else 0
def second (s t : Sl) : Int := if newer s t then 0 else 1

set_option maxHeartbeats 400000 in
theorem newest_any (s t : Sl) (w : World) :
    Calls Try.prog 25 #[.agg (prCs s t)] w fun e w' => e = .returned (.agg #[.int .i64 (first s t), .int .i64 (second s t)]) ∧ Below w.heap.size w w' := by
  unfold prCs
  by_cases h : s.ver < t.ver
  · go_enter Try.func25, Try.ntmps25
    go_wp2
    refine bodyPost_ret (v := .agg #[.int .i64 1, .int .i64 0]) (by simp [results, Try.results25, go_sem]) rfl ⟨by simp [first, second, newer, h], ?_⟩
    exact ((Below.refl _ _).alloc (Nat.le_refl _) _).alloc (by simp) _
  · go_enter Try.func25, Try.ntmps25
    go_wp2
    refine bodyPost_ret (v := .agg #[.int .i64 0, .int .i64 1]) (by simp [results, Try.results25, go_sem]) rfl ⟨by simp [first, second, newer, h], ?_⟩
    exact ((Below.refl _ _).alloc (Nat.le_refl _) _).alloc (by simp) _

theorem idx0 (x y : Value) (w : World) : (Instr.index 46 (.agg #[x, y]) (.int .i64 0)).run Try.prog w = .ok x w := by kernel_rfl
theorem idx1 (x y : Value) (w : World) : (Instr.index 46 (.agg #[x, y]) (.int .i64 1)).run Try.prog w = .ok y w := by kernel_rfl

def act (s t : Sl) (bs bt : List Bk) : Int :=
  if newer s t then (if t.whl bt then 1 else if s.whl bs then 0 else -1) else (if s.whl bs then 0 else if t.whl bt then 1 else -1)

theorem newer_yes {s t : Sl} (h : newer s t = true) : first s t = 1 ∧ second s t = 0 := by simp [first, second, h]
theorem newer_no {s t : Sl} (h : newer s t = false) : first s t = 0 ∧ second s t = 1 := by simp [first, second, h]


set_option maxHeartbeats 1000000 in
theorem active_any (s t : Sl) (bs bt : List Bk) (w : World) (hs : Tab w s.ba s.bl bs) (ht : Tab w t.ba t.bl bt) (hsl : s.bl ≤ 1048576) (htl : t.bl ≤ 1048576) :
    Calls Try.prog 10 #[.agg (prCs s t)] w fun e w' => e = .returned (.int .i64 (act s t bs bt)) ∧ Below w.heap.size w w' := by
  have hi0 := idx0
  have hi1 := idx1
  have B0 := BoxAt.new w (prCs s t) 34
  go_enter Try.func10, Try.ntmps10
  go_wp2_with (refine load_in 34 _ rfl rfl w.heap.size 0 rfl (prCs s t) _ B0.range Try.underlying34 rfl info34 ?_)
  refine (newest_any s t _).mono ?_
  rintro e w1 ⟨rfl, hb1⟩
  have HB : Hid (Below w.heap.size w w1) := ((Below.refl _ _).alloc (Nat.le_refl _) _).trans (hb1.mono (by simp))
  have hz : w.heap.size < w1.heap.size := by have := hb1.size; simp at this; omega
  have HS : Hid (Tab w1 s.ba s.bl bs) := hs.below HB.out
  have HT : Hid (Tab w1 t.ba t.bl bt) := ht.below HB.out
  have B1 : BoxAt w1 w.heap.size (prCs s t) := B0.below hb1 (by simp)
  clear hb1 B0
  cases hn : newer s t
  · rw [(newer_no hn).1, (newer_no hn).2]
    go_wp2_with fail
    go_loopw [7] (fun i wr => ∃ k : Nat, k ≤ 2 ∧ i = .int .i64 k ∧ (1 ≤ k → s.whl bs = false) ∧ (2 ≤ k → t.whl bt = false) ∧ Hid (Below w1.heap.size w1 wr)) (fun i _ => 2 - (intOf i).toNat)
    case atStart => exact ⟨0, by omega, rfl, by omega, by omega, Below.refl _ _⟩
    case round =>
      obtain ⟨k, hk, rfl, h1, h2, HB2⟩ := hrel
      have BX := B1.below HB2.out hz
      by_cases k0 : k = 0
      · subst k0
        clear h1 h2
        go_wp2_with (refine load_in 32 _ rfl rfl w.heap.size 0 rfl s.cs _ (BX.mid 0 s.cs (prCs_fst s t)) Try.underlying32 rfl info32 ?_)
        refine (whole_any s bs _ (HS.out.below HB2.out) hsl).mono ?_
        rintro e w2 ⟨rfl, hb2⟩
        have HBn : Hid (Below w1.heap.size w1 w2) := HB2.out.trans (hb2.mono HB2.out.size)
        have HBw : Hid (Below w.heap.size w w2) := HB.out.trans (HBn.out.mono (by omega))
        clear hb2
        cases hw : s.whl bs
        · go_wp2_with fail
          go_roundw
          case rel => exact ⟨1, by omega, by go_num, fun _ => hw, by omega, HBn⟩
          case measure => simp [intOf]
        · go_wp2_with fail
          go_ret
          exact ⟨ret_int (by simp [act, hn, hw]), HBw.out⟩
      by_cases k1 : k = 1
      · subst k1
        clear h2
        go_wp2_with (refine load_in 32 _ rfl rfl w.heap.size 12 rfl t.cs _ (BX.mid 12 t.cs (prCs_snd s t)) Try.underlying32 rfl info32 ?_)
        refine (whole_any t bt _ (HT.out.below HB2.out) htl).mono ?_
        rintro e w2 ⟨rfl, hb2⟩
        have HBn : Hid (Below w1.heap.size w1 w2) := HB2.out.trans (hb2.mono HB2.out.size)
        have HBw : Hid (Below w.heap.size w w2) := HB.out.trans (HBn.out.mono (by omega))
        clear hb2
        cases hw : t.whl bt
        · go_wp2_with fail
          go_roundw
          case rel => exact ⟨2, by omega, by go_num, fun _ => h1 (by omega), fun _ => hw, HBn⟩
          case measure => simp [intOf]
        · go_wp2_with fail
          go_ret
          exact ⟨ret_int (by simp [act, hn, hw, h1 (by omega)]), HBw.out⟩
      have k2 : k = 2 := by omega
      subst k2
      go_wp2_with fail
      go_ret
      exact ⟨ret_int (by simp [act, hn, h1 (by omega), h2 (by omega)]), HB.out.trans (HB2.out.mono (by omega))⟩
  · rw [(newer_yes hn).1, (newer_yes hn).2]
    go_wp2_with fail
    go_loopw [7] (fun i wr => ∃ k : Nat, k ≤ 2 ∧ i = .int .i64 k ∧ (1 ≤ k → t.whl bt = false) ∧ (2 ≤ k → s.whl bs = false) ∧ Hid (Below w1.heap.size w1 wr)) (fun i _ => 2 - (intOf i).toNat)
    case atStart => exact ⟨0, by omega, rfl, by omega, by omega, Below.refl _ _⟩
    case round =>
      obtain ⟨k, hk, rfl, h1, h2, HB2⟩ := hrel
      have BX := B1.below HB2.out hz
      by_cases k0 : k = 0
      · subst k0
        clear h1 h2
        go_wp2_with (refine load_in 32 _ rfl rfl w.heap.size 12 rfl t.cs _ (BX.mid 12 t.cs (prCs_snd s t)) Try.underlying32 rfl info32 ?_)
        refine (whole_any t bt _ (HT.out.below HB2.out) htl).mono ?_
        rintro e w2 ⟨rfl, hb2⟩
        have HBn : Hid (Below w1.heap.size w1 w2) := HB2.out.trans (hb2.mono HB2.out.size)
        have HBw : Hid (Below w.heap.size w w2) := HB.out.trans (HBn.out.mono (by omega))
        clear hb2
        cases hw : t.whl bt
        · go_wp2_with fail
          go_roundw
          case rel => exact ⟨1, by omega, by go_num, fun _ => hw, by omega, HBn⟩
          case measure => simp [intOf]
        · go_wp2_with fail
          go_ret
          exact ⟨ret_int (by simp [act, hn, hw]), HBw.out⟩
      by_cases k1 : k = 1
      · subst k1
        clear h2
        go_wp2_with (refine load_in 32 _ rfl rfl w.heap.size 0 rfl s.cs _ (BX.mid 0 s.cs (prCs_fst s t)) Try.underlying32 rfl info32 ?_)
        refine (whole_any s bs _ (HS.out.below HB2.out) hsl).mono ?_
        rintro e w2 ⟨rfl, hb2⟩
        have HBn : Hid (Below w1.heap.size w1 w2) := HB2.out.trans (hb2.mono HB2.out.size)
        have HBw : Hid (Below w.heap.size w w2) := HB.out.trans (HBn.out.mono (by omega))
        clear hb2
        cases hw : s.whl bs
        · go_wp2_with fail
          go_roundw
          case rel => exact ⟨2, by omega, by go_num, fun _ => h1 (by omega), fun _ => hw, HBn⟩
          case measure => simp [intOf]
        · go_wp2_with fail
          go_ret
          exact ⟨ret_int (by simp [act, hn, hw, h1 (by omega)]), HBw.out⟩
      have k2 : k = 2 := by omega
      subst k2
      go_wp2_with fail
      go_ret
      exact ⟨ret_int (by simp [act, hn, h1 (by omega), h2 (by omega)]), HB.out.trans (HB2.out.mono (by omega))⟩
end Go.Proofs.Qxb6602376a
