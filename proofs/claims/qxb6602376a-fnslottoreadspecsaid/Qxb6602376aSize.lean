import Derived.Test.Qxb6602376aActive
namespace Go.Proofs.Qxb6602376a
open Go.RowKit

set_option maxHeartbeats 1000000 in
theorem bytes13_any (s t : Sl) (w : World) :
    Calls Try.prog 13 #[.agg s.cs, .agg t.cs] w fun e w' => (∃ b, e = .returned (.bool b)) ∧ Below w.heap.size w w' := by
  unfold Sl.cs
  go_enter Try.func13, Try.ntmps13
  go_wp2
  all_goals go_ret
  all_goals exact ⟨⟨_, rfl⟩, ((Below.refl _ _).alloc (Nat.le_refl _) _).alloc (by simp) _⟩

set_option maxHeartbeats 1000000 in
theorem bytes8_any (s t : Sl) (w : World) :
    Calls Try.prog 8 #[.agg s.cs, .agg t.cs] w fun e w' => (∃ b, e = .returned (.bool b)) ∧ Below w.heap.size w w' := by
  unfold Sl.cs
  go_enter Try.func8, Try.ntmps8
  go_wp2
  all_goals go_ret
  all_goals exact ⟨⟨_, rfl⟩, ((Below.refl _ _).alloc (Nat.le_refl _) _).alloc (by simp) _⟩

set_option maxHeartbeats 1000000 in
theorem bytes15_any (s t : Sl) (w : World) :
    Calls Try.prog 15 #[.agg s.cs, .agg t.cs] w fun e w' => (∃ b, e = .returned (.bool b)) ∧ Below w.heap.size w w' := by
  unfold Sl.cs
  go_enter Try.func15, Try.ntmps15
  go_wp2
  all_goals go_ret
  all_goals exact ⟨⟨_, rfl⟩, ((Below.refl _ _).alloc (Nat.le_refl _) _).alloc (by simp) _⟩

set_option maxHeartbeats 1000000 in
theorem bytes22_any (s t : Sl) (w : World) :
    Calls Try.prog 22 #[.agg s.cs, .agg t.cs] w fun e w' => (∃ b, e = .returned (.bool b)) ∧ Below w.heap.size w w' := by
  unfold Sl.cs
  go_enter Try.func22, Try.ntmps22
  go_wp2
  all_goals go_ret
  all_goals exact ⟨⟨_, rfl⟩, ((Below.refl _ _).alloc (Nat.le_refl _) _).alloc (by simp) _⟩

/-- 'tooBig' answers some bool; where it answers false both bank tables are short. -/
def BigSays (s t : Sl) (e : Ending) : Prop := ∃ b, e = .returned (.bool b) ∧ (b = false → s.bl ≤ 1048576 ∧ t.bl ≤ 1048576)
theorem bigSays {s t : Sl} {e : Ending} {b : Bool} (he : e = .returned (.bool b)) (h : b = false → s.bl ≤ 1048576 ∧ t.bl ≤ 1048576) : BigSays s t e := ⟨b, he, h⟩

set_option maxHeartbeats 1000000 in
theorem tooBig_any (s t : Sl) (w : World) :
    Calls Try.prog 9 #[.agg s.cs, .agg t.cs] w fun e w' => BigSays s t e ∧ Below w.heap.size w w' := by
  unfold Sl.cs
  by_cases h1 : (1048576 : Int) < s.bl
  · go_enter Try.func9, Try.ntmps9
    go_wp2
    all_goals go_ret
    all_goals exact ⟨bigSays rfl (by simp), ((Below.refl _ _).alloc (Nat.le_refl _) _).alloc (by simp) _⟩
  by_cases h2 : (1048576 : Int) < t.bl
  · go_enter Try.func9, Try.ntmps9
    go_wp2
    all_goals go_ret
    all_goals exact ⟨bigSays rfl (by simp), ((Below.refl _ _).alloc (Nat.le_refl _) _).alloc (by simp) _⟩
  by_cases h3 : (1048576 : Int) < s.dmg.size
  · go_enter Try.func9, Try.ntmps9
    go_wp2
    all_goals go_ret
    all_goals exact ⟨bigSays rfl (by omega), ((Below.refl _ _).alloc (Nat.le_refl _) _).alloc (by simp) _⟩
  by_cases h4 : (1048576 : Int) < t.dmg.size
  · go_enter Try.func9, Try.ntmps9
    go_wp2
    all_goals go_ret
    all_goals exact ⟨bigSays rfl (by omega), ((Below.refl _ _).alloc (Nat.le_refl _) _).alloc (by simp) _⟩
  go_enter Try.func9, Try.ntmps9
  go_wp2
  all_goals go_ret
  all_goals exact ⟨bigSays rfl (by omega), ((Below.refl _ _).alloc (Nat.le_refl _) _).alloc (by simp) _⟩

set_option maxHeartbeats 1000000 in
theorem modelActive_any (s t : Sl) (bs bt : List Bk) (w : World) (hs : Tab w s.ba s.bl bs) (ht : Tab w t.ba t.bl bt) (hsl : s.bl ≤ 1048576) (htl : t.bl ≤ 1048576) :
    Calls Try.prog 12 #[.agg s.cs, .agg t.cs] w fun e w' => e = .returned (.int .i64 (act s t bs bt)) ∧ Below w.heap.size w w' := by
  have Bs := (BoxAt.new w s.cs 26).alloc (.cells t.cs 26)
  have Bt := BoxAt.new (w.alloc (.cells s.cs 26)) t.cs 26
  have b0 : Below w.heap.size w ((w.alloc (.cells s.cs 26)).alloc (.cells t.cs 26)) := ((Below.refl _ _).alloc (Nat.le_refl _) _).alloc (by simp) _
  have hz : ((w.alloc (.cells s.cs 26)).alloc (.cells t.cs 26)).heap.size = w.heap.size + 2 := by simp
  rw [show (w.alloc (.cells s.cs 26)).heap.size = w.heap.size + 1 by simp] at Bt
  go_enter Try.func12, Try.ntmps12
  go_wp2_with (refine load_in 26 _ rfl rfl w.heap.size 0 rfl s.cs _ Bs.range Try.underlying26 rfl info26 ?_)
  generalize hW : (w.alloc (.cells s.cs 26)).alloc (.cells t.cs 26) = W at *
  clear hW
  refine (modelWhole_any s bs W (hs.below b0) hsl).mono ?_
  rintro e w1 ⟨rfl, hb1⟩
  have Bs1 := Bs.below hb1 (by omega)
  have Bt1 := Bt.below hb1 (by omega)
  have b1 : Below w.heap.size w w1 := b0.trans (hb1.mono (by omega))
  have hz1 := hb1.size
  go_wp2_with (refine load_in 26 _ rfl rfl (w.heap.size + 1) 0 rfl t.cs _ Bt1.range Try.underlying26 rfl info26 ?_)
  refine (modelWhole_any t bt w1 (ht.below b1) htl).mono ?_
  rintro e w2 ⟨rfl, hb2⟩
  have Bs2 := Bs1.below hb2 (by omega)
  have Bt2 := Bt1.below hb2 (by omega)
  have b2 : Below w.heap.size w w2 := b1.trans (hb2.mono (by omega))
  have cs3 : w2.cell? ⟨w.heap.size, 3, none⟩ = some (.int .u64 s.ver) := Bs2.cell 3
  have ct3 : w2.cell? ⟨w.heap.size + 1, 3, none⟩ = some (.int .u64 t.ver) := Bt2.cell 3
  clear hs ht Bs Bt b0 hz Bs1 Bt1 b1 hz1 Bs2 Bt2 hb1 hb2
  cases h0 : s.whl bs <;> cases h1 : t.whl bt
  · go_wp2
    go_ret
    exact ⟨ret_int (by simp [act, h0, h1]), b2⟩
  · go_wp2
    go_ret
    exact ⟨ret_int (by simp [act, h0, h1]), b2⟩
  · go_wp2
    go_ret
    exact ⟨ret_int (by simp [act, h0, h1]), b2⟩
  · by_cases hv : s.ver < t.ver
    · go_wp2
      go_ret
      exact ⟨ret_int (by simp [act, newer, hv, h1]), b2⟩
    · go_wp2
      go_ret
      exact ⟨ret_int (by simp [act, newer, hv, h0, h1]), b2⟩
end Go.Proofs.Qxb6602376a
