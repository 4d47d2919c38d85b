import Derived.Test.Qxb6602376aFacts
namespace Go.Proofs.Qxb6602376a
open Go.RowKit

set_option maxRecDepth 100000 in
set_option maxHeartbeats 2000000 in
theorem sameHead_any (z : Sl) (ba : Option Addr) (bl bk : Nat) (w : World) :
    Calls Try.prog 19 #[.agg ({ z with ba := ba, bl := bl, bk := bk } : Sl).cs, .agg z.cs] w fun e w' => e = .returned (.bool true) ∧ Below w.heap.size w w' := by
  unfold Sl.cs
  dsimp only
  go_enter Try.func19, Try.ntmps19
  go_wp2
  go_ret
  exact ⟨ret_bool (by simp), ((Below.refl _ _).alloc (Nat.le_refl _) _).alloc (by simp) _⟩

set_option maxRecDepth 100000 in
set_option maxHeartbeats 2000000 in
theorem isZero_any (w : World) :
    Calls Try.prog 21 #[.agg sl0.cs] w fun e w' => e = .returned (.bool true) ∧ Below w.heap.size w w' := by
  have hnil := eqNil30
  unfold sl0 Sl.cs
  dsimp only
  go_enter Try.func21, Try.ntmps21
  go_wp2
  go_ret
  exact ⟨rfl, (Below.refl _ _).alloc (Nat.le_refl _) _⟩

set_option maxHeartbeats 2000000 in
theorem sameBanks_any (ga za : Option Addr) (n gk zk : Nat) (bs : List Bk) (w : World) (hg : Tab w ga n bs) (hz : Tab w za n bs) (hn : n ≤ 1048576) :
    Calls Try.prog 30 #[.slice ga n gk, .slice za n zk] w fun e w' => e = .returned (.bool true) ∧ Below w.heap.size w w' := by
  have hne : ((n : Int) != (n : Int)) = false := by simp
  go_enter Try.func30, Try.ntmps30
  go_wp2
  go_loopw [5] (fun i wr => ∃ k : Nat, k ≤ n ∧ i = .int .i64 k ∧ Hid (Below w.heap.size w wr)) (fun i _ => n - (intOf i).toNat)
  case atStart => exact ⟨0, Nat.zero_le _, rfl, Below.refl _ _⟩
  case round =>
    obtain ⟨k, hk, rfl, HB⟩ := hrel
    have hzw := HB.out.size
    by_cases hlt : k < n
    · rcases (hg.below HB.out).at_ with h | ⟨g1, o1, hga, hgl, hgx⟩
      · omega
      rcases (hz.below HB.out).at_ with h | ⟨g2, o2, hza, hzl, hzx⟩
      · omega
      obtain ⟨b, hbk⟩ : ∃ b, bs.getD k bk0 = b := ⟨_, rfl⟩
      have h1 := hgx k hlt
      have h2 := hzx k hlt
      rw [hbk] at h1 h2
      obtain ⟨c0, c1, c2, c3⟩ := h1
      obtain ⟨d0, d1, d2, d3⟩ := h2
      subst hga
      subst hza
      have hk0 : (0 : Int) ≤ (k : Int) := by omega
      have hk1 : (k : Int) < (n : Int) := by omega
      clear hbk hgx hzx hg hz
      go_wp2_with fail
      go_region_held3 (fun w' => w'.cell? ⟨g1, o1 + k * 4, none⟩ = some (.int .u32 b.crc) ∧ w'.cell? ⟨g1, o1 + k * 4 + 1, none⟩ = some (.int .u64 b.off) ∧ w'.cell? ⟨g1, o1 + k * 4 + 2, none⟩ = some (.int .u32 b.sz) ∧ w'.cell? ⟨g1, o1 + k * 4 + 3, none⟩ = some (.bool b.ok) ∧ w'.cell? ⟨g2, o2 + k * 4, none⟩ = some (.int .u32 b.crc) ∧ w'.cell? ⟨g2, o2 + k * 4 + 1, none⟩ = some (.int .u64 b.off) ∧ w'.cell? ⟨g2, o2 + k * 4 + 2, none⟩ = some (.int .u32 b.sz) ∧ w'.cell? ⟨g2, o2 + k * 4 + 3, none⟩ = some (.bool b.ok)) (go_keep)
        (first | (go_at_call 20; refine (sameBank_any b b _).mono ?_; rintro e w8 ⟨rfl, hb8⟩; have hb8 := unDrew hb8; obtain ⟨hc8, hf8⟩ := bcell hb8; rw [sameB_self]))
      rename_i hHeld
      clear hHeld hc8 hf8
      have HB8 : Hid (Below w.heap.size w w8) := HB.out.trans (hb8.mono hzw)
      go_wp2
      go_roundw
      case rel => exact ⟨k + 1, by omega, by go_num, HB8⟩
      case measure => simp [intOf]; omega
    · go_wp2
      go_ret
      exact ⟨rfl, HB.out⟩

set_option maxHeartbeats 2000000 in
theorem sameSlot_any (z : Sl) (ba : Option Addr) (bk : Nat) (bs : List Bk) (w : World) (hn : ba.isNone = z.ba.isNone) (hg : Tab w ba z.bl bs) (hz : Tab w z.ba z.bl bs) (hl : z.bl ≤ 1048576) :
    Calls Try.prog 17 #[.agg ({ z with ba := ba, bk := bk } : Sl).cs, .agg z.cs] w fun e w' => e = .returned (.bool true) ∧ Below w.heap.size w w' := by
  have hnil := eqNil30
  have hnil2 := eqNil24
  have Bs := (BoxAt.new w ({ z with ba := ba, bk := bk } : Sl).cs 32).alloc (.cells z.cs 26)
  have Bt := BoxAt.new (w.alloc (.cells ({ z with ba := ba, bk := bk } : Sl).cs 32)) z.cs 26
  have b0 : Below w.heap.size w ((w.alloc (.cells ({ z with ba := ba, bk := bk } : Sl).cs 32)).alloc (.cells z.cs 26)) := ((Below.refl _ _).alloc (Nat.le_refl _) _).alloc (by simp) _
  have hz0 : ((w.alloc (.cells ({ z with ba := ba, bk := bk } : Sl).cs 32)).alloc (.cells z.cs 26)).heap.size = w.heap.size + 2 := by simp
  rw [show (w.alloc (.cells ({ z with ba := ba, bk := bk } : Sl).cs 32)).heap.size = w.heap.size + 1 by simp] at Bt
  go_enter Try.func17, Try.ntmps17
  go_wp2_with (first | (refine load_in 32 _ rfl rfl w.heap.size 0 rfl ({ z with ba := ba, bk := bk } : Sl).cs _ Bs.range Try.underlying32 rfl info32 ?_) | (refine load_in 26 _ rfl rfl (w.heap.size + 1) 0 rfl z.cs _ Bt.range Try.underlying26 rfl info26 ?_))
  generalize (w.alloc (.cells ({ z with ba := ba, bk := bk } : Sl).cs 32)).alloc (.cells z.cs 26) = W at *
  refine (sameHead_any z ba z.bl bk W).mono ?_
  rintro e w1 ⟨rfl, hb1⟩
  have Bs1 := Bs.below hb1 (by omega)
  have Bt1 := Bt.below hb1 (by omega)
  have b1 : Below w.heap.size w w1 := b0.trans (hb1.mono (by omega))
  have c10 : w1.cell? ⟨w.heap.size, 10, none⟩ = some (.slice ba z.bl bk) := Bs1.cell 10
  have d10 : w1.cell? ⟨w.heap.size + 1, 10, none⟩ = some (.slice z.ba z.bl z.bk) := Bt1.cell 10
  have hz1 : w.heap.size ≤ w1.heap.size := b1.size
  have hg1 := hg.below b1
  have hz2 := hz.below b1
  clear Bs Bt b0 hz0 hb1 Bs1 Bt1 hg hz
  obtain ⟨nb, hnb⟩ : ∃ nb, z.ba.isNone = nb := ⟨_, rfl⟩
  rw [hnb] at hn
  go_wp2_with fail
  refine (sameBanks_any ba z.ba z.bl bk z.bk bs w1 hg1 hz2 hl).mono ?_
  rintro e w2 ⟨rfl, hb2⟩
  have b2 : Below w.heap.size w w2 := b1.trans (hb2.mono hz1)
  go_wp2
  go_ret
  exact ⟨rfl, b2⟩
end Go.Proofs.Qxb6602376a
