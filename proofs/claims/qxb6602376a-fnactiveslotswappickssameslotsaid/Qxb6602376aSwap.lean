import Derived.Test.Qxb6602376aToSlot
import Derived.Test.Qxb6602376aOpen
namespace Go.Proofs.Qxb6602376a
open Go.RowKit

/-- The two boxes hold what they held. -/
theorem two_below {h : Nat} {s t : Sl} {w w' : World} (hS : (∀ i, w.cell? ⟨h, i, none⟩ = s.cs[i]?) ∧ ∀ i, w.cell? ⟨h + 1, i, none⟩ = t.cs[i]?) (hz : h + 2 ≤ w.heap.size) (hb : Below w.heap.size w w') :
    (∀ i, w'.cell? ⟨h, i, none⟩ = s.cs[i]?) ∧ ∀ i, w'.cell? ⟨h + 1, i, none⟩ = t.cs[i]? :=
  ⟨fun i => (hb.cell (p := ⟨h, i, none⟩) (by show h < w.heap.size; omega)).trans (hS.1 i), fun i => (hb.cell (p := ⟨h + 1, i, none⟩) (by show h + 1 < w.heap.size; omega)).trans (hS.2 i)⟩
theorem undrew {w w' : World} (hb : Below w.drew.heap.size w.drew w') : Below w.heap.size w w' := ⟨hb.os, hb.tape, hb.output, hb.size, hb.block⟩

set_option maxHeartbeats 4000000 in
theorem swap_walk (s t : Sl) (bs bt : List Bk) (w : World) (cs : Came w s bs) (ct : Came w t bt) :
    Calls Try.prog 4 #[.agg s.cs, .agg t.cs] w fun e w' => e = .returned (.bool true) ∧ Below w.heap.size w w' := by
  have Bs := (BoxAt.new w s.cs 26).alloc (.cells t.cs 26)
  have Bt := BoxAt.new (w.alloc (.cells s.cs 26)) t.cs 26
  have b0 : Below w.heap.size w ((w.alloc (.cells s.cs 26)).alloc (.cells t.cs 26)) := ((Below.refl _ _).alloc (Nat.le_refl _) _).alloc (by simp) _
  have hz : ((w.alloc (.cells s.cs 26)).alloc (.cells t.cs 26)).heap.size = w.heap.size + 2 := by simp
  rw [show (w.alloc (.cells s.cs 26)).heap.size = w.heap.size + 1 by simp] at Bt
  go_enter Try.func4, Try.ntmps4
  go_wp2_with (first | (refine load_in 26 _ rfl rfl w.heap.size 0 rfl s.cs _ Bs.range Try.underlying26 rfl info26 ?_) | (refine load_in 26 _ rfl rfl (w.heap.size + 1) 0 rfl t.cs _ Bt.range Try.underlying26 rfl info26 ?_))
  generalize (w.alloc (.cells s.cs 26)).alloc (.cells t.cs 26) = W at *
  refine (bytes13_any s t W).mono ?_
  rintro e w1 ⟨⟨b, rfl⟩, hb1⟩
  have Bs1 := Bs.below hb1 (by omega)
  have Bt1 := Bt.below hb1 (by omega)
  have b1 : Below w.heap.size w w1 := b0.trans (hb1.mono (by omega))
  have hz1 : w.heap.size + 2 ≤ w1.heap.size := by have := hb1.size; omega
  clear Bs Bt b0 hz hb1
  cases b
  · go_wp2
    go_ret
    exact ⟨rfl, b1⟩
  go_wp2_with (first | (refine load_in 26 _ rfl rfl w.heap.size 0 rfl s.cs _ Bs1.range Try.underlying26 rfl info26 ?_) | (refine load_in 26 _ rfl rfl (w.heap.size + 1) 0 rfl t.cs _ Bt1.range Try.underlying26 rfl info26 ?_))
  refine (tooBig_any s t w1).mono ?_
  rintro e w2 ⟨⟨b, rfl, hbig⟩, hb2⟩
  have Bs2 := Bs1.below hb2 (by omega)
  have Bt2 := Bt1.below hb2 (by omega)
  have b2 : Below w.heap.size w w2 := b1.trans (hb2.mono (by omega))
  have hz2 : w.heap.size + 2 ≤ w2.heap.size := by have := hb2.size; omega
  clear Bs1 Bt1 b1 hz1 hb2
  cases b
  · obtain ⟨hsl, htl⟩ := hbig rfl
    have Ts := cs.tab.below b2
    have Tt := ct.tab.below b2
    have hns := cs.nil_
    have hnt := ct.nil_
    clear hbig cs ct
    go_wp2_with fail
    have es0 : s.cs[0]? = some (.int .i64 s.off) := rfl
    have es1 : s.cs[1]? = some (.bool s.has) := rfl
    have es2 : s.cs[2]? = some (.bool s.crc) := rfl
    have es3 : s.cs[3]? = some (.int .u64 s.ver) := rfl
    have es4 : s.cs[4]? = some (.int .u64 s.eof) := rfl
    have es5 : s.cs[5]? = some (.int .i64 s.dp) := rfl
    have es6 : s.cs[6]? = some (.int .u64 s.dc) := rfl
    have es7 : s.cs[7]? = some (.int .i64 s.bp) := rfl
    have es8 : s.cs[8]? = some (.int .u64 s.bc) := rfl
    have es9 : s.cs[9]? = some (.int .u32 s.mb) := rfl
    have es10 : s.cs[10]? = some (.slice s.ba s.bl s.bk) := rfl
    have es11 : s.cs[11]? = some (.string s.dmg) := rfl
    have et0 : t.cs[0]? = some (.int .i64 t.off) := rfl
    have et1 : t.cs[1]? = some (.bool t.has) := rfl
    have et2 : t.cs[2]? = some (.bool t.crc) := rfl
    have et3 : t.cs[3]? = some (.int .u64 t.ver) := rfl
    have et4 : t.cs[4]? = some (.int .u64 t.eof) := rfl
    have et5 : t.cs[5]? = some (.int .i64 t.dp) := rfl
    have et6 : t.cs[6]? = some (.int .u64 t.dc) := rfl
    have et7 : t.cs[7]? = some (.int .i64 t.bp) := rfl
    have et8 : t.cs[8]? = some (.int .u64 t.bc) := rfl
    have et9 : t.cs[9]? = some (.int .u32 t.mb) := rfl
    have et10 : t.cs[10]? = some (.slice t.ba t.bl t.bk) := rfl
    have et11 : t.cs[11]? = some (.string t.dmg) := rfl
    have hSw2 : (∀ i, w2.cell? ⟨w.heap.size, i, none⟩ = s.cs[i]?) ∧ ∀ i, w2.cell? ⟨w.heap.size + 1, i, none⟩ = t.cs[i]? := ⟨fun i => Bs2.cell i, fun i => Bt2.cell i⟩
    have Bsw2 := Bs2
    have Btw2 := Bt2
    have Tsw2 := Ts
    have Ttw2 := Tt
    have hzw2 := hz2
    have bww2 := b2
    clear Bs2 Bt2 Ts Tt hz2 b2
    go_region_held3 (fun w' => (∀ i, w'.cell? ⟨w.heap.size, i, none⟩ = s.cs[i]?) ∧ ∀ i, w'.cell? ⟨w.heap.size + 1, i, none⟩ = t.cs[i]?) (first | exact hSw2 | assumption)
      (first
        | (go_at_call_of 11 (s.off); refine (toSlot_any s bs _ ?_ hsl hns).mono ?_; exact Tsw2.drew; rintro e w3 ⟨⟨xw3, kw3, rfl, _, Tw3⟩, hbw3⟩; have hbw3 := undrew hbw3; have hzw3 : w.heap.size + 2 ≤ w3.heap.size := Nat.le_trans hzw2 hbw3.size; have hSw3 := two_below hSw2 hzw2 hbw3)
        | (go_at_call_of 11 (t.off); refine (toSlot_any t bt _ ?_ htl hnt).mono ?_; exact Ttw2.below hbw3; rintro e w4 ⟨⟨xw4, kw4, rfl, _, Tw4⟩, hbw4⟩; have hzw4 : w.heap.size + 2 ≤ w4.heap.size := Nat.le_trans hzw3 hbw4.size; have hSw4 := two_below hSw3 hzw3 hbw4)
        | (go_at_call 10; refine (active_any { s with ba := xw3, bk := kw3 } { t with ba := xw4, bk := kw4 } bs bt _ ?_ ?_ hsl htl).mono ?_; exact Tw3.below hbw4; exact Tw4; rintro e w5 ⟨rfl, hbw5⟩; have hzw5 : w.heap.size + 2 ≤ w5.heap.size := Nat.le_trans hzw4 hbw5.size; have hSw5 := two_below hSw4 hzw4 hbw5))
    rename_i hHeld
    clear hHeld
    have bw5 : Below w2.heap.size w2 w5 := (hbw3.trans (hbw4.mono hbw3.size)).trans (hbw5.mono (Nat.le_trans hbw3.size hbw4.size))
    have Bsw5 := Bsw2.below bw5 (by omega)
    have Btw5 := Btw2.below bw5 (by omega)
    have Tsw5 := Tsw2.below bw5
    have Ttw5 := Ttw2.below bw5
    have bww5 : Below w.heap.size w w5 := bww2.trans (bw5.mono (by omega))
    change Exit.then _ _ _ _ _
    clear hbw3 hbw4 hbw5 hSw3 hSw4 Tw3 Tw4 Bsw2 Btw2 Tsw2 Ttw2 bw5 hSw2 bww2
    go_wp2_with fail
    go_region_held3 (fun w' => (∀ i, w'.cell? ⟨w.heap.size, i, none⟩ = s.cs[i]?) ∧ ∀ i, w'.cell? ⟨w.heap.size + 1, i, none⟩ = t.cs[i]?) (first | exact hSw5 | assumption)
      (first
        | (go_at_call_of 11 (t.off); refine (toSlot_any t bt _ ?_ htl hnt).mono ?_; exact Ttw5.drew; rintro e w6 ⟨⟨xw6, kw6, rfl, _, Tw6⟩, hbw6⟩; have hbw6 := undrew hbw6; have hzw6 : w.heap.size + 2 ≤ w6.heap.size := Nat.le_trans hzw5 hbw6.size; have hSw6 := two_below hSw5 hzw5 hbw6)
        | (go_at_call_of 11 (s.off); refine (toSlot_any s bs _ ?_ hsl hns).mono ?_; exact Tsw5.below hbw6; rintro e w7 ⟨⟨xw7, kw7, rfl, _, Tw7⟩, hbw7⟩; have hzw7 : w.heap.size + 2 ≤ w7.heap.size := Nat.le_trans hzw6 hbw7.size; have hSw7 := two_below hSw6 hzw6 hbw7)
        | (go_at_call 10; refine (active_any { t with ba := xw6, bk := kw6 } { s with ba := xw7, bk := kw7 } bt bs _ ?_ ?_ htl hsl).mono ?_; exact Tw6.below hbw7; exact Tw7; rintro e w8 ⟨rfl, hbw8⟩; have hzw8 : w.heap.size + 2 ≤ w8.heap.size := Nat.le_trans hzw7 hbw8.size; have hSw8 := two_below hSw7 hzw7 hbw8))
    rename_i hHeld
    clear hHeld
    have bw8 : Below w5.heap.size w5 w8 := (hbw6.trans (hbw7.mono hbw6.size)).trans (hbw8.mono (Nat.le_trans hbw6.size hbw7.size))
    have Bsw8 := Bsw5.below bw8 (by omega)
    have Btw8 := Btw5.below bw8 (by omega)
    have Tsw8 := Tsw5.below bw8
    have Ttw8 := Ttw5.below bw8
    have bww8 : Below w.heap.size w w8 := bww5.trans (bw8.mono (by omega))
    change Exit.then _ _ _ _ _
    clear hbw6 hbw7 hbw8 hSw6 hSw7 Tw6 Tw7 Bsw5 Btw5 Tsw5 Ttw5 bw8 hSw5 bww5
    rw [show act { s with ba := xw3, bk := kw3 } { t with ba := xw4, bk := kw4 } bs bt = act s t bs bt from rfl, show act { t with ba := xw6, bk := kw6 } { s with ba := xw7, bk := kw7 } bt bs = act t s bt bs from rfl]
    have cs3 : w8.cell? ⟨w.heap.size, 3, none⟩ = some (.int .u64 s.ver) := Bsw8.cell 3
    have ct3 : w8.cell? ⟨w.heap.size + 1, 3, none⟩ = some (.int .u64 t.ver) := Btw8.cell 3
    clear es0 es1 es2 es3 es4 es5 es6 es7 es8 es9 es10 es11 et0 et1 et2 et3 et4 et5 et6 et7 et8 et9 et10 et11 hSw8
    cases h0 : s.whl bs <;> cases h1 : t.whl bt
    · rw [show act s t bs bt = -1 by simp [act, h0, h1], show act t s bt bs = -1 by simp [act, h0, h1]]
      go_wp2
      go_ret
      exact ⟨rfl, bww8⟩
    · rw [show act s t bs bt = 1 by simp [act, h0, h1], show act t s bt bs = 0 by simp [act, h0, h1]]
      by_cases hv : s.ver = t.ver
      · have hv' : (s.ver == t.ver) = true := by simp [hv]
        clear hv
        go_wp2_with (first | (refine load_in 26 _ rfl rfl w.heap.size 0 rfl s.cs _ Bsw8.range Try.underlying26 rfl info26 ?_))
        refine (modelWhole_any s bs _ Tsw8 hsl).mono ?_
        rintro e w9 ⟨rfl, hb9⟩
        rw [h0]
        go_wp2
        go_ret
        exact ⟨rfl, bww8.trans (hb9.mono (by omega))⟩
      · have hv' : (s.ver == t.ver) = false := by simp [hv]
        clear hv
        go_wp2
        go_ret
        exact ⟨rfl, bww8⟩
    · rw [show act s t bs bt = 0 by simp [act, h0, h1], show act t s bt bs = 1 by simp [act, h0, h1]]
      by_cases hv : s.ver = t.ver
      · have hv' : (s.ver == t.ver) = true := by simp [hv]
        clear hv
        go_wp2_with (first | (refine load_in 26 _ rfl rfl w.heap.size 0 rfl s.cs _ Bsw8.range Try.underlying26 rfl info26 ?_))
        refine (modelWhole_any s bs _ Tsw8 hsl).mono ?_
        rintro e w9 ⟨rfl, hb9⟩
        rw [h0]
        have Bt9 := Btw8.below hb9 (by omega)
        go_wp2_with (first | (refine load_in 26 _ rfl rfl (w.heap.size + 1) 0 rfl t.cs _ Bt9.range Try.underlying26 rfl info26 ?_))
        refine (modelWhole_any t bt _ (Ttw8.below hb9) htl).mono ?_
        rintro e w10 ⟨rfl, hb10⟩
        rw [h1]
        have hz9 := hb9.size
        go_wp2
        go_ret
        exact ⟨rfl, (bww8.trans (hb9.mono (by omega))).trans (hb10.mono (by omega))⟩
      · have hv' : (s.ver == t.ver) = false := by simp [hv]
        clear hv
        go_wp2
        go_ret
        exact ⟨rfl, bww8⟩
    · by_cases hv : s.ver = t.ver
      · have hv' : (s.ver == t.ver) = true := by simp [hv]
        rw [show act s t bs bt = 0 by simp [act, newer, hv, h0], show act t s bt bs = 0 by simp [act, newer, hv, h1]]
        clear hv
        go_wp2_with (first | (refine load_in 26 _ rfl rfl w.heap.size 0 rfl s.cs _ Bsw8.range Try.underlying26 rfl info26 ?_))
        refine (modelWhole_any s bs _ Tsw8 hsl).mono ?_
        rintro e w9 ⟨rfl, hb9⟩
        rw [h0]
        have Bt9 := Btw8.below hb9 (by omega)
        go_wp2_with (first | (refine load_in 26 _ rfl rfl (w.heap.size + 1) 0 rfl t.cs _ Bt9.range Try.underlying26 rfl info26 ?_))
        refine (modelWhole_any t bt _ (Ttw8.below hb9) htl).mono ?_
        rintro e w10 ⟨rfl, hb10⟩
        rw [h1]
        have hz9 := hb9.size
        go_wp2
        go_ret
        exact ⟨rfl, (bww8.trans (hb9.mono (by omega))).trans (hb10.mono (by omega))⟩
      · have hv' : (s.ver == t.ver) = false := by simp [hv]
        by_cases hlt : s.ver < t.ver
        · rw [show act s t bs bt = 1 by simp [act, newer, hlt, h1], show act t s bt bs = 0 by simp [act, newer, show ¬ t.ver < s.ver by omega, h1]]
          clear hv hlt
          go_wp2
          go_ret
          exact ⟨rfl, bww8⟩
        · rw [show act s t bs bt = 0 by simp [act, newer, hlt, h0], show act t s bt bs = 1 by simp [act, newer, show t.ver < s.ver by omega, h0]]
          clear hv hlt
          go_wp2
          go_ret
          exact ⟨rfl, bww8⟩
  · go_wp2
    go_ret
    exact ⟨rfl, b2⟩
end Go.Proofs.Qxb6602376a
