import Derived.Test.Qxb6602376aTwo
namespace Go.Proofs.Qxb6602376a
open Go.RowKit

set_option maxHeartbeats 4000000 in
theorem case_walk (s t : Sl) (bs bt : List Bk) (w : World) (cs : Came w s bs) (ct : Came w t bt) :
    Calls Try.prog 3 #[.agg s.cs, .agg t.cs] w fun e w' => e = .returned (.bool true) ∧ Below w.heap.size w w' := by
  have Bs := (BoxAt.new w s.cs 26).alloc (.cells t.cs 26)
  have Bt := BoxAt.new (w.alloc (.cells s.cs 26)) t.cs 26
  have b0 : Below w.heap.size w ((w.alloc (.cells s.cs 26)).alloc (.cells t.cs 26)) := ((Below.refl _ _).alloc (Nat.le_refl _) _).alloc (by simp) _
  have hz : ((w.alloc (.cells s.cs 26)).alloc (.cells t.cs 26)).heap.size = w.heap.size + 2 := by simp
  rw [show (w.alloc (.cells s.cs 26)).heap.size = w.heap.size + 1 by simp] at Bt
  go_enter Try.func3, Try.ntmps3
  go_wp2_with (first | (refine load_in 26 _ rfl rfl w.heap.size 0 rfl s.cs _ Bs.range Try.underlying26 rfl info26 ?_) | (refine load_in 26 _ rfl rfl (w.heap.size + 1) 0 rfl t.cs _ Bt.range Try.underlying26 rfl info26 ?_))
  generalize (w.alloc (.cells s.cs 26)).alloc (.cells t.cs 26) = W at *
  refine (bytes8_any s t W).mono ?_
  rintro e w1 ⟨⟨b, rfl⟩, hb1⟩
  have Bs1 := Bs.below hb1 (by omega)
  have Bt1 := Bt.below hb1 (by omega)
  have b1 : Below w.heap.size w w1 := b0.trans (hb1.mono (by omega))
  have hz1 : w.heap.size + 2 ≤ w1.heap.size := by have := hb1.size; omega
  clear Bs Bt b0 hz hb1
  cases b
  · go_wp2
    go_ret
    exact ⟨rfl, b1⟩
  go_wp2_with (first | (refine load_in 26 _ rfl rfl w.heap.size 0 rfl s.cs _ Bs1.range Try.underlying26 rfl info26 ?_) | (refine load_in 26 _ rfl rfl (w.heap.size + 1) 0 rfl t.cs _ Bt1.range Try.underlying26 rfl info26 ?_))
  refine (tooBig_any s t w1).mono ?_
  rintro e w2 ⟨⟨b, rfl, hbig⟩, hb2⟩
  have Bsw2 := Bs1.below hb2 (by omega)
  have Btw2 := Bt1.below hb2 (by omega)
  have bww2 : Below w.heap.size w w2 := b1.trans (hb2.mono (by omega))
  have hzw2 : w.heap.size + 2 ≤ w2.heap.size := by have := hb2.size; omega
  clear Bs1 Bt1 b1 hz1 hb2
  cases b
  · obtain ⟨hsl, htl⟩ := hbig rfl
    have Tsw2 := cs.tab.below bww2
    have Ttw2 := ct.tab.below bww2
    have hns := cs.nil_
    have hnt := ct.nil_
    clear hbig cs ct
    go_wp2_with fail
    have es0 : s.cs[0]? = some (.int .i64 s.off) := rfl
    have es1 : s.cs[1]? = some (.bool s.has) := rfl
    have es2 : s.cs[2]? = some (.bool s.crc) := rfl
    have es3 : s.cs[3]? = some (.int .u64 s.ver) := rfl
    have es4 : s.cs[4]? = some (.int .u64 s.eof) := rfl
    have es5 : s.cs[5]? = some (.int .i64 s.dp) := rfl
    have es6 : s.cs[6]? = some (.int .u64 s.dc) := rfl
    have es7 : s.cs[7]? = some (.int .i64 s.bp) := rfl
    have es8 : s.cs[8]? = some (.int .u64 s.bc) := rfl
    have es9 : s.cs[9]? = some (.int .u32 s.mb) := rfl
    have es10 : s.cs[10]? = some (.slice s.ba s.bl s.bk) := rfl
    have es11 : s.cs[11]? = some (.string s.dmg) := rfl
    have et0 : t.cs[0]? = some (.int .i64 t.off) := rfl
    have et1 : t.cs[1]? = some (.bool t.has) := rfl
    have et2 : t.cs[2]? = some (.bool t.crc) := rfl
    have et3 : t.cs[3]? = some (.int .u64 t.ver) := rfl
    have et4 : t.cs[4]? = some (.int .u64 t.eof) := rfl
    have et5 : t.cs[5]? = some (.int .i64 t.dp) := rfl
    have et6 : t.cs[6]? = some (.int .u64 t.dc) := rfl
    have et7 : t.cs[7]? = some (.int .i64 t.bp) := rfl
    have et8 : t.cs[8]? = some (.int .u64 t.bc) := rfl
    have et9 : t.cs[9]? = some (.int .u32 t.mb) := rfl
    have et10 : t.cs[10]? = some (.slice t.ba t.bl t.bk) := rfl
    have et11 : t.cs[11]? = some (.string t.dmg) := rfl
    have hSw2 : (∀ i, w2.cell? ⟨w.heap.size, i, none⟩ = s.cs[i]?) ∧ ∀ i, w2.cell? ⟨w.heap.size + 1, i, none⟩ = t.cs[i]? := ⟨fun i => Bsw2.cell i, fun i => Btw2.cell i⟩
    go_region_held3 (fun w' => (∀ i, w'.cell? ⟨w.heap.size, i, none⟩ = s.cs[i]?) ∧ ∀ i, w'.cell? ⟨w.heap.size + 1, i, none⟩ = t.cs[i]?) (first | exact hSw2 | assumption)
      (first
        | (go_at_call_of 11 (s.off); refine (toSlot_any s bs _ ?_ hsl hns).mono ?_; exact Tsw2.drew; rintro e w3 ⟨⟨xw3, kw3, rfl, hnw3, Tw3⟩, hbw3⟩; have hbw3 := unDrew hbw3; have hzw3 : w.heap.size + 2 ≤ w3.heap.size := Nat.le_trans hzw2 hbw3.size; have hSw3 := twoBelow hSw2 hzw2 hbw3)
        | (go_at_call_of 11 (t.off); refine (toSlot_any t bt _ ?_ htl hnt).mono ?_; exact Ttw2.below hbw3; rintro e w4 ⟨⟨xw4, kw4, rfl, hnw4, Tw4⟩, hbw4⟩; have hzw4 : w.heap.size + 2 ≤ w4.heap.size := Nat.le_trans hzw3 hbw4.size; have hSw4 := twoBelow hSw3 hzw3 hbw4)
        | (go_at_call 10; refine (active_any { s with ba := xw3, bk := kw3 } { t with ba := xw4, bk := kw4 } bs bt _ ?_ ?_ hsl htl).mono ?_; exact Tw3.below hbw4; exact Tw4; rintro e w5 ⟨rfl, hbw5⟩; have hzw5 : w.heap.size + 2 ≤ w5.heap.size := Nat.le_trans hzw4 hbw5.size; have hSw5 := twoBelow hSw4 hzw4 hbw5))
    rename_i hHeld
    clear hHeld
    have b5 : Below w2.heap.size w2 w5 := (hbw3.trans (hbw4.mono hbw3.size)).trans (hbw5.mono (Nat.le_trans hbw3.size hbw4.size))
    have Bs5 := Bsw2.below b5 (by omega)
    have Bt5 := Btw2.below b5 (by omega)
    have Ts5 := Tsw2.below b5
    have Tt5 := Ttw2.below b5
    have bw5 : Below w.heap.size w w5 := bww2.trans (b5.mono (by omega))
    clear hbw3 hbw4 hbw5 hSw3 hSw4 Tw3 Tw4 Bsw2 Btw2 Tsw2 Ttw2 b5 hSw2 bww2 hSw5 es0 es1 es2 es3 es4 es5 es6 es7 es8 es9 es10 es11 et0 et1 et2 et3 et4 et5 et6 et7 et8 et9 et10 et11
    rw [show act { s with ba := xw3, bk := kw3 } { t with ba := xw4, bk := kw4 } bs bt = act s t bs bt from rfl]
    go_wp2_with (first | (refine load_in 26 _ rfl rfl w.heap.size 0 rfl s.cs _ Bs5.range Try.underlying26 rfl info26 ?_) | (refine load_in 26 _ rfl rfl (w.heap.size + 1) 0 rfl t.cs _ Bt5.range Try.underlying26 rfl info26 ?_))
    refine (modelActive_any s t bs bt _ Ts5 Tt5 hsl htl).mono ?_
    rintro e w6 ⟨rfl, hb6⟩
    have bw6 : Below w.heap.size w w6 := bw5.trans (hb6.mono (by omega))
    go_wp2
    go_ret
    exact ⟨ret_bool (by simp), bw6⟩
  · go_wp2
    go_ret
    exact ⟨rfl, bww2⟩
end Go.Proofs.Qxb6602376a
