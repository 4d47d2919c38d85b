import Derived.Test.Qxb6602376aTwo
namespace Go.Proofs.Qxb6602376a
open Go.RowKit

theorem intCast_beq (a b : Nat) : ((a : Int) == (b : Int)) = (a == b) := by
  rw [Bool.eq_iff_iff]; simp; omega

set_option maxHeartbeats 4000000 in
theorem copies_any (s t : Sl) (w : World) :
    Calls Try.prog 28 #[.agg (prCs s t)] w fun e w' => e = .returned (.bool (s.snd && t.snd && (s.ver == t.ver) && (s.bl == t.bl))) ∧ Below w.heap.size w w' := by
  have B0 := BoxAt.new w (prCs s t) 34
  have b0 : Below w.heap.size w (w.alloc (.cells (prCs s t) 34)) := (Below.refl _ _).alloc (Nat.le_refl _) _
  have hz : (w.alloc (.cells (prCs s t) 34)).heap.size = w.heap.size + 1 := by simp
  go_enter Try.func28, Try.ntmps28
  go_wp2_with fail
  generalize w.alloc (.cells (prCs s t) 34) = W at *
  have e0 : (prCs s t)[0]? = some (.int .i64 s.off) := rfl
  have e1 : (prCs s t)[1]? = some (.bool s.has) := rfl
  have e2 : (prCs s t)[2]? = some (.bool s.crc) := rfl
  have e3 : (prCs s t)[3]? = some (.int .u64 s.ver) := rfl
  have e4 : (prCs s t)[4]? = some (.int .u64 s.eof) := rfl
  have e5 : (prCs s t)[5]? = some (.int .i64 s.dp) := rfl
  have e6 : (prCs s t)[6]? = some (.int .u64 s.dc) := rfl
  have e7 : (prCs s t)[7]? = some (.int .i64 s.bp) := rfl
  have e8 : (prCs s t)[8]? = some (.int .u64 s.bc) := rfl
  have e9 : (prCs s t)[9]? = some (.int .u32 s.mb) := rfl
  have e10 : (prCs s t)[10]? = some (.slice s.ba s.bl s.bk) := rfl
  have e11 : (prCs s t)[11]? = some (.string s.dmg) := rfl
  have e12 : (prCs s t)[12]? = some (.int .i64 t.off) := rfl
  have e13 : (prCs s t)[13]? = some (.bool t.has) := rfl
  have e14 : (prCs s t)[14]? = some (.bool t.crc) := rfl
  have e15 : (prCs s t)[15]? = some (.int .u64 t.ver) := rfl
  have e16 : (prCs s t)[16]? = some (.int .u64 t.eof) := rfl
  have e17 : (prCs s t)[17]? = some (.int .i64 t.dp) := rfl
  have e18 : (prCs s t)[18]? = some (.int .u64 t.dc) := rfl
  have e19 : (prCs s t)[19]? = some (.int .i64 t.bp) := rfl
  have e20 : (prCs s t)[20]? = some (.int .u64 t.bc) := rfl
  have e21 : (prCs s t)[21]? = some (.int .u32 t.mb) := rfl
  have e22 : (prCs s t)[22]? = some (.slice t.ba t.bl t.bk) := rfl
  have e23 : (prCs s t)[23]? = some (.string t.dmg) := rfl
  have hS : ∀ i, W.cell? ⟨w.heap.size, i, none⟩ = (prCs s t)[i]? := fun i => B0.cell i
  go_region_held3 (fun w' => ∀ i, w'.cell? ⟨w.heap.size, i, none⟩ = (prCs s t)[i]?) (first | exact hS | (intro i; refine (Below.cell (B := w.heap.size + 1) (w := W) (p := ⟨w.heap.size, i, none⟩) ?_ (Nat.lt_succ_self _)).trans (hS i); (repeat (first | exact Below.refl _ _ | refine Below.drew ?_ | (refine Below.alloc ?_ ?_ _; rotate_left; focus (first | (simp [hz]; done) | (simp [hz]; omega))) | (refine Below.setCell ?_ ?_ _; rotate_left; focus (first | (simp [hz]; done) | (simp [hz]; omega))))))) (fail)
  all_goals (rename_i hHeld; clear hHeld; clear e0 e1 e2 e3 e4 e5 e6 e7 e8 e9 e10 e11 e12 e13 e14 e15 e16 e17 e18 e19 e20 e21 e22 e23)
  · have Ba : BoxAt ((W.alloc (.cells s.cs 32)).alloc (.cells t.cs 32)).drew W.heap.size s.cs := ((BoxAt.new W s.cs 32).alloc (.cells t.cs 32)).drew
    have Bb : BoxAt ((W.alloc (.cells s.cs 32)).alloc (.cells t.cs 32)).drew (W.alloc (.cells s.cs 32)).heap.size t.cs := (BoxAt.new (W.alloc (.cells s.cs 32)) t.cs 32).drew
    have bw : Below w.heap.size w ((W.alloc (.cells s.cs 32)).alloc (.cells t.cs 32)).drew := ((b0.alloc (by omega) _).alloc (by simp; omega) _).drew
    rw [hz] at Ba
    rw [show (W.alloc (.cells s.cs 32)).heap.size = w.heap.size + 1 + 1 by simp [hz]] at Bb
    change Exit.then _ _ _ _ ((W.alloc (.cells s.cs 32)).alloc (.cells t.cs 32)).drew
    generalize ((W.alloc (.cells s.cs 32)).alloc (.cells t.cs 32)).drew = W2 at *
    generalize hq : w.heap.size + 1 + 1 = q at *
    generalize hp : w.heap.size + 1 = p at *
    have Bs := Ba
    have Bt := Bb
    have hz2 : w.heap.size ≤ W2.heap.size := bw.size
    clear Ba Bb hp hq b0 hS hz B0
    cases h0 : s.snd
    · go_wp2_with (first | (refine load_in 32 _ rfl rfl p 0 rfl s.cs _ Bs.range Try.underlying32 rfl info32 ?_))
      refine (sound_any s W2).mono ?_
      rintro e w3 ⟨rfl, hb3⟩
      rw [h0]
      have b3 : Below w.heap.size w w3 := bw.trans (hb3.mono hz2)
      go_wp2
      go_ret
      exact ⟨ret_bool (by simp [h0]), b3⟩
    go_wp2_with (first | (refine load_in 32 _ rfl rfl p 0 rfl s.cs _ Bs.range Try.underlying32 rfl info32 ?_))
    refine (sound_any s W2).mono ?_
    rintro e w3 ⟨rfl, hb3⟩
    rw [h0]
    have b3 : Below w.heap.size w w3 := bw.trans (hb3.mono hz2)
    have Bs3 := Bs.below hb3 Bs.lt
    have Bt3 := Bt.below hb3 Bt.lt
    have hz3 : w.heap.size ≤ w3.heap.size := b3.size
    clear Bs Bt bw hb3 hz2
    go_wp2_with (first | (refine load_in 32 _ rfl rfl q 0 rfl t.cs _ Bt3.range Try.underlying32 rfl info32 ?_))
    refine (sound_any t w3).mono ?_
    rintro e w4 ⟨rfl, hb4⟩
    have b4 : Below w.heap.size w w4 := b3.trans (hb4.mono hz3)
    have Bs4 := Bs3.below hb4 Bs3.lt
    have Bt4 := Bt3.below hb4 Bt3.lt
    have cs3 : w4.cell? ⟨p, 3, none⟩ = some (.int .u64 s.ver) := Bs4.cell 3
    have ct3 : w4.cell? ⟨q, 3, none⟩ = some (.int .u64 t.ver) := Bt4.cell 3
    have cs10 : w4.cell? ⟨p, 10, none⟩ = some (.slice s.ba s.bl s.bk) := Bs4.cell 10
    have ct10 : w4.cell? ⟨q, 10, none⟩ = some (.slice t.ba t.bl t.bk) := Bt4.cell 10
    clear Bs3 Bt3 b3 hb4 hz3 Bs4 Bt4
    cases h1 : t.snd
    · go_wp2
      go_ret
      exact ⟨ret_bool (by simp [h1]), b4⟩
    by_cases hv : s.ver = t.ver
    · have hv' : (s.ver == t.ver) = true := by simp [hv]
      have HV : Hid (s.ver = t.ver) := hv
      clear hv
      go_wp2
      go_ret
      exact ⟨ret_bool (by simp [h0, h1, HV.out, intCast_beq]), b4⟩
    · have hv' : (s.ver == t.ver) = false := by simp [hv]
      go_wp2
      go_ret
      exact ⟨ret_bool (by simp [h0, h1, hv]), b4⟩
  · have Ba : BoxAt ((W.alloc (.cells t.cs 32)).alloc (.cells s.cs 32)).drew W.heap.size t.cs := ((BoxAt.new W t.cs 32).alloc (.cells s.cs 32)).drew
    have Bb : BoxAt ((W.alloc (.cells t.cs 32)).alloc (.cells s.cs 32)).drew (W.alloc (.cells t.cs 32)).heap.size s.cs := (BoxAt.new (W.alloc (.cells t.cs 32)) s.cs 32).drew
    have bw : Below w.heap.size w ((W.alloc (.cells t.cs 32)).alloc (.cells s.cs 32)).drew := ((b0.alloc (by omega) _).alloc (by simp; omega) _).drew
    rw [hz] at Ba
    rw [show (W.alloc (.cells t.cs 32)).heap.size = w.heap.size + 1 + 1 by simp [hz]] at Bb
    change Exit.then _ _ _ _ ((W.alloc (.cells t.cs 32)).alloc (.cells s.cs 32)).drew
    generalize ((W.alloc (.cells t.cs 32)).alloc (.cells s.cs 32)).drew = W2 at *
    generalize hq : w.heap.size + 1 + 1 = p at *
    generalize hp : w.heap.size + 1 = q at *
    have Bs := Bb
    have Bt := Ba
    have hz2 : w.heap.size ≤ W2.heap.size := bw.size
    clear Ba Bb hp hq b0 hS hz B0
    cases h0 : s.snd
    · go_wp2_with (first | (refine load_in 32 _ rfl rfl p 0 rfl s.cs _ Bs.range Try.underlying32 rfl info32 ?_))
      refine (sound_any s W2).mono ?_
      rintro e w3 ⟨rfl, hb3⟩
      rw [h0]
      have b3 : Below w.heap.size w w3 := bw.trans (hb3.mono hz2)
      go_wp2
      go_ret
      exact ⟨ret_bool (by simp [h0]), b3⟩
    go_wp2_with (first | (refine load_in 32 _ rfl rfl p 0 rfl s.cs _ Bs.range Try.underlying32 rfl info32 ?_))
    refine (sound_any s W2).mono ?_
    rintro e w3 ⟨rfl, hb3⟩
    rw [h0]
    have b3 : Below w.heap.size w w3 := bw.trans (hb3.mono hz2)
    have Bs3 := Bs.below hb3 Bs.lt
    have Bt3 := Bt.below hb3 Bt.lt
    have hz3 : w.heap.size ≤ w3.heap.size := b3.size
    clear Bs Bt bw hb3 hz2
    go_wp2_with (first | (refine load_in 32 _ rfl rfl q 0 rfl t.cs _ Bt3.range Try.underlying32 rfl info32 ?_))
    refine (sound_any t w3).mono ?_
    rintro e w4 ⟨rfl, hb4⟩
    have b4 : Below w.heap.size w w4 := b3.trans (hb4.mono hz3)
    have Bs4 := Bs3.below hb4 Bs3.lt
    have Bt4 := Bt3.below hb4 Bt3.lt
    have cs3 : w4.cell? ⟨p, 3, none⟩ = some (.int .u64 s.ver) := Bs4.cell 3
    have ct3 : w4.cell? ⟨q, 3, none⟩ = some (.int .u64 t.ver) := Bt4.cell 3
    have cs10 : w4.cell? ⟨p, 10, none⟩ = some (.slice s.ba s.bl s.bk) := Bs4.cell 10
    have ct10 : w4.cell? ⟨q, 10, none⟩ = some (.slice t.ba t.bl t.bk) := Bt4.cell 10
    clear Bs3 Bt3 b3 hb4 hz3 Bs4 Bt4
    cases h1 : t.snd
    · go_wp2
      go_ret
      exact ⟨ret_bool (by simp [h1]), b4⟩
    by_cases hv : s.ver = t.ver
    · have hv' : (s.ver == t.ver) = true := by simp [hv]
      have HV : Hid (s.ver = t.ver) := hv
      clear hv
      go_wp2
      go_ret
      exact ⟨ret_bool (by simp [h0, h1, HV.out, intCast_beq]), b4⟩
    · have hv' : (s.ver == t.ver) = false := by simp [hv]
      go_wp2
      go_ret
      exact ⟨ret_bool (by simp [h0, h1, hv]), b4⟩
end Go.Proofs.Qxb6602376a
