import Derived.Test.Qxb6602376aRead
namespace Go.Proofs.Qxb6602376a
open Go.RowKit

theorem Row.congr {w : World} {g n : Nat} {f f' : Nat → Bk} (h : Row w g n f) (e : ∀ i, i < n → f i = f' i) : Row w g n f' :=
  ⟨h.lt, fun i hi => by rw [← e i hi]; exact h.at_ i hi, h.room⟩
theorem Row.alloc {w : World} {g n : Nat} {f : Nat → Bk} (h : Row w g n f) (o : Obj) : Row (w.alloc o) g n f :=
  ⟨by have := h.lt; simp; omega, fun i hi => .of_range (World.rangeAt_alloc (h.at_ i hi).range o), World.there_alloc h.room o⟩
theorem Row.drew {w : World} {g n : Nat} {f : Nat → Bk} (h : Row w g n f) : Row w.drew g n f := ⟨h.lt, fun i hi => ⟨(h.at_ i hi).c0, (h.at_ i hi).c1, (h.at_ i hi).c2, (h.at_ i hi).c3⟩, h.room⟩
theorem Row.setCells {w : World} {g n : Nat} {f : Nat → Bk} (h : Row w g n f) (g' o : Nat) (vs : List Value) (hg : g ≠ g') : Row (w.setCells g' o vs) g n f :=
  ⟨by rw [size_setCells]; exact h.lt, fun i hi => .of_range (World.rangeAt_setCells_apart (h.at_ i hi).range _ _ _ (.inl hg)), World.there_setCells h.room _ _ _⟩
theorem Row.room4 {w : World} {g n k : Nat} {f : Nat → Bk} (h : Row w g n f) (hk : k < n) : w.there g (k * 4) 4 := fun j hj => by
  have := h.room (k * 4 + j) (by omega)
  rwa [Nat.zero_add] at this
theorem Row.put {w : World} {g n k : Nat} {f : Nat → Bk} (h : Row w g n f) (hk : k < n) (b : Bk) : Row (w.setCells g (k * 4) b.cs.toList) g n (fun i => if i = k then b else f i) := by
  refine ⟨by rw [size_setCells]; exact h.lt, fun i hi => ?_, World.there_setCells h.room _ _ _⟩
  by_cases e : i = k
  · subst e
    simp only [if_true]
    exact .of_range (World.rangeAt_setCells_same _ _ _ _ (h.room4 hk))
  · simp only [if_neg e]
    refine .of_range (World.rangeAt_setCells_apart (h.at_ i hi).range _ _ _ (.inr ?_))
    show i * 4 + 4 ≤ k * 4 ∨ k * 4 + 4 ≤ i * 4
    omega
theorem Row.tab {w : World} {g n : Nat} {f : Nat → Bk} {bs : List Bk} (h : Row w g n f) (hl : bs.length = n) (e : ∀ i, i < n → f i = bs.getD i bk0) : Tab w (some ⟨g, 0, none⟩) n bs :=
  ⟨hl, .inr ⟨g, 0, rfl, h.lt, fun i hi => by rw [Nat.zero_add, ← e i hi]; exact h.at_ i hi⟩⟩

theorem BoxAt.setCell {w : World} {g : Nat} {cs : Array Value} (h : BoxAt w g cs) (i : Nat) (v : Value) : BoxAt (w.setCell ⟨g, i, none⟩ v) g (cs.setIfInBounds i v) := by
  obtain ⟨t, h⟩ := h
  exact ⟨t, heap_setCell_same w g i cs t v h⟩
theorem BoxAt.setOther {w : World} {g : Nat} {cs : Array Value} (h : BoxAt w g cs) (a : Addr) (v : Value) (hg : g ≠ a.block) : BoxAt (w.setCell a v) g cs := by
  obtain ⟨t, h⟩ := h
  exact ⟨t, by rw [heap_setCell_other _ _ _ _ hg]; exact h⟩
theorem BoxAt.setCells {g : Nat} {cs : Array Value} (g' : Nat) (hg : g ≠ g') : ∀ (vs : List Value) (o : Nat) (w : World), BoxAt w g cs → BoxAt (w.setCells g' o vs) g cs
  | [], _, _, h => h
  | v :: r, o, _, h => BoxAt.setCells g' hg r (o + 1) _ (h.setOther ⟨g', o, none⟩ v hg)
theorem Row.setCell {w : World} {g n : Nat} {f : Nat → Bk} (h : Row w g n f) (a : Addr) (ha : g ≠ a.block) (v : Value) (hs : a.spot = none) : Row (w.setCell a v) g n f := by
  obtain ⟨b, o, sp⟩ := a
  simp only at hs ha
  subst hs
  exact h.setCells b o [v] ha

/-- The table after 'k' rounds. -/
def part (bs bt : List Bk) (k i : Nat) : Bk := if i < k then pick (bs.getD i bk0) (bt.getD i bk0) else bs.getD i bk0
theorem part_zero (bs bt : List Bk) (i : Nat) : part bs bt 0 i = bs.getD i bk0 := by simp [part]
theorem part_keep (bs bt : List Bk) (k i : Nat) (h : (bs.getD k bk0).ok = true) : part bs bt k i = part bs bt (k + 1) i := by
  unfold part
  by_cases e : i = k
  · subst e; rw [if_neg (by omega), if_pos (by omega), pick, if_pos h]
  · by_cases l : i < k
    · rw [if_pos l, if_pos (by omega)]
    · rw [if_neg l, if_neg (by omega)]
theorem part_put (bs bt : List Bk) (k i : Nat) (h : (bs.getD k bk0).ok = false) : (if i = k then bt.getD k bk0 else part bs bt k i) = part bs bt (k + 1) i := by
  unfold part
  by_cases e : i = k
  · subst e; rw [if_pos rfl, if_pos (by omega), pick, if_neg (by rw [h]; exact Bool.false_ne_true)]
  · rw [if_neg e]
    by_cases l : i < k
    · rw [if_pos l, if_pos (by omega)]
    · rw [if_neg l, if_neg (by omega)]
theorem part_self (bs bt : List Bk) (k : Nat) : part bs bt k k = bs.getD k bk0 := by simp [part]

theorem cop_bl {s t : Sl} (h : cop s t = true) : s.bl = t.bl := by
  simp [cop] at h; exact h.2

/-- The bank table that the loop turns: none to turn, or a row of the call's own. -/
def Turns (B : Nat) (w : World) (ba : Option Addr) (n : Nat) (f : Nat → Bk) : Prop := n = 0 ∨ ∃ g, ba = some ⟨g, 0, none⟩ ∧ B ≤ g ∧ Row w g n f

set_option maxHeartbeats 8000000 in
theorem read_mrg (s t : Sl) (bs bt : List Bk) (w : World) (hs : Tab w s.ba s.bl bs) (ht : Tab w t.ba t.bl bt) (hsl : s.bl ≤ 1048576) (htl : t.bl ≤ 1048576) (ha : act s t bs bt = -1) (hc : cop s t = true) (hns : s.ba = none → s.bl = 0 ∧ s.bk = 0) :
    Calls Try.prog 16 #[.agg (prCs s t)] w fun e w' => RdSays s t bs bt e w' ∧ Below w.heap.size w w' := by
  have B0 := (BoxAt.new w (prCs s t) 34).alloc (.cells sl0.cs 32)
  have Z0 := BoxAt.new (w.alloc (.cells (prCs s t) 34)) sl0.cs 32
  have b0 : Below w.heap.size w ((w.alloc (.cells (prCs s t) 34)).alloc (.cells sl0.cs 32)) := ((Below.refl _ _).alloc (Nat.le_refl _) _).alloc (by simp) _
  have hz : ((w.alloc (.cells (prCs s t) 34)).alloc (.cells sl0.cs 32)).heap.size = w.heap.size + 2 := by simp
  rw [show (w.alloc (.cells (prCs s t) 34)).heap.size = w.heap.size + 1 by simp] at Z0
  go_enter Try.func16, Try.ntmps16
  go_wp2_with (first | (refine load_in 34 _ rfl rfl w.heap.size 0 rfl (prCs s t) _ B0.range Try.underlying34 rfl info34 ?_))
  change Calls _ _ _ ((w.alloc (.cells (prCs s t) 34)).alloc (.cells sl0.cs 32)) _
  generalize (w.alloc (.cells (prCs s t) 34)).alloc (.cells sl0.cs 32) = W at *
  refine (active_any s t bs bt W (hs.below b0) (ht.below b0) hsl htl).mono ?_
  rintro e w1 ⟨rfl, hb1⟩
  rw [ha]
  have B1 := B0.below hb1 (by omega)
  have Z1 := Z0.below hb1 (by omega)
  have b1 : Below w.heap.size w w1 := b0.trans (hb1.mono (by omega))
  have hth : w1.there (w.heap.size + 1) 0 12 := box_there Z1 _ (Nat.le_refl _)
  have hlt : w.heap.size + 2 ≤ w1.heap.size := by have := hb1.size; omega
  clear hb1 B0 Z0 b0 hz
  go_wp2_with (first | (refine load_in 34 _ rfl rfl w.heap.size 0 rfl (prCs s t) _ B1.range Try.underlying34 rfl info34 ?_))
  refine (copies_any s t w1).mono ?_
  rintro e w2 ⟨rfl, hb2⟩
  rw [show (s.snd && t.snd && (s.ver == t.ver) && (s.bl == t.bl)) = true from hc]
  have Z2 := Z1.below hb2 (by omega)
  have B2 := B1.below hb2 (by omega)
  have hz2 : w.heap.size + 2 ≤ w2.heap.size := Nat.le_trans hlt hb2.size
  have b2 : Below w.heap.size w w2 := b1.trans (hb2.mono (by omega))
  have hth2 : w2.there (w.heap.size + 1) 0 12 := box_there Z2 _ (Nat.le_refl _)
  clear hb2 B1 Z1 b1 hth hth2 hlt
  have e0 : (prCs s t)[0]? = some (.int .i64 s.off) := rfl
  have e1 : (prCs s t)[1]? = some (.bool s.has) := rfl
  have e2 : (prCs s t)[2]? = some (.bool s.crc) := rfl
  have e3 : (prCs s t)[3]? = some (.int .u64 s.ver) := rfl
  have e4 : (prCs s t)[4]? = some (.int .u64 s.eof) := rfl
  have e5 : (prCs s t)[5]? = some (.int .i64 s.dp) := rfl
  have e6 : (prCs s t)[6]? = some (.int .u64 s.dc) := rfl
  have e7 : (prCs s t)[7]? = some (.int .i64 s.bp) := rfl
  have e8 : (prCs s t)[8]? = some (.int .u64 s.bc) := rfl
  have e9 : (prCs s t)[9]? = some (.int .u32 s.mb) := rfl
  have e10 : (prCs s t)[10]? = some (.slice s.ba s.bl s.bk) := rfl
  have e11 : (prCs s t)[11]? = some (.string s.dmg) := rfl
  have e12 : (prCs s t)[12]? = some (.int .i64 t.off) := rfl
  have e13 : (prCs s t)[13]? = some (.bool t.has) := rfl
  have e14 : (prCs s t)[14]? = some (.bool t.crc) := rfl
  have e15 : (prCs s t)[15]? = some (.int .u64 t.ver) := rfl
  have e16 : (prCs s t)[16]? = some (.int .u64 t.eof) := rfl
  have e17 : (prCs s t)[17]? = some (.int .i64 t.dp) := rfl
  have e18 : (prCs s t)[18]? = some (.int .u64 t.dc) := rfl
  have e19 : (prCs s t)[19]? = some (.int .i64 t.bp) := rfl
  have e20 : (prCs s t)[20]? = some (.int .u64 t.bc) := rfl
  have e21 : (prCs s t)[21]? = some (.int .u32 t.mb) := rfl
  have e22 : (prCs s t)[22]? = some (.slice t.ba t.bl t.bk) := rfl
  have e23 : (prCs s t)[23]? = some (.string t.dmg) := rfl
  have hS : ∀ i, w2.cell? ⟨w.heap.size, i, none⟩ = (prCs s t)[i]? := fun i => B2.cell i
  have hpos : w.heap.size ≠ w2.heap.size := by omega
  go_wp2_with fail
  go_region_held3 (fun w' => ∀ i, w'.cell? ⟨w.heap.size, i, none⟩ = (prCs s t)[i]?) (first | exact hS | (intro i; refine (Below.cell (B := w.heap.size + 1) (w := w2) (p := ⟨w.heap.size, i, none⟩) ?_ (Nat.lt_succ_self _)).trans (hS i); (repeat (first | exact Below.refl _ _ | refine Below.drew ?_ | (refine Below.alloc ?_ ?_ _; rotate_left; focus (first | omega | (simp; omega))) | (refine Below.setCell ?_ ?_ _; rotate_left; focus (first | omega | (simp; omega))))))) (fail)
  all_goals (rename_i hHeld; clear hHeld; clear e0 e1 e2 e3 e4 e5 e6 e7 e8 e9 e10 e11 e12 e13 e14 e15 e16 e17 e18 e19 e20 e21 e22 e23)
  · have Ba : BoxAt ((w2.alloc (.cells s.cs 32)).alloc (.cells t.cs 32)).drew w2.heap.size s.cs := ((BoxAt.new w2 s.cs 32).alloc (.cells t.cs 32)).drew
    have Bb : BoxAt ((w2.alloc (.cells s.cs 32)).alloc (.cells t.cs 32)).drew (w2.alloc (.cells s.cs 32)).heap.size t.cs := (BoxAt.new (w2.alloc (.cells s.cs 32)) t.cs 32).drew
    have Z3 : BoxAt ((w2.alloc (.cells s.cs 32)).alloc (.cells t.cs 32)).drew (w.heap.size + 1) sl0.cs := ((Z2.alloc (.cells s.cs 32)).alloc (.cells t.cs 32)).drew
    have b3 : Below w.heap.size w ((w2.alloc (.cells s.cs 32)).alloc (.cells t.cs 32)).drew := ((b2.alloc (by omega) _).alloc (by simp; omega) _).drew
    rw [show (w2.alloc (.cells s.cs 32)).heap.size = w2.heap.size + 1 by simp] at Bb
    change Exit.then _ _ _ _ ((w2.alloc (.cells s.cs 32)).alloc (.cells t.cs 32)).drew
    generalize ((w2.alloc (.cells s.cs 32)).alloc (.cells t.cs 32)).drew = w3 at *
    obtain ⟨q, hq⟩ : ∃ x, x = w2.heap.size + 1 := ⟨_, rfl⟩
    obtain ⟨p, hp⟩ : ∃ x, x = w2.heap.size := ⟨_, rfl⟩
    rw [← hq] at Bb ⊢
    rw [← hp] at Ba ⊢
    have Bs := Ba
    have Bt := Bb
    have hpq : p ≠ q := by omega
    have hp1 : w.heap.size + 2 ≤ p := by omega
    have hq1 : w.heap.size + 2 ≤ q := by omega
    clear Ba Bb hp hq hS Z2 B2 b2 hz2 hpos
    have hz3 : w.heap.size ≤ w3.heap.size := b3.size
    have c10 : w3.cell? ⟨p, 10, none⟩ = some (.slice s.ba s.bl s.bk) := Bs.cell 10
    go_wp2_with fail
    refine (clone_any s.ba s.bl s.bk bs w3 (hs.below b3) hsl hns).mono ?_
    rintro e w4 ⟨⟨ba', bk', rfl, hR⟩, hb4⟩
    have Bs4 := Bs.below hb4 Bs.lt
    have Bt4 := Bt.below hb4 Bt.lt
    have Z4 := Z3.below hb4 Z3.lt
    have b4 : Below w.heap.size w w4 := b3.trans (hb4.mono hz3)
    have d10 : w4.cell? ⟨p, 10, none⟩ = some (.slice s.ba s.bl s.bk) := Bs4.cell 10
    have f10 := Bs4.frozen 10
    have hp3 : p < w3.heap.size := Bs.lt
    have hq3 : q < w3.heap.size := Bt.lt
    have hr3 : w.heap.size + 1 < w3.heap.size := Z3.lt
    clear c10 hb4 Bs Bt Z3 b3
    go_wp2
    have Bs5 : BoxAt (w4.setCell ⟨p, 10, none⟩ (.slice ba' s.bl bk')) p ({ s with ba := ba', bk := bk' } : Sl).cs := Bs4.setCell 10 _
    have Bt5 := Bt4.setOther ⟨p, 10, none⟩ (.slice ba' s.bl bk') hpq.symm
    have Z5 := Z4.setOther ⟨p, 10, none⟩ (.slice ba' s.bl bk') (by show w.heap.size + 1 ≠ p; omega)
    have b5 := b4.setCell (p := ⟨p, 10, none⟩) (by show w.heap.size ≤ p; omega) (.slice ba' s.bl bk')
    have R5 : Turns w3.heap.size (w4.setCell ⟨p, 10, none⟩ (.slice ba' s.bl bk')) ba' s.bl (part bs bt 0) := by
      rcases hR with h | ⟨g, e, hg, R⟩
      · exact .inl h
      · exact .inr ⟨g, e, hg, (R.setCell _ (by show g ≠ p; omega) _ rfl).congr fun i _ => (part_zero bs bt i).symm⟩
    clear Bs4 Bt4 Z4 b4 d10 f10 hR
    go_loopw [31] (fun i wr => ∃ k : Nat, k ≤ s.bl ∧ i = .int .i64 k ∧ Turns w3.heap.size wr ba' s.bl (part bs bt k) ∧ BoxAt wr p ({ s with ba := ba', bk := bk' } : Sl).cs ∧ BoxAt wr q t.cs ∧ BoxAt wr (w.heap.size + 1) sl0.cs ∧ Hid (Below w.heap.size w wr)) (fun i _ => s.bl - (intOf i).toNat)
    case atStart => exact ⟨0, Nat.zero_le _, rfl, R5, Bs5, Bt5, Z5, b5⟩
    case round =>
      clear R5 Bs5 Bt5 Z5 b5
      obtain ⟨k, hk, rfl, R, Bs, Bt, Z, HB⟩ := hrel
      by_cases hlt : k < s.bl
      · rcases R with h | ⟨g, rfl, hg, R⟩
        · omega
        have hat := R.at_ k hlt
        rw [part_self] at hat
        obtain ⟨b, hbk⟩ : ∃ b, bs.getD k bk0 = b := ⟨_, rfl⟩
        rw [hbk] at hat
        have HK : Hid (bs.getD k bk0 = b) := hbk
        obtain ⟨c0, c1, c2, c3⟩ := hat
        clear hbk
        cases hok : b.ok
        · rw [hok] at c3
          have hbl : s.bl = t.bl := cop_bl hc
          rcases ht.at_ with h | ⟨g2, o2, hta, hg2, hx⟩
          · omega
          obtain ⟨b2, hbk2⟩ : ∃ b, bt.getD k bk0 = b := ⟨_, rfl⟩
          have hat2 := (hx k (by omega)).below HB.out hg2
          rw [hbk2] at hat2
          have HK2 : Hid (bt.getD k bk0 = b2) := hbk2
          have hat2' : BankAt (wr.alloc (.cells #[.int .u32 b.crc, .int .u64 b.off, .int .u32 b.sz, .bool false] 43)) g2 (o2 + k * 4) b2 := .of_range (World.rangeAt_alloc hat2.range _)
          clear hbk2 hx hat2
          have R6 := R.alloc (.cells #[.int .u32 b.crc, .int .u64 b.off, .int .u32 b.sz, .bool false] 43)
          have Bs6 := Bs.alloc (.cells #[.int .u32 b.crc, .int .u64 b.off, .int .u32 b.sz, .bool false] 43)
          have Bt6 := Bt.alloc (.cells #[.int .u32 b.crc, .int .u64 b.off, .int .u32 b.sz, .bool false] 43)
          have Z6 := Z.alloc (.cells #[.int .u32 b.crc, .int .u64 b.off, .int .u32 b.sz, .bool false] 43)
          have b6 : Below w.heap.size w (wr.alloc (.cells #[.int .u32 b.crc, .int .u64 b.off, .int .u32 b.sz, .bool false] 43)) := HB.out.alloc HB.out.size _
          go_wp2_with fail
          generalize wr.alloc (.cells #[.int .u32 b.crc, .int .u64 b.off, .int .u32 b.sz, .bool false] 43) = w6 at *
          clear c0 c1 c2 c3 R Bs Bt Z HB
          have hat := R6.at_ k hlt
          rw [part_self, HK.out] at hat
          obtain ⟨c0, c1, c2, c3⟩ := hat
          obtain ⟨d0, d1, d2, d3⟩ := hat2'
          have x10 : w6.cell? ⟨p, 10, none⟩ = some (.slice (some ⟨g, 0, none⟩) s.bl bk') := Bs6.cell 10
          have y10 : w6.cell? ⟨q, 10, none⟩ = some (.slice t.ba t.bl t.bk) := Bt6.cell 10
          rw [hta] at y10
          have fz : ∀ j, j < 4 → w6.frozen? ⟨g, k * 4 + j, none⟩ = false := fun j hj => (R6.room4 hlt j hj).2
          have fz0 : w6.frozen? ⟨g, k * 4, none⟩ = false := fz 0 (by omega)
          have fz1 := fz 1 (by omega)
          have fz2 := fz 2 (by omega)
          have fz3 := fz 3 (by omega)
          clear fz
          have hgp : g ≠ p := by omega
          have hgq : g ≠ q := by omega
          have hgg : g ≠ g2 := by omega
          have hk0 : (0 : Int) ≤ (k : Int) := by omega
          have hk1 : (k : Int) < (s.bl : Int) := by omega
          have hk2 : (k : Int) < (t.bl : Int) := by omega
          have Hbl : Hid (s.bl = t.bl) := hbl
          clear hbl hta
          go_region_held3 (fun w' => w'.cell? ⟨p, 10, none⟩ = some (.slice (some ⟨g, 0, none⟩) s.bl bk') ∧ w'.cell? ⟨q, 10, none⟩ = some (.slice (some ⟨g2, o2, none⟩) t.bl t.bk) ∧ w'.cell? ⟨g2, o2 + k * 4, none⟩ = some (.int .u32 b2.crc) ∧ w'.cell? ⟨g2, o2 + k * 4 + 1, none⟩ = some (.int .u64 b2.off) ∧ w'.cell? ⟨g2, o2 + k * 4 + 2, none⟩ = some (.int .u32 b2.sz) ∧ w'.cell? ⟨g2, o2 + k * 4 + 3, none⟩ = some (.bool b2.ok)) (go_keep) (fail)
          rename_i hHeld
          clear hHeld c0 c1 c2 c3 d0 d1 d2 d3 x10 y10 fz0 fz1 fz2 fz3
          have R7 := (R6.put hlt b2).drew
          have Bs7 : BoxAt (w6.setCells g (k * 4) b2.cs.toList).drew _ _ := (BoxAt.setCells g hgp.symm b2.cs.toList (k * 4) w6 Bs6).drew
          have Bt7 : BoxAt (w6.setCells g (k * 4) b2.cs.toList).drew _ _ := (BoxAt.setCells g hgq.symm b2.cs.toList (k * 4) w6 Bt6).drew
          have Z7 : BoxAt (w6.setCells g (k * 4) b2.cs.toList).drew _ _ := (BoxAt.setCells g (by omega) b2.cs.toList (k * 4) w6 Z6).drew
          have b7 : Below w.heap.size w (w6.setCells g (k * 4) b2.cs.toList).drew := (Below.setCells g (by omega) b2.cs.toList (k * 4) w6 b6).drew
          change Exit.inBlock _ _ _ _ (w6.setCells g (k * 4) b2.cs.toList).drew
          generalize (w6.setCells g (k * 4) b2.cs.toList).drew = w7 at *
          clear R6 Bs6 Bt6 Z6 b6
          go_wp2
          go_roundw
          case rel => exact ⟨k + 1, by omega, by go_num, .inr ⟨g, rfl, hg, R7.congr fun i _ => by rw [← HK2.out]; exact part_put bs bt k i (by rw [HK.out]; exact hok)⟩, Bs7, Bt7, Z7, b7⟩
          case measure => simp [intOf]; omega
        · rw [hok] at c3
          go_wp2
          go_roundw
          case rel => exact ⟨k + 1, by omega, by go_num, .inr ⟨g, rfl, hg, (R.alloc _).congr fun i _ => part_keep bs bt k i (by rw [HK.out]; exact hok)⟩, Bs.alloc _, Bt.alloc _, Z.alloc _, HB.out.alloc HB.out.size _⟩
          case measure => simp [intOf]; omega
      · have hkk : k = s.bl := by omega
        have hth : wr.there (w.heap.size + 1) 0 12 := box_there Z _ (Nat.le_refl _)
        have hne : p ≠ w.heap.size + 1 := by omega
        have HE : Hid (k = s.bl) := hkk
        clear hkk
        go_wp2_with (first | (refine load_in 32 _ rfl rfl p 0 rfl ({ s with ba := ba', bk := bk' } : Sl).cs _ ?_ Try.underlying32 rfl info32 ?_; exact Bs.range) | (refine store_in 32 _ _ rfl rfl (w.heap.size + 1) 0 ({ s with ba := ba', bk := bk' } : Sl).cs rfl rfl ?_ info32 (Sl.cs_one _) ?_; exact hth))
        refine bodyPost_ret (v := .tuple #[.agg ({ s with ba := ba', bk := bk' } : Sl).cs, .bool true]) (results_two Try.results16 _ _ (w.heap.size + 1) 0 ({ s with ba := ba', bk := bk' } : Sl).cs _ _ rfl rfl (World.rangeAt_setCells_same _ _ _ _ hth) Try.underlying32 rfl info32) rfl ?_
        refine ⟨⟨_, mrg bs bt s.bl, true, rfl, ?_, .inr (.inr (.inl ⟨ha, hc, rfl, ⟨ba', bk', rfl⟩, rfl⟩))⟩, Below.setCells _ (by omega) _ _ _ HB.out⟩
        rcases R with h | ⟨g, rfl, hg, R⟩
        · exact ⟨mrg_len _ _ _, .inl h⟩
        · exact (R.setCells _ _ _ (by omega)).tab (mrg_len _ _ _) fun i hi => by rw [mrg_get _ _ _ _ hi, part, if_pos (by rw [HE.out]; exact hi)]
  · have Ba : BoxAt ((w2.alloc (.cells t.cs 32)).alloc (.cells s.cs 32)).drew w2.heap.size t.cs := ((BoxAt.new w2 t.cs 32).alloc (.cells s.cs 32)).drew
    have Bb : BoxAt ((w2.alloc (.cells t.cs 32)).alloc (.cells s.cs 32)).drew (w2.alloc (.cells t.cs 32)).heap.size s.cs := (BoxAt.new (w2.alloc (.cells t.cs 32)) s.cs 32).drew
    have Z3 : BoxAt ((w2.alloc (.cells t.cs 32)).alloc (.cells s.cs 32)).drew (w.heap.size + 1) sl0.cs := ((Z2.alloc (.cells t.cs 32)).alloc (.cells s.cs 32)).drew
    have b3 : Below w.heap.size w ((w2.alloc (.cells t.cs 32)).alloc (.cells s.cs 32)).drew := ((b2.alloc (by omega) _).alloc (by simp; omega) _).drew
    rw [show (w2.alloc (.cells t.cs 32)).heap.size = w2.heap.size + 1 by simp] at Bb
    change Exit.then _ _ _ _ ((w2.alloc (.cells t.cs 32)).alloc (.cells s.cs 32)).drew
    generalize ((w2.alloc (.cells t.cs 32)).alloc (.cells s.cs 32)).drew = w3 at *
    obtain ⟨p, hq⟩ : ∃ x, x = w2.heap.size + 1 := ⟨_, rfl⟩
    obtain ⟨q, hp⟩ : ∃ x, x = w2.heap.size := ⟨_, rfl⟩
    rw [← hq] at Bb ⊢
    rw [← hp] at Ba ⊢
    have Bs := Bb
    have Bt := Ba
    have hpq : p ≠ q := by omega
    have hp1 : w.heap.size + 2 ≤ p := by omega
    have hq1 : w.heap.size + 2 ≤ q := by omega
    clear Ba Bb hp hq hS Z2 B2 b2 hz2 hpos
    have hz3 : w.heap.size ≤ w3.heap.size := b3.size
    have c10 : w3.cell? ⟨p, 10, none⟩ = some (.slice s.ba s.bl s.bk) := Bs.cell 10
    go_wp2_with fail
    refine (clone_any s.ba s.bl s.bk bs w3 (hs.below b3) hsl hns).mono ?_
    rintro e w4 ⟨⟨ba', bk', rfl, hR⟩, hb4⟩
    have Bs4 := Bs.below hb4 Bs.lt
    have Bt4 := Bt.below hb4 Bt.lt
    have Z4 := Z3.below hb4 Z3.lt
    have b4 : Below w.heap.size w w4 := b3.trans (hb4.mono hz3)
    have d10 : w4.cell? ⟨p, 10, none⟩ = some (.slice s.ba s.bl s.bk) := Bs4.cell 10
    have f10 := Bs4.frozen 10
    have hp3 : p < w3.heap.size := Bs.lt
    have hq3 : q < w3.heap.size := Bt.lt
    have hr3 : w.heap.size + 1 < w3.heap.size := Z3.lt
    clear c10 hb4 Bs Bt Z3 b3
    go_wp2
    have Bs5 : BoxAt (w4.setCell ⟨p, 10, none⟩ (.slice ba' s.bl bk')) p ({ s with ba := ba', bk := bk' } : Sl).cs := Bs4.setCell 10 _
    have Bt5 := Bt4.setOther ⟨p, 10, none⟩ (.slice ba' s.bl bk') hpq.symm
    have Z5 := Z4.setOther ⟨p, 10, none⟩ (.slice ba' s.bl bk') (by show w.heap.size + 1 ≠ p; omega)
    have b5 := b4.setCell (p := ⟨p, 10, none⟩) (by show w.heap.size ≤ p; omega) (.slice ba' s.bl bk')
    have R5 : Turns w3.heap.size (w4.setCell ⟨p, 10, none⟩ (.slice ba' s.bl bk')) ba' s.bl (part bs bt 0) := by
      rcases hR with h | ⟨g, e, hg, R⟩
      · exact .inl h
      · exact .inr ⟨g, e, hg, (R.setCell _ (by show g ≠ p; omega) _ rfl).congr fun i _ => (part_zero bs bt i).symm⟩
    clear Bs4 Bt4 Z4 b4 d10 f10 hR
    go_loopw [31] (fun i wr => ∃ k : Nat, k ≤ s.bl ∧ i = .int .i64 k ∧ Turns w3.heap.size wr ba' s.bl (part bs bt k) ∧ BoxAt wr p ({ s with ba := ba', bk := bk' } : Sl).cs ∧ BoxAt wr q t.cs ∧ BoxAt wr (w.heap.size + 1) sl0.cs ∧ Hid (Below w.heap.size w wr)) (fun i _ => s.bl - (intOf i).toNat)
    case atStart => exact ⟨0, Nat.zero_le _, rfl, R5, Bs5, Bt5, Z5, b5⟩
    case round =>
      clear R5 Bs5 Bt5 Z5 b5
      obtain ⟨k, hk, rfl, R, Bs, Bt, Z, HB⟩ := hrel
      by_cases hlt : k < s.bl
      · rcases R with h | ⟨g, rfl, hg, R⟩
        · omega
        have hat := R.at_ k hlt
        rw [part_self] at hat
        obtain ⟨b, hbk⟩ : ∃ b, bs.getD k bk0 = b := ⟨_, rfl⟩
        rw [hbk] at hat
        have HK : Hid (bs.getD k bk0 = b) := hbk
        obtain ⟨c0, c1, c2, c3⟩ := hat
        clear hbk
        cases hok : b.ok
        · rw [hok] at c3
          have hbl : s.bl = t.bl := cop_bl hc
          rcases ht.at_ with h | ⟨g2, o2, hta, hg2, hx⟩
          · omega
          obtain ⟨b2, hbk2⟩ : ∃ b, bt.getD k bk0 = b := ⟨_, rfl⟩
          have hat2 := (hx k (by omega)).below HB.out hg2
          rw [hbk2] at hat2
          have HK2 : Hid (bt.getD k bk0 = b2) := hbk2
          have hat2' : BankAt (wr.alloc (.cells #[.int .u32 b.crc, .int .u64 b.off, .int .u32 b.sz, .bool false] 43)) g2 (o2 + k * 4) b2 := .of_range (World.rangeAt_alloc hat2.range _)
          clear hbk2 hx hat2
          have R6 := R.alloc (.cells #[.int .u32 b.crc, .int .u64 b.off, .int .u32 b.sz, .bool false] 43)
          have Bs6 := Bs.alloc (.cells #[.int .u32 b.crc, .int .u64 b.off, .int .u32 b.sz, .bool false] 43)
          have Bt6 := Bt.alloc (.cells #[.int .u32 b.crc, .int .u64 b.off, .int .u32 b.sz, .bool false] 43)
          have Z6 := Z.alloc (.cells #[.int .u32 b.crc, .int .u64 b.off, .int .u32 b.sz, .bool false] 43)
          have b6 : Below w.heap.size w (wr.alloc (.cells #[.int .u32 b.crc, .int .u64 b.off, .int .u32 b.sz, .bool false] 43)) := HB.out.alloc HB.out.size _
          go_wp2_with fail
          generalize wr.alloc (.cells #[.int .u32 b.crc, .int .u64 b.off, .int .u32 b.sz, .bool false] 43) = w6 at *
          clear c0 c1 c2 c3 R Bs Bt Z HB
          have hat := R6.at_ k hlt
          rw [part_self, HK.out] at hat
          obtain ⟨c0, c1, c2, c3⟩ := hat
          obtain ⟨d0, d1, d2, d3⟩ := hat2'
          have x10 : w6.cell? ⟨p, 10, none⟩ = some (.slice (some ⟨g, 0, none⟩) s.bl bk') := Bs6.cell 10
          have y10 : w6.cell? ⟨q, 10, none⟩ = some (.slice t.ba t.bl t.bk) := Bt6.cell 10
          rw [hta] at y10
          have fz : ∀ j, j < 4 → w6.frozen? ⟨g, k * 4 + j, none⟩ = false := fun j hj => (R6.room4 hlt j hj).2
          have fz0 : w6.frozen? ⟨g, k * 4, none⟩ = false := fz 0 (by omega)
          have fz1 := fz 1 (by omega)
          have fz2 := fz 2 (by omega)
          have fz3 := fz 3 (by omega)
          clear fz
          have hgp : g ≠ p := by omega
          have hgq : g ≠ q := by omega
          have hgg : g ≠ g2 := by omega
          have hk0 : (0 : Int) ≤ (k : Int) := by omega
          have hk1 : (k : Int) < (s.bl : Int) := by omega
          have hk2 : (k : Int) < (t.bl : Int) := by omega
          have Hbl : Hid (s.bl = t.bl) := hbl
          clear hbl hta
          go_region_held3 (fun w' => w'.cell? ⟨p, 10, none⟩ = some (.slice (some ⟨g, 0, none⟩) s.bl bk') ∧ w'.cell? ⟨q, 10, none⟩ = some (.slice (some ⟨g2, o2, none⟩) t.bl t.bk) ∧ w'.cell? ⟨g2, o2 + k * 4, none⟩ = some (.int .u32 b2.crc) ∧ w'.cell? ⟨g2, o2 + k * 4 + 1, none⟩ = some (.int .u64 b2.off) ∧ w'.cell? ⟨g2, o2 + k * 4 + 2, none⟩ = some (.int .u32 b2.sz) ∧ w'.cell? ⟨g2, o2 + k * 4 + 3, none⟩ = some (.bool b2.ok)) (go_keep) (fail)
          rename_i hHeld
          clear hHeld c0 c1 c2 c3 d0 d1 d2 d3 x10 y10 fz0 fz1 fz2 fz3
          have R7 := (R6.put hlt b2).drew
          have Bs7 : BoxAt (w6.setCells g (k * 4) b2.cs.toList).drew _ _ := (BoxAt.setCells g hgp.symm b2.cs.toList (k * 4) w6 Bs6).drew
          have Bt7 : BoxAt (w6.setCells g (k * 4) b2.cs.toList).drew _ _ := (BoxAt.setCells g hgq.symm b2.cs.toList (k * 4) w6 Bt6).drew
          have Z7 : BoxAt (w6.setCells g (k * 4) b2.cs.toList).drew _ _ := (BoxAt.setCells g (by omega) b2.cs.toList (k * 4) w6 Z6).drew
          have b7 : Below w.heap.size w (w6.setCells g (k * 4) b2.cs.toList).drew := (Below.setCells g (by omega) b2.cs.toList (k * 4) w6 b6).drew
          change Exit.inBlock _ _ _ _ (w6.setCells g (k * 4) b2.cs.toList).drew
          generalize (w6.setCells g (k * 4) b2.cs.toList).drew = w7 at *
          clear R6 Bs6 Bt6 Z6 b6
          go_wp2
          go_roundw
          case rel => exact ⟨k + 1, by omega, by go_num, .inr ⟨g, rfl, hg, R7.congr fun i _ => by rw [← HK2.out]; exact part_put bs bt k i (by rw [HK.out]; exact hok)⟩, Bs7, Bt7, Z7, b7⟩
          case measure => simp [intOf]; omega
        · rw [hok] at c3
          go_wp2
          go_roundw
          case rel => exact ⟨k + 1, by omega, by go_num, .inr ⟨g, rfl, hg, (R.alloc _).congr fun i _ => part_keep bs bt k i (by rw [HK.out]; exact hok)⟩, Bs.alloc _, Bt.alloc _, Z.alloc _, HB.out.alloc HB.out.size _⟩
          case measure => simp [intOf]; omega
      · have hkk : k = s.bl := by omega
        have hth : wr.there (w.heap.size + 1) 0 12 := box_there Z _ (Nat.le_refl _)
        have hne : p ≠ w.heap.size + 1 := by omega
        have HE : Hid (k = s.bl) := hkk
        clear hkk
        go_wp2_with (first | (refine load_in 32 _ rfl rfl p 0 rfl ({ s with ba := ba', bk := bk' } : Sl).cs _ ?_ Try.underlying32 rfl info32 ?_; exact Bs.range) | (refine store_in 32 _ _ rfl rfl (w.heap.size + 1) 0 ({ s with ba := ba', bk := bk' } : Sl).cs rfl rfl ?_ info32 (Sl.cs_one _) ?_; exact hth))
        refine bodyPost_ret (v := .tuple #[.agg ({ s with ba := ba', bk := bk' } : Sl).cs, .bool true]) (results_two Try.results16 _ _ (w.heap.size + 1) 0 ({ s with ba := ba', bk := bk' } : Sl).cs _ _ rfl rfl (World.rangeAt_setCells_same _ _ _ _ hth) Try.underlying32 rfl info32) rfl ?_
        refine ⟨⟨_, mrg bs bt s.bl, true, rfl, ?_, .inr (.inr (.inl ⟨ha, hc, rfl, ⟨ba', bk', rfl⟩, rfl⟩))⟩, Below.setCells _ (by omega) _ _ _ HB.out⟩
        rcases R with h | ⟨g, rfl, hg, R⟩
        · exact ⟨mrg_len _ _ _, .inl h⟩
        · exact (R.setCells _ _ _ (by omega)).tab (mrg_len _ _ _) fun i hi => by rw [mrg_get _ _ _ _ hi, part, if_pos (by rw [HE.out]; exact hi)]
end Go.Proofs.Qxb6602376a
