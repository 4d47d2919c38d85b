import Derived.Test.Qxb6602376aClone
namespace Go.Proofs.Qxb6602376a
open Go.RowKit

theorem results_two {P : Program} {fn : Func} {p q : Tmp} {ty : TypeId} (h : fn.results = #[.cell p ty, .tmp q]) (tmps : Array Value) (w : World) (g o : Nat) (cs : Array Value) (d : TypeDesc) (b : Value)
    (hp : tmps.getD p undef = .pointer (some ⟨g, o, none⟩)) (hq : tmps.getD q undef = b) (hc : w.rangeAt g o cs.toList)
    (hu : P.underlying ty = some d) (hd : d.isRow = true) (hi : (P.info? ty).map (·.size) = some cs.size) :
    (results fn tmps).run P w = .ok (.tuple #[.agg cs, b]) w := by
  have hp' : tmps[p]?.getD undef = .pointer (some ⟨g, o, none⟩) := by simpa using hp
  have hq' : tmps[q]?.getD undef = b := by simpa using hq
  simp [results, h, hp', hq', asAddr, run_loadVar_mid w g o ty cs.toList d hc hu hd (by simpa using hi)]

/-- The bank that is taken at one index: slot 0's, unless it is bad. -/
def pick (a b : Bk) : Bk := if a.ok then a else b
def mrg (bs bt : List Bk) (n : Nat) : List Bk := (List.range n).map fun i => pick (bs.getD i bk0) (bt.getD i bk0)
theorem mrg_len (bs bt : List Bk) (n : Nat) : (mrg bs bt n).length = n := by simp [mrg]
theorem mrg_get (bs bt : List Bk) (n i : Nat) (h : i < n) : (mrg bs bt n).getD i bk0 = pick (bs.getD i bk0) (bt.getD i bk0) := by
  rw [getD_lt _ _ _ (by rw [mrg_len]; exact h)]; simp [mrg]

def cop (s t : Sl) : Bool := s.snd && t.snd && (s.ver == t.ver) && (s.bl == t.bl)

/-- What 'SlotToRead' hands back: the slot 'g' over the banks 'gs', and whether it accepts. -/
def RdIs (s t : Sl) (bs bt : List Bk) (g : Sl) (gs : List Bk) (ok : Bool) : Prop :=
  (act s t bs bt = 0 ∧ ok = true ∧ g = s ∧ gs = bs) ∨ (act s t bs bt = 1 ∧ ok = true ∧ g = t ∧ gs = bt) ∨
  (act s t bs bt = -1 ∧ cop s t = true ∧ ok = true ∧ (∃ ba bk, g = { s with ba := ba, bk := bk }) ∧ gs = mrg bs bt s.bl) ∨
  (act s t bs bt = -1 ∧ cop s t = false ∧ ok = false ∧ g = sl0 ∧ gs = [])
def RdSays (s t : Sl) (bs bt : List Bk) (e : Ending) (w' : World) : Prop :=
  ∃ g gs ok, e = .returned (.tuple #[.agg g.cs, .bool ok]) ∧ Tab w' g.ba g.bl gs ∧ RdIs s t bs bt g gs ok

theorem idxPair0 (g : Nat) (w : World) : (Instr.indexAt 34 (.pointer (some ⟨g, 0, none⟩)) (.int .i64 0)).run Try.prog w = .ok (.pointer (some ⟨g, 0, none⟩)) w := by kernel_rfl

theorem box_there {w : World} {g : Nat} {cs : Array Value} (h : BoxAt w g cs) (n : Nat) (hn : n ≤ cs.size) : w.there g 0 n := fun j hj => by
  rw [Nat.zero_add]
  exact ⟨by rw [h.cell j, Array.getElem?_eq_getElem (by omega)]; rfl, h.frozen j⟩

set_option maxHeartbeats 2000000 in
theorem read_fst (s t : Sl) (bs bt : List Bk) (w : World) (hs : Tab w s.ba s.bl bs) (ht : Tab w t.ba t.bl bt) (hsl : s.bl ≤ 1048576) (htl : t.bl ≤ 1048576) (ha : act s t bs bt = 0) :
    Calls Try.prog 16 #[.agg (prCs s t)] w fun e w' => RdSays s t bs bt e w' ∧ Below w.heap.size w w' := by
  have B0 := (BoxAt.new w (prCs s t) 34).alloc (.cells sl0.cs 32)
  have Z0 := BoxAt.new (w.alloc (.cells (prCs s t) 34)) sl0.cs 32
  have b0 : Below w.heap.size w ((w.alloc (.cells (prCs s t) 34)).alloc (.cells sl0.cs 32)) := ((Below.refl _ _).alloc (Nat.le_refl _) _).alloc (by simp) _
  have hz : ((w.alloc (.cells (prCs s t) 34)).alloc (.cells sl0.cs 32)).heap.size = w.heap.size + 2 := by simp
  rw [show (w.alloc (.cells (prCs s t) 34)).heap.size = w.heap.size + 1 by simp] at Z0
  go_enter Try.func16, Try.ntmps16
  go_wp2_with (first | (refine load_in 34 _ rfl rfl w.heap.size 0 rfl (prCs s t) _ B0.range Try.underlying34 rfl info34 ?_))
  change Calls _ _ _ ((w.alloc (.cells (prCs s t) 34)).alloc (.cells sl0.cs 32)) _
  generalize (w.alloc (.cells (prCs s t) 34)).alloc (.cells sl0.cs 32) = W at *
  refine (active_any s t bs bt W (hs.below b0) (ht.below b0) hsl htl).mono ?_
  rintro e w1 ⟨rfl, hb1⟩
  rw [ha]
  have B1 := B0.below hb1 (by omega)
  have Z1 := Z0.below hb1 (by omega)
  have b1 : Below w.heap.size w w1 := b0.trans (hb1.mono (by omega))
  have hth : w1.there (w.heap.size + 1) 0 12 := box_there Z1 _ (Nat.le_refl _)
  have hlt : w.heap.size + 2 ≤ w1.heap.size := by have := hb1.size; omega
  clear hb1 B0 Z0 b0 hz
  go_wp2_with (first | (refine load_in 32 _ rfl rfl w.heap.size 0 rfl s.cs _ ?_ Try.underlying32 rfl info32 ?_; exact B1.mid 0 s.cs (prCs_fst s t)) | (refine store_in 32 _ _ rfl rfl (w.heap.size + 1) 0 s.cs rfl rfl ?_ info32 s.cs_one ?_; exact hth))
  refine bodyPost_ret (v := .tuple #[.agg s.cs, .bool true]) (results_two Try.results16 _ _ (w.heap.size + 1) 0 s.cs _ _ rfl rfl (World.rangeAt_setCells_same _ _ _ _ hth) Try.underlying32 rfl info32) rfl ?_
  exact ⟨⟨s, bs, true, rfl, hs.below (Below.setCells _ (by omega) _ _ _ b1), .inl ⟨ha, rfl, rfl, rfl⟩⟩, Below.setCells _ (by omega) _ _ _ b1⟩

set_option maxHeartbeats 2000000 in
theorem read_snd (s t : Sl) (bs bt : List Bk) (w : World) (hs : Tab w s.ba s.bl bs) (ht : Tab w t.ba t.bl bt) (hsl : s.bl ≤ 1048576) (htl : t.bl ≤ 1048576) (ha : act s t bs bt = 1) :
    Calls Try.prog 16 #[.agg (prCs s t)] w fun e w' => RdSays s t bs bt e w' ∧ Below w.heap.size w w' := by
  have B0 := (BoxAt.new w (prCs s t) 34).alloc (.cells sl0.cs 32)
  have Z0 := BoxAt.new (w.alloc (.cells (prCs s t) 34)) sl0.cs 32
  have b0 : Below w.heap.size w ((w.alloc (.cells (prCs s t) 34)).alloc (.cells sl0.cs 32)) := ((Below.refl _ _).alloc (Nat.le_refl _) _).alloc (by simp) _
  have hz : ((w.alloc (.cells (prCs s t) 34)).alloc (.cells sl0.cs 32)).heap.size = w.heap.size + 2 := by simp
  rw [show (w.alloc (.cells (prCs s t) 34)).heap.size = w.heap.size + 1 by simp] at Z0
  go_enter Try.func16, Try.ntmps16
  go_wp2_with (first | (refine load_in 34 _ rfl rfl w.heap.size 0 rfl (prCs s t) _ B0.range Try.underlying34 rfl info34 ?_))
  change Calls _ _ _ ((w.alloc (.cells (prCs s t) 34)).alloc (.cells sl0.cs 32)) _
  generalize (w.alloc (.cells (prCs s t) 34)).alloc (.cells sl0.cs 32) = W at *
  refine (active_any s t bs bt W (hs.below b0) (ht.below b0) hsl htl).mono ?_
  rintro e w1 ⟨rfl, hb1⟩
  rw [ha]
  have B1 := B0.below hb1 (by omega)
  have Z1 := Z0.below hb1 (by omega)
  have b1 : Below w.heap.size w w1 := b0.trans (hb1.mono (by omega))
  have hth : w1.there (w.heap.size + 1) 0 12 := box_there Z1 _ (Nat.le_refl _)
  have hlt : w.heap.size + 2 ≤ w1.heap.size := by have := hb1.size; omega
  clear hb1 B0 Z0 b0 hz
  go_wp2_with (first | (refine load_in 32 _ rfl rfl w.heap.size 12 rfl t.cs _ ?_ Try.underlying32 rfl info32 ?_; exact B1.mid 12 t.cs (prCs_snd s t)) | (refine store_in 32 _ _ rfl rfl (w.heap.size + 1) 0 t.cs rfl rfl ?_ info32 t.cs_one ?_; exact hth))
  refine bodyPost_ret (v := .tuple #[.agg t.cs, .bool true]) (results_two Try.results16 _ _ (w.heap.size + 1) 0 t.cs _ _ rfl rfl (World.rangeAt_setCells_same _ _ _ _ hth) Try.underlying32 rfl info32) rfl ?_
  exact ⟨⟨t, bt, true, rfl, ht.below (Below.setCells _ (by omega) _ _ _ b1), .inr (.inl ⟨ha, rfl, rfl, rfl⟩)⟩, Below.setCells _ (by omega) _ _ _ b1⟩

set_option maxHeartbeats 2000000 in
theorem read_not (s t : Sl) (bs bt : List Bk) (w : World) (hs : Tab w s.ba s.bl bs) (ht : Tab w t.ba t.bl bt) (hsl : s.bl ≤ 1048576) (htl : t.bl ≤ 1048576) (ha : act s t bs bt = -1) (hc : cop s t = false) :
    Calls Try.prog 16 #[.agg (prCs s t)] w fun e w' => RdSays s t bs bt e w' ∧ Below w.heap.size w w' := by
  have B0 := (BoxAt.new w (prCs s t) 34).alloc (.cells sl0.cs 32)
  have Z0 := BoxAt.new (w.alloc (.cells (prCs s t) 34)) sl0.cs 32
  have b0 : Below w.heap.size w ((w.alloc (.cells (prCs s t) 34)).alloc (.cells sl0.cs 32)) := ((Below.refl _ _).alloc (Nat.le_refl _) _).alloc (by simp) _
  have hz : ((w.alloc (.cells (prCs s t) 34)).alloc (.cells sl0.cs 32)).heap.size = w.heap.size + 2 := by simp
  rw [show (w.alloc (.cells (prCs s t) 34)).heap.size = w.heap.size + 1 by simp] at Z0
  go_enter Try.func16, Try.ntmps16
  go_wp2_with (first | (refine load_in 34 _ rfl rfl w.heap.size 0 rfl (prCs s t) _ B0.range Try.underlying34 rfl info34 ?_))
  change Calls _ _ _ ((w.alloc (.cells (prCs s t) 34)).alloc (.cells sl0.cs 32)) _
  generalize (w.alloc (.cells (prCs s t) 34)).alloc (.cells sl0.cs 32) = W at *
  refine (active_any s t bs bt W (hs.below b0) (ht.below b0) hsl htl).mono ?_
  rintro e w1 ⟨rfl, hb1⟩
  rw [ha]
  have B1 := B0.below hb1 (by omega)
  have Z1 := Z0.below hb1 (by omega)
  have b1 : Below w.heap.size w w1 := b0.trans (hb1.mono (by omega))
  have hth : w1.there (w.heap.size + 1) 0 12 := box_there Z1 _ (Nat.le_refl _)
  have hlt : w.heap.size + 2 ≤ w1.heap.size := by have := hb1.size; omega
  clear hb1 B0 Z0 b0 hz
  go_wp2_with (first | (refine load_in 34 _ rfl rfl w.heap.size 0 rfl (prCs s t) _ B1.range Try.underlying34 rfl info34 ?_))
  refine (copies_any s t w1).mono ?_
  rintro e w2 ⟨rfl, hb2⟩
  rw [show (s.snd && t.snd && (s.ver == t.ver) && (s.bl == t.bl)) = false from hc]
  have Z2 := Z1.below hb2 (by omega)
  have b2 : Below w.heap.size w w2 := b1.trans (hb2.mono (by omega))
  have hth2 : w2.there (w.heap.size + 1) 0 12 := box_there Z2 _ (Nat.le_refl _)
  clear hb2 B1 Z1 b1 hth Z2
  go_wp2_with (first | (refine store_in 32 _ _ rfl rfl (w.heap.size + 1) 0 sl0.cs rfl rfl ?_ info32 sl0.cs_one ?_; exact hth2))
  refine bodyPost_ret (v := .tuple #[.agg sl0.cs, .bool false]) (results_two Try.results16 _ _ (w.heap.size + 1) 0 sl0.cs _ _ rfl rfl (World.rangeAt_setCells_same _ _ _ _ hth2) Try.underlying32 rfl info32) rfl ?_
  exact ⟨⟨sl0, [], false, rfl, ⟨rfl, .inl rfl⟩, .inr (.inr (.inr ⟨ha, hc, rfl, rfl, rfl⟩))⟩, Below.setCells _ (by omega) _ _ _ b2⟩

end Go.Proofs.Qxb6602376a
