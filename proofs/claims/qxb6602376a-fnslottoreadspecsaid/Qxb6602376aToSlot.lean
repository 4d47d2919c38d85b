import Derived.Test.Qxb6602376aTo
namespace Go.Proofs.Qxb6602376a
open Go.RowKit

theorem toBanks_any (s : Sl) (bs : List Bk) (w : World) (ht : Tab w s.ba s.bl bs) (hl : s.bl ≤ 1048576) (hn : s.ba = none → s.bl = 0 ∧ s.bk = 0) :
    Calls Try.prog 27 #[.slice s.ba s.bl s.bk] w fun e w' => TbSays w.heap.size s.ba s.bl bs e w' ∧ Below w.heap.size w w' := by
  cases h : s.ba with
  | none =>
    obtain ⟨h1, h2⟩ := hn h
    rw [h, h1] at ht
    rw [h1, h2]
    exact toBanks_none bs w ht
  | some a => rw [h] at ht; exact toBanks_some a _ _ bs w ht hl

/-- What 'toSlot' hands back: the same slot over a bank table of its own; nil for nil. -/
def TsSays (B : Nat) (s : Sl) (bs : List Bk) (e : Ending) (w' : World) : Prop :=
  ∃ ba' bk', e = .returned (.agg #[.int .i64 s.off, .bool s.has, .bool s.crc, .int .u64 s.ver, .int .u64 s.eof, .int .i64 s.dp, .int .u64 s.dc, .int .i64 s.bp, .int .u64 s.bc, .int .u32 s.mb, .slice ba' s.bl bk', .string s.dmg]) ∧ (ba'.isNone = s.ba.isNone ∧ (ba' = none → s.bl = 0 ∧ bk' = 0) ∧ ∀ x, ba' = some x → B ≤ x.block) ∧ Tab w' ba' s.bl bs

theorem results_mid {P : Program} {fn : Func} {p : Tmp} {ty : TypeId} (h : fn.results = #[.cell p ty]) (tmps : Array Value) (w : World) (g o : Nat) (cs : Array Value) (d : TypeDesc)
    (hp : tmps.getD p undef = .pointer (some ⟨g, o, none⟩)) (hc : w.rangeAt g o cs.toList)
    (hu : P.underlying ty = some d) (hd : d.isRow = true) (hi : (P.info? ty).map (·.size) = some cs.size) :
    (results fn tmps).run P w = .ok (.agg cs) w := by
  have hp' : tmps[p]?.getD undef = .pointer (some ⟨g, o, none⟩) := by simpa using hp
  simp [results, h, hp', asAddr, run_loadVar_mid w g o ty cs.toList d hc hu hd (by simpa using hi)]

theorem Tab.drew {w : World} {ba : Option Addr} {bl : Nat} {bs : List Bk} (h : Tab w ba bl bs) : Tab w.drew ba bl bs := h.below (Below.refl _ _).drew

def sl0 : Sl := ⟨0, false, false, 0, 0, 0, 0, 0, 0, 0, none, 0, 0, ⟨#[]⟩⟩

set_option maxHeartbeats 2000000 in
theorem toSlot_any (s : Sl) (bs : List Bk) (w : World) (ht : Tab w s.ba s.bl bs) (hl : s.bl ≤ 1048576) (hn : s.ba = none → s.bl = 0 ∧ s.bk = 0) :
    Calls Try.prog 11 #[.agg s.cs] w fun e w' => TsSays w.heap.size s bs e w' ∧ Below w.heap.size w w' := by
  have Bs := (BoxAt.new w s.cs 26).alloc (.cells sl0.cs 32)
  have Bz := BoxAt.new (w.alloc (.cells s.cs 26)) sl0.cs 32
  have b0 : Below w.heap.size w ((w.alloc (.cells s.cs 26)).alloc (.cells sl0.cs 32)) := ((Below.refl _ _).alloc (Nat.le_refl _) _).alloc (by simp) _
  have hz : ((w.alloc (.cells s.cs 26)).alloc (.cells sl0.cs 32)).heap.size = w.heap.size + 2 := by simp
  rw [show (w.alloc (.cells s.cs 26)).heap.size = w.heap.size + 1 by simp] at Bz
  go_enter Try.func11, Try.ntmps11
  go_wp2
  change Code.wp _ _ _ _ ((w.alloc (.cells s.cs 26)).alloc (.cells sl0.cs 32))
  generalize (w.alloc (.cells s.cs 26)).alloc (.cells sl0.cs 32) = W at *
  have hT := ht.below b0
  have f0 : W.cell? ⟨w.heap.size, 0, none⟩ = some (.int .i64 s.off) := Bs.cell 0
  have f1 : W.cell? ⟨w.heap.size, 1, none⟩ = some (.bool s.has) := Bs.cell 1
  have f2 : W.cell? ⟨w.heap.size, 2, none⟩ = some (.bool s.crc) := Bs.cell 2
  have f3 : W.cell? ⟨w.heap.size, 3, none⟩ = some (.int .u64 s.ver) := Bs.cell 3
  have f4 : W.cell? ⟨w.heap.size, 4, none⟩ = some (.int .u64 s.eof) := Bs.cell 4
  have f5 : W.cell? ⟨w.heap.size, 5, none⟩ = some (.int .i64 s.dp) := Bs.cell 5
  have f6 : W.cell? ⟨w.heap.size, 6, none⟩ = some (.int .u64 s.dc) := Bs.cell 6
  have f7 : W.cell? ⟨w.heap.size, 7, none⟩ = some (.int .i64 s.bp) := Bs.cell 7
  have f8 : W.cell? ⟨w.heap.size, 8, none⟩ = some (.int .u64 s.bc) := Bs.cell 8
  have f9 : W.cell? ⟨w.heap.size, 9, none⟩ = some (.int .u32 s.mb) := Bs.cell 9
  have f10 : W.cell? ⟨w.heap.size, 10, none⟩ = some (.slice s.ba s.bl s.bk) := Bs.cell 10
  have f11 : W.cell? ⟨w.heap.size, 11, none⟩ = some (.string s.dmg) := Bs.cell 11
  have z0 : W.cell? ⟨w.heap.size + 1, 0, none⟩ = some (.int .i64 0) := Bz.cell 0
  have z1 : W.cell? ⟨w.heap.size + 1, 1, none⟩ = some (.bool false) := Bz.cell 1
  have z2 : W.cell? ⟨w.heap.size + 1, 2, none⟩ = some (.bool false) := Bz.cell 2
  have z3 : W.cell? ⟨w.heap.size + 1, 3, none⟩ = some (.int .u64 0) := Bz.cell 3
  have z4 : W.cell? ⟨w.heap.size + 1, 4, none⟩ = some (.int .u64 0) := Bz.cell 4
  have z5 : W.cell? ⟨w.heap.size + 1, 5, none⟩ = some (.int .i64 0) := Bz.cell 5
  have z6 : W.cell? ⟨w.heap.size + 1, 6, none⟩ = some (.int .u64 0) := Bz.cell 6
  have z7 : W.cell? ⟨w.heap.size + 1, 7, none⟩ = some (.int .i64 0) := Bz.cell 7
  have z8 : W.cell? ⟨w.heap.size + 1, 8, none⟩ = some (.int .u64 0) := Bz.cell 8
  have z9 : W.cell? ⟨w.heap.size + 1, 9, none⟩ = some (.int .u32 0) := Bz.cell 9
  have z10 : W.cell? ⟨w.heap.size + 1, 10, none⟩ = some (.slice none 0 0) := Bz.cell 10
  have z11 : W.cell? ⟨w.heap.size + 1, 11, none⟩ = some (.string ⟨#[]⟩) := Bz.cell 11
  have hfz : ∀ j, W.frozen? ⟨w.heap.size + 1, j, none⟩ = false := fun j => Bz.frozen j
  clear Bs
  go_region_held3 (fun w' => w'.cell? ⟨w.heap.size, 0, none⟩ = some (.int .i64 s.off) ∧ w'.cell? ⟨w.heap.size, 1, none⟩ = some (.bool s.has) ∧ w'.cell? ⟨w.heap.size, 2, none⟩ = some (.bool s.crc) ∧ w'.cell? ⟨w.heap.size, 3, none⟩ = some (.int .u64 s.ver) ∧ w'.cell? ⟨w.heap.size, 4, none⟩ = some (.int .u64 s.eof) ∧ w'.cell? ⟨w.heap.size, 5, none⟩ = some (.int .i64 s.dp) ∧ w'.cell? ⟨w.heap.size, 6, none⟩ = some (.int .u64 s.dc) ∧ w'.cell? ⟨w.heap.size, 7, none⟩ = some (.int .i64 s.bp) ∧ w'.cell? ⟨w.heap.size, 8, none⟩ = some (.int .u64 s.bc) ∧ w'.cell? ⟨w.heap.size, 9, none⟩ = some (.int .u32 s.mb) ∧ w'.cell? ⟨w.heap.size, 10, none⟩ = some (.slice s.ba s.bl s.bk) ∧ w'.cell? ⟨w.heap.size, 11, none⟩ = some (.string s.dmg))
    (go_keep) (first | (go_at_call 27; refine (toBanks_any s bs W.drew hT.drew hl hn).mono ?_; rintro e w1 ⟨⟨ba', bk', rfl, hnn, ht1, hfr⟩, hb1⟩; obtain ⟨hc, hf⟩ := bcell (W := W) (w1 := w1) ⟨hb1.os, hb1.tape, hb1.output, hb1.size, hb1.block⟩))
  rename_i hHeld
  clear hHeld
  have hb : Below W.heap.size W w1 := ⟨hb1.os, hb1.tape, hb1.output, hb1.size, hb1.block⟩
  have hth : w1.there (w.heap.size + 1) 0 12 := fun j hj => by
    rw [Nat.zero_add]
    have B1 : BoxAt w1 (w.heap.size + 1) sl0.cs := Bz.below hb (by omega)
    refine ⟨?_, B1.frozen j⟩
    rw [B1.cell j, Array.getElem?_eq_getElem hj]; rfl
  have hg := World.rangeAt_setCells_same w1 (w.heap.size + 1) 0 ({ s with ba := ba', bk := bk' } : Sl).cs.toList hth
  have hbel : Below w.heap.size w (w1.setCells (w.heap.size + 1) 0 ({ s with ba := ba', bk := bk' } : Sl).cs.toList) := Below.setCells _ (by omega) _ _ _ (b0.trans (hb.mono (by omega)))
  have hT2 : Tab (w1.setCells (w.heap.size + 1) 0 ({ s with ba := ba', bk := bk' } : Sl).cs.toList) ba' s.bl bs := ht1.setCells (fun x hx => by have := hfr x hx; simp at this; omega) _ _
  change Exit.then _ _ _ _ (w1.setCells (w.heap.size + 1) 0 ({ s with ba := ba', bk := bk' } : Sl).cs.toList)
  generalize w1.setCells (w.heap.size + 1) 0 ({ s with ba := ba', bk := bk' } : Sl).cs.toList = W2 at *
  go_wp2
  refine bodyPost_ret (v := .agg ({ s with ba := ba', bk := bk' } : Sl).cs) (results_mid Try.results11 _ _ (w.heap.size + 1) 0 _ _ rfl hg Try.underlying32 rfl info32) rfl ?_
  exact ⟨⟨ba', bk', rfl, ⟨hnn.1, hnn.2, fun x hx => by have := hfr x hx; simp at this; omega⟩, hT2⟩, hbel⟩
end Go.Proofs.Qxb6602376a
