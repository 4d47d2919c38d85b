import Derived.Test.Qxb6602376aSame
import Derived.Deep.DeepCutAuto
import Derived.Deep.LoopGhost
namespace Go.Proofs.Qxb6602376a
open Go.RowKit

theorem build34 (s t : Sl) (w : World) : (Instr.build 34 #[(0, .agg s.cs), (1, .agg t.cs)]).run Try.prog w = .ok (.agg (prCs s t)) w := by kernel_rfl
theorem yieldsLoad {P : Program} {ops : Array Oper} {S : World → Prop} {op : Oper} {a : Act} (hw : Region.wanted op (yielded ops a.tmps) = true) (ty : TypeId) (x : Operand) (ho : op.op = .load ty x)
    (b o : Nat) (hx : a.eval x = .pointer (some ⟨b, o, none⟩)) (cs : Array Value) (d : TypeDesc) (hS : ∀ w, S w → w.rangeAt b o cs.toList)
    (hu : P.underlying ty = some d) (hd : d.isRow = true) (hi : (P.info? ty).map (·.size) = some cs.size) : YieldsIf P ops S op (.agg cs) a := by
  have := yieldsIf_load_mid (P := P) (ops := ops) (S := S) hw ty x ho b o hx cs.toList d hS hu hd (by simpa using hi)
  simpa using this

theorem yieldsBuild {ops : Array Oper} {S : World → Prop} {oi : Oper} {a : Act} (s t : Sl) (hw : Region.wanted oi (yielded ops a.tmps) = true) (x y : Operand) (ho : oi.op = .build 34 #[(0, x), (1, y)])
    (hx : a.eval x = .agg s.cs) (hy : a.eval y = .agg t.cs) : YieldsIf Try.prog ops S oi (.agg (prCs s t)) a := by
  refine .inl ⟨hw, fun w _ => ?_⟩
  have hb := build34 s t w
  simp [execOp, ho, hx, hy, hb]
theorem alloc32 (w : World) : (Instr.alloc 32 true (.tuple #[])).run Try.prog w = .ok (.pointer (some ⟨w.heap.size, 0, none⟩)) (w.alloc (.cells sl0.cs 32)) := by kernel_rfl
theorem wpAlloc32 {op : Oper} {a : Act} {w : World} {K : Act → World → Prop} {Q : Exit → Act → World → Prop} (ho : op.op = .alloc 32)
    (h : K (a.put op.dst (.pointer (some ⟨w.heap.size, 0, none⟩))) (w.alloc (.cells sl0.cs 32))) : op.wp Try.prog a w K Q := by
  unfold Oper.wp execOp
  have ha := alloc32 w
  simp only [ho, Sem.run_bind, ha, Result.andThen_ok, Sem.run_pure]
  exact h

/-- Cells written one behind the other. -/
def wrt (cs : Array Value) : Nat → List Value → Array Value
  | _, [] => cs
  | o, v :: r => wrt (cs.setIfInBounds o v) (o + 1) r
theorem BoxAt.write {g : Nat} : ∀ (vs : List Value) (o : Nat) (cs : Array Value) (w : World), BoxAt w g cs → BoxAt (w.setCells g o vs) g (wrt cs o vs)
  | [], _, _, _, h => h
  | v :: r, o, cs, _, h => BoxAt.write r (o + 1) (cs.setIfInBounds o v) _ (h.setCell o v)
theorem wrt_fill (s : Sl) : wrt sl0.cs 0 s.cs.toList = s.cs := by kernel_rfl
theorem BoxAt.fill {w : World} {g : Nat} (h : BoxAt w g sl0.cs) (s : Sl) : BoxAt (w.setCells g 0 s.cs.toList) g s.cs := by
  have := BoxAt.write s.cs.toList 0 sl0.cs w h
  rwa [wrt_fill] at this

/-- No bank table lies in a slot's variable. -/
theorem BankAt.not_box {w : World} {G o : Nat} {b : Bk} (h : BankAt w G o b) (hB : BoxAt w G sl0.cs) : False := by
  have h0 := h.c0
  have h1 := h.c1
  rw [hB.cell] at h0 h1
  have ho : o < 12 := (Array.getElem?_eq_some_iff.1 h0).1
  match o, ho with
  | 0, _ | 1, _ | 2, _ | 3, _ | 4, _ | 5, _ | 6, _ | 7, _ | 8, _ | 10, _ | 11, _ => cases h0
  | 9, _ => cases h1
theorem Tab.store {w : World} {ba : Option Addr} {bl : Nat} {bs : List Bk} (h : Tab w ba bl bs) {G : Nat} (hB : BoxAt w G sl0.cs) (o : Nat) (vs : List Value) : Tab (w.setCells G o vs) ba bl bs :=
  ⟨h.len, by
    rcases h.at_ with h0 | ⟨g, o', e, hl, hx⟩
    · exact .inl h0
    · by_cases hz : bl = 0
      · exact .inl hz
      · have hne : g ≠ G := fun e => by subst e; exact (hx 0 (by omega)).not_box hB
        exact .inr ⟨g, o', e, by rw [size_setCells]; exact hl, fun i hi => .of_range (World.rangeAt_setCells_apart (hx i hi).range _ _ _ (.inl hne))⟩⟩

theorem cop_parts {s t : Sl} (h : cop s t = true) : s.snd = true ∧ t.snd = true ∧ s.ver = t.ver ∧ s.bl = t.bl := by
  simp only [cop, Bool.and_eq_true, beq_iff_eq] at h
  exact ⟨h.1.1.1, h.1.1.2, h.1.2, h.2⟩

theorem isZero_of (q : Sl) (h : q = sl0) (w : World) : Calls Try.prog 21 #[.agg q.cs] w fun e w' => e = .returned (.bool true) ∧ Below w.heap.size w w' := by
  subst h; exact isZero_any w

set_option maxRecDepth 100000 in
set_option maxHeartbeats 8000000 in
theorem spec_walk (s t : Sl) (bs bt : List Bk) (w : World) (cs : Came w s bs) (ct : Came w t bt) :
    Calls Try.prog 5 #[.agg s.cs, .agg t.cs] w fun e w' => e = .returned (.bool true) ∧ Below w.heap.size w w' := by
  have Bs := (BoxAt.new w s.cs 26).alloc (.cells t.cs 26)
  have Bt := BoxAt.new (w.alloc (.cells s.cs 26)) t.cs 26
  have b0 : Below w.heap.size w ((w.alloc (.cells s.cs 26)).alloc (.cells t.cs 26)) := ((Below.refl _ _).alloc (Nat.le_refl _) _).alloc (by simp) _
  have hz : ((w.alloc (.cells s.cs 26)).alloc (.cells t.cs 26)).heap.size = w.heap.size + 2 := by simp
  rw [show (w.alloc (.cells s.cs 26)).heap.size = w.heap.size + 1 by simp] at Bt
  go_enter Try.func5, Try.ntmps5
  go_wp2_with (first | (refine load_in 26 _ rfl rfl w.heap.size 0 rfl s.cs _ Bs.range Try.underlying26 rfl info26 ?_) | (refine load_in 26 _ rfl rfl (w.heap.size + 1) 0 rfl t.cs _ Bt.range Try.underlying26 rfl info26 ?_))
  generalize (w.alloc (.cells s.cs 26)).alloc (.cells t.cs 26) = W at *
  refine (bytes15_any s t W).mono ?_
  rintro e w1 ⟨⟨b, rfl⟩, hb1⟩
  have Bs1 := Bs.below hb1 (by omega)
  have Bt1 := Bt.below hb1 (by omega)
  have b1 : Below w.heap.size w w1 := b0.trans (hb1.mono (by omega))
  have hz1 : w.heap.size + 2 ≤ w1.heap.size := by have := hb1.size; omega
  clear Bs Bt b0 hz hb1
  cases b
  · go_wp2
    go_ret
    exact ⟨rfl, b1⟩
  go_wp2_with (first | (refine load_in 26 _ rfl rfl w.heap.size 0 rfl s.cs _ Bs1.range Try.underlying26 rfl info26 ?_) | (refine load_in 26 _ rfl rfl (w.heap.size + 1) 0 rfl t.cs _ Bt1.range Try.underlying26 rfl info26 ?_))
  refine (tooBig_any s t w1).mono ?_
  rintro e w2 ⟨⟨b, rfl, hbig⟩, hb2⟩
  have Bsw2 := Bs1.below hb2 (by omega)
  have Btw2 := Bt1.below hb2 (by omega)
  have bww2 : Below w.heap.size w w2 := b1.trans (hb2.mono (by omega))
  have hzw2 : w.heap.size + 2 ≤ w2.heap.size := by have := hb2.size; omega
  clear Bs1 Bt1 b1 hz1 hb2
  cases b
  · obtain ⟨hsl, htl⟩ := hbig rfl
    have Tsw2 := cs.tab.below bww2
    have Ttw2 := ct.tab.below bww2
    have hns := cs.nil_
    have hnt := ct.nil_
    clear hbig cs ct
    go_wp2_with fail
    go_cut [5, 6] (fun p q w' => ∃ G sa sk ta tk g gs ok, p = .pointer (some ⟨G, 0, none⟩) ∧ q = .bool ok ∧ w2.heap.size ≤ G ∧ BoxAt w' G g.cs ∧ Tab w' g.ba g.bl gs ∧ RdIs { s with ba := sa, bk := sk } { t with ba := ta, bk := tk } bs bt g gs ok ∧ sa.isNone = s.ba.isNone ∧ ta.isNone = t.ba.isNone ∧ Below w2.heap.size w2 w')
    case first =>
      refine wp_region_held_drew (S := fun w' => BoxAt w' w.heap.size s.cs ∧ BoxAt w' (w.heap.size + 1) t.cs) (by kernel_rfl) ⟨Bsw2.drew, Btw2.drew⟩ (fun hH => ?_)
      refine wpAnyH_take (i := 0) (v := .agg s.cs) rfl (by kernel_rfl) (by kernel_rfl) (by kernel_rfl) (fun _ _ _ h => h) (yieldsLoad rfl 26 _ rfl w.heap.size 0 rfl s.cs _ (fun w' h => h.1.range) Try.underlying26 rfl info26) hH ?_
      refine wpAnyH_take (i := 2) (v := .agg t.cs) rfl (by kernel_rfl) (by kernel_rfl) (by kernel_rfl) (fun _ _ _ h => h) (yieldsLoad rfl 26 _ rfl (w.heap.size + 1) 0 rfl t.cs _ (fun w' h => h.2.range) Try.underlying26 rfl info26) hH ?_
      simp only [Act.put, List.setIfInBounds_toArray]
      have Bsd := Bsw2.drew
      have Btd := Btw2.drew
      have Tsd := Tsw2.drew
      have Ttd := Ttw2.drew
      have bd : Below w2.heap.size w2 w2.drew := (Below.refl _ _).drew
      generalize w2.drew = wd at *
      refine wpAnyH_ready (rs := [1, 9]) (by kernel_rfl) (by simp) (AllReadyH.cons rfl (fun K hK => ?_) (AllReadyH.cons rfl (fun K hK => ?_) AllReadyH.nil))
      · go_simp
        refine (toSlot_any s bs _ ?_ hsl hns).mono ?_
        · exact Tsd
        rintro e w3 ⟨⟨sa, sk, rfl, hsn, Tsa⟩, hbw3⟩
        have Bsw3 := Bsd.below hbw3 Bsd.lt
        have Btw3 := Btd.below hbw3 Btd.lt
        refine hK.out _ _ ⟨Bsw3, Btw3⟩ (fun hH => ?_)
        clear hK K
        refine wpAnyH_ready (rs := [3, 9]) (by kernel_rfl) (by simp) (AllReadyH.cons rfl (fun K hK => ?_) (AllReadyH.cons rfl (fun K hK => ?_) AllReadyH.nil))
        · go_simp
          refine (toSlot_any t bt _ ?_ htl hnt).mono ?_
          · exact (Ttd.below hbw3)
          rintro e w4 ⟨⟨ta, tk, rfl, htn, Tta⟩, hbw4⟩
          have Bsw4 := Bsw3.below hbw4 Bsw3.lt
          have Btw4 := Btw3.below hbw4 Btw3.lt
          refine hK.out _ _ ⟨Bsw4, Btw4⟩ (fun hH => ?_)
          clear hK K
          refine wpAnyH_take (i := 4) (v := .agg (prCs { s with ba := sa, bk := sk } { t with ba := ta, bk := tk })) rfl (by kernel_rfl) (by kernel_rfl) (by kernel_rfl) (fun _ _ _ h => h) (yieldsBuild { s with ba := sa, bk := sk } { t with ba := ta, bk := tk } rfl _ _ rfl rfl rfl) hH ?_
          refine wpAnyH_ready (rs := [5, 9]) (by kernel_rfl) (by simp) (AllReadyH.cons rfl (fun K hK => ?_) (AllReadyH.cons rfl (fun K hK => ?_) AllReadyH.nil))
          · go_simp
            refine (read_any { s with ba := sa, bk := sk } { t with ba := ta, bk := tk } bs bt _ ?_ ?_ hsl htl hsn.2.1).mono ?_
            · exact (Tsa.below hbw4)
            · exact Tta
            rintro e w5 ⟨⟨g, gs, ok, rfl, Tg, hR⟩, hbw5⟩
            have Bsw5 := Bsw4.below hbw5 Bsw4.lt
            have Btw5 := Btw4.below hbw5 Btw4.lt
            refine hK.out _ _ ⟨Bsw5, Btw5⟩ (fun hH => ?_)
            clear hK K
            refine wpAnyH_take (i := 6) (v := .tuple #[.agg g.cs, .bool ok]) rfl (by kernel_rfl) (by kernel_rfl) (by kernel_rfl) (fun _ _ _ h => h) (.inl ⟨rfl, fun _ _ => by go_simp⟩) hH ?_
            refine wpAnyH_take (i := 7) (v := .agg g.cs) rfl (by kernel_rfl) (by kernel_rfl) (by kernel_rfl) (fun _ _ _ h => h) (.inl ⟨rfl, fun _ _ => by go_simp⟩) hH ?_
            refine wpAnyH_take (i := 8) (v := .bool ok) rfl (by kernel_rfl) (by kernel_rfl) (by kernel_rfl) (fun _ _ _ h => h) (.inl ⟨rfl, fun _ _ => by go_simp⟩) hH ?_
            refine wpAnyH_ready (rs := [9]) (by kernel_rfl) (by simp) (AllReadyH.cons rfl (fun K hK => ?_) AllReadyH.nil)
            rw [if_pos (by rfl)]
            refine wpAlloc32 rfl ?_
            have Gw6 := BoxAt.new w5 sl0.cs 32
            have Bsw6 := Bsw5.alloc (.cells sl0.cs 32)
            have Btw6 := Btw5.alloc (.cells sl0.cs 32)
            have hbw6 : Below w5.heap.size w5 (w5.alloc (.cells sl0.cs 32)) := (Below.refl _ _).alloc (Nat.le_refl _) _
            refine hK.out _ _ ⟨Bsw6, Btw6⟩ (fun hH => ?_)
            clear hK K
            obtain ⟨G, hG⟩ : ∃ x, x = w5.heap.size := ⟨_, rfl⟩
            rw [← hG] at Gw6
            try rw [← hG]
            have hG2 : w2.heap.size ≤ G := by have := bd.size; have := hbw3.size; have := hbw4.size; have := hbw5.size; omega
            clear hG
            generalize w5.alloc (.cells sl0.cs 32) = w6 at *
            refine wpAnyH_ready (rs := [10]) (by kernel_rfl) (by simp) (AllReadyH.cons rfl (fun K hK => ?_) AllReadyH.nil)
            rw [if_pos (by rfl)]
            refine wp_store_mid 32 _ _ rfl G 0 g.cs rfl rfl (box_there Gw6 12 (Nat.le_refl _)) info32 g.cs_one ?_
            refine hK.out _ _ ⟨BoxAt.setCells _ (by omega) _ _ _ Bsw6, BoxAt.setCells _ (by omega) _ _ _ Btw6⟩ (fun hH => ?_)
            clear hK K
            refine wpAnyH_take (i := 11) (v := .bool ok) rfl (by kernel_rfl) (by kernel_rfl) (by kernel_rfl) (fun _ _ _ h => h) (.inl ⟨rfl, fun _ _ => by go_simp⟩) hH ?_
            refine wpAnyH_done (by kernel_rfl) ?_ _
            have hbf : Below w2.heap.size w2 (w6.setCells G 0 g.cs.toList) := Below.setCells _ hG2 _ _ _ (((((bd).trans (hbw3.mono (by have := bd.size; have := hbw3.size; have := hbw4.size; have := hbw5.size; have := hbw6.size; omega))).trans (hbw4.mono (by have := bd.size; have := hbw3.size; have := hbw4.size; have := hbw5.size; have := hbw6.size; omega))).trans (hbw5.mono (by have := bd.size; have := hbw3.size; have := hbw4.size; have := hbw5.size; have := hbw6.size; omega))).trans (hbw6.mono (by have := bd.size; have := hbw3.size; have := hbw4.size; have := hbw5.size; have := hbw6.size; omega)))
            have hTg : Tab (w6.setCells G 0 g.cs.toList) g.ba g.bl gs := Tab.store ((Tg.below hbw6)) Gw6 _ _
            have hGb : BoxAt (w6.setCells G 0 g.cs.toList) G g.cs := Gw6.fill g
            generalize w6.setCells G 0 g.cs.toList = wf at *
            go_wp2_with fail
            go_meet
            case rel => exact ⟨G, sa, sk, ta, tk, g, gs, ok, rfl, rfl, hG2, hGb, hTg, hR, hsn.1, htn.1, hbf⟩
          · rw [if_pos (by rfl)]
            refine wpAlloc32 rfl ?_
            have Gw7 := BoxAt.new w4 sl0.cs 32
            have Bsw7 := Bsw4.alloc (.cells sl0.cs 32)
            have Btw7 := Btw4.alloc (.cells sl0.cs 32)
            have hbw7 : Below w4.heap.size w4 (w4.alloc (.cells sl0.cs 32)) := (Below.refl _ _).alloc (Nat.le_refl _) _
            refine hK.out _ _ ⟨Bsw7, Btw7⟩ (fun hH => ?_)
            clear hK K
            obtain ⟨G, hG⟩ : ∃ x, x = w4.heap.size := ⟨_, rfl⟩
            rw [← hG] at Gw7
            try rw [← hG]
            have hG2 : w2.heap.size ≤ G := by have := bd.size; have := hbw3.size; have := hbw4.size; omega
            clear hG
            generalize w4.alloc (.cells sl0.cs 32) = w7 at *
            refine wpAnyH_ready (rs := [5]) (by kernel_rfl) (by simp) (AllReadyH.cons rfl (fun K hK => ?_) AllReadyH.nil)
            go_simp
            refine (read_any { s with ba := sa, bk := sk } { t with ba := ta, bk := tk } bs bt _ ?_ ?_ hsl htl hsn.2.1).mono ?_
            · exact ((Tsa.below hbw4).below hbw7)
            · exact (Tta.below hbw7)
            rintro e w8 ⟨⟨g, gs, ok, rfl, Tg, hR⟩, hbw8⟩
            have Bsw8 := Bsw7.below hbw8 Bsw7.lt
            have Btw8 := Btw7.below hbw8 Btw7.lt
            have Gw8 := Gw7.below hbw8 Gw7.lt
            refine hK.out _ _ ⟨Bsw8, Btw8⟩ (fun hH => ?_)
            clear hK K
            refine wpAnyH_take (i := 6) (v := .tuple #[.agg g.cs, .bool ok]) rfl (by kernel_rfl) (by kernel_rfl) (by kernel_rfl) (fun _ _ _ h => h) (.inl ⟨rfl, fun _ _ => by go_simp⟩) hH ?_
            refine wpAnyH_take (i := 7) (v := .agg g.cs) rfl (by kernel_rfl) (by kernel_rfl) (by kernel_rfl) (fun _ _ _ h => h) (.inl ⟨rfl, fun _ _ => by go_simp⟩) hH ?_
            refine wpAnyH_take (i := 8) (v := .bool ok) rfl (by kernel_rfl) (by kernel_rfl) (by kernel_rfl) (fun _ _ _ h => h) (.inl ⟨rfl, fun _ _ => by go_simp⟩) hH ?_
            refine wpAnyH_ready (rs := [10]) (by kernel_rfl) (by simp) (AllReadyH.cons rfl (fun K hK => ?_) AllReadyH.nil)
            rw [if_pos (by rfl)]
            refine wp_store_mid 32 _ _ rfl G 0 g.cs rfl rfl (box_there Gw8 12 (Nat.le_refl _)) info32 g.cs_one ?_
            refine hK.out _ _ ⟨BoxAt.setCells _ (by omega) _ _ _ Bsw8, BoxAt.setCells _ (by omega) _ _ _ Btw8⟩ (fun hH => ?_)
            clear hK K
            refine wpAnyH_take (i := 11) (v := .bool ok) rfl (by kernel_rfl) (by kernel_rfl) (by kernel_rfl) (fun _ _ _ h => h) (.inl ⟨rfl, fun _ _ => by go_simp⟩) hH ?_
            refine wpAnyH_done (by kernel_rfl) ?_ _
            have hbf : Below w2.heap.size w2 (w8.setCells G 0 g.cs.toList) := Below.setCells _ hG2 _ _ _ (((((bd).trans (hbw3.mono (by have := bd.size; have := hbw3.size; have := hbw4.size; have := hbw7.size; have := hbw8.size; omega))).trans (hbw4.mono (by have := bd.size; have := hbw3.size; have := hbw4.size; have := hbw7.size; have := hbw8.size; omega))).trans (hbw7.mono (by have := bd.size; have := hbw3.size; have := hbw4.size; have := hbw7.size; have := hbw8.size; omega))).trans (hbw8.mono (by have := bd.size; have := hbw3.size; have := hbw4.size; have := hbw7.size; have := hbw8.size; omega)))
            have hTg : Tab (w8.setCells G 0 g.cs.toList) g.ba g.bl gs := Tab.store (Tg) Gw8 _ _
            have hGb : BoxAt (w8.setCells G 0 g.cs.toList) G g.cs := Gw8.fill g
            generalize w8.setCells G 0 g.cs.toList = wf at *
            go_wp2_with fail
            go_meet
            case rel => exact ⟨G, sa, sk, ta, tk, g, gs, ok, rfl, rfl, hG2, hGb, hTg, hR, hsn.1, htn.1, hbf⟩
        · rw [if_pos (by rfl)]
          refine wpAlloc32 rfl ?_
          have Gw9 := BoxAt.new w3 sl0.cs 32
          have Bsw9 := Bsw3.alloc (.cells sl0.cs 32)
          have Btw9 := Btw3.alloc (.cells sl0.cs 32)
          have hbw9 : Below w3.heap.size w3 (w3.alloc (.cells sl0.cs 32)) := (Below.refl _ _).alloc (Nat.le_refl _) _
          refine hK.out _ _ ⟨Bsw9, Btw9⟩ (fun hH => ?_)
          clear hK K
          obtain ⟨G, hG⟩ : ∃ x, x = w3.heap.size := ⟨_, rfl⟩
          rw [← hG] at Gw9
          try rw [← hG]
          have hG2 : w2.heap.size ≤ G := by have := bd.size; have := hbw3.size; omega
          clear hG
          generalize w3.alloc (.cells sl0.cs 32) = w9 at *
          refine wpAnyH_ready (rs := [3]) (by kernel_rfl) (by simp) (AllReadyH.cons rfl (fun K hK => ?_) AllReadyH.nil)
          go_simp
          refine (toSlot_any t bt _ ?_ htl hnt).mono ?_
          · exact ((Ttd.below hbw3).below hbw9)
          rintro e w10 ⟨⟨ta, tk, rfl, htn, Tta⟩, hbw10⟩
          have Bsw10 := Bsw9.below hbw10 Bsw9.lt
          have Btw10 := Btw9.below hbw10 Btw9.lt
          have Gw10 := Gw9.below hbw10 Gw9.lt
          refine hK.out _ _ ⟨Bsw10, Btw10⟩ (fun hH => ?_)
          clear hK K
          refine wpAnyH_take (i := 4) (v := .agg (prCs { s with ba := sa, bk := sk } { t with ba := ta, bk := tk })) rfl (by kernel_rfl) (by kernel_rfl) (by kernel_rfl) (fun _ _ _ h => h) (yieldsBuild { s with ba := sa, bk := sk } { t with ba := ta, bk := tk } rfl _ _ rfl rfl rfl) hH ?_
          refine wpAnyH_ready (rs := [5]) (by kernel_rfl) (by simp) (AllReadyH.cons rfl (fun K hK => ?_) AllReadyH.nil)
          go_simp
          refine (read_any { s with ba := sa, bk := sk } { t with ba := ta, bk := tk } bs bt _ ?_ ?_ hsl htl hsn.2.1).mono ?_
          · exact ((Tsa.below hbw9).below hbw10)
          · exact Tta
          rintro e w11 ⟨⟨g, gs, ok, rfl, Tg, hR⟩, hbw11⟩
          have Bsw11 := Bsw10.below hbw11 Bsw10.lt
          have Btw11 := Btw10.below hbw11 Btw10.lt
          have Gw11 := Gw10.below hbw11 Gw10.lt
          refine hK.out _ _ ⟨Bsw11, Btw11⟩ (fun hH => ?_)
          clear hK K
          refine wpAnyH_take (i := 6) (v := .tuple #[.agg g.cs, .bool ok]) rfl (by kernel_rfl) (by kernel_rfl) (by kernel_rfl) (fun _ _ _ h => h) (.inl ⟨rfl, fun _ _ => by go_simp⟩) hH ?_
          refine wpAnyH_take (i := 7) (v := .agg g.cs) rfl (by kernel_rfl) (by kernel_rfl) (by kernel_rfl) (fun _ _ _ h => h) (.inl ⟨rfl, fun _ _ => by go_simp⟩) hH ?_
          refine wpAnyH_take (i := 8) (v := .bool ok) rfl (by kernel_rfl) (by kernel_rfl) (by kernel_rfl) (fun _ _ _ h => h) (.inl ⟨rfl, fun _ _ => by go_simp⟩) hH ?_
          refine wpAnyH_ready (rs := [10]) (by kernel_rfl) (by simp) (AllReadyH.cons rfl (fun K hK => ?_) AllReadyH.nil)
          rw [if_pos (by rfl)]
          refine wp_store_mid 32 _ _ rfl G 0 g.cs rfl rfl (box_there Gw11 12 (Nat.le_refl _)) info32 g.cs_one ?_
          refine hK.out _ _ ⟨BoxAt.setCells _ (by omega) _ _ _ Bsw11, BoxAt.setCells _ (by omega) _ _ _ Btw11⟩ (fun hH => ?_)
          clear hK K
          refine wpAnyH_take (i := 11) (v := .bool ok) rfl (by kernel_rfl) (by kernel_rfl) (by kernel_rfl) (fun _ _ _ h => h) (.inl ⟨rfl, fun _ _ => by go_simp⟩) hH ?_
          refine wpAnyH_done (by kernel_rfl) ?_ _
          have hbf : Below w2.heap.size w2 (w11.setCells G 0 g.cs.toList) := Below.setCells _ hG2 _ _ _ (((((bd).trans (hbw3.mono (by have := bd.size; have := hbw3.size; have := hbw9.size; have := hbw10.size; have := hbw11.size; omega))).trans (hbw9.mono (by have := bd.size; have := hbw3.size; have := hbw9.size; have := hbw10.size; have := hbw11.size; omega))).trans (hbw10.mono (by have := bd.size; have := hbw3.size; have := hbw9.size; have := hbw10.size; have := hbw11.size; omega))).trans (hbw11.mono (by have := bd.size; have := hbw3.size; have := hbw9.size; have := hbw10.size; have := hbw11.size; omega)))
          have hTg : Tab (w11.setCells G 0 g.cs.toList) g.ba g.bl gs := Tab.store (Tg) Gw11 _ _
          have hGb : BoxAt (w11.setCells G 0 g.cs.toList) G g.cs := Gw11.fill g
          generalize w11.setCells G 0 g.cs.toList = wf at *
          go_wp2_with fail
          go_meet
          case rel => exact ⟨G, sa, sk, ta, tk, g, gs, ok, rfl, rfl, hG2, hGb, hTg, hR, hsn.1, htn.1, hbf⟩
      · rw [if_pos (by rfl)]
        refine wpAlloc32 rfl ?_
        have Gw12 := BoxAt.new wd sl0.cs 32
        have Bsw12 := Bsd.alloc (.cells sl0.cs 32)
        have Btw12 := Btd.alloc (.cells sl0.cs 32)
        have hbw12 : Below wd.heap.size wd (wd.alloc (.cells sl0.cs 32)) := (Below.refl _ _).alloc (Nat.le_refl _) _
        refine hK.out _ _ ⟨Bsw12, Btw12⟩ (fun hH => ?_)
        clear hK K
        obtain ⟨G, hG⟩ : ∃ x, x = wd.heap.size := ⟨_, rfl⟩
        rw [← hG] at Gw12
        try rw [← hG]
        have hG2 : w2.heap.size ≤ G := by have := bd.size; omega
        clear hG
        generalize wd.alloc (.cells sl0.cs 32) = w12 at *
        refine wpAnyH_ready (rs := [1]) (by kernel_rfl) (by simp) (AllReadyH.cons rfl (fun K hK => ?_) AllReadyH.nil)
        go_simp
        refine (toSlot_any s bs _ ?_ hsl hns).mono ?_
        · exact (Tsd.below hbw12)
        rintro e w13 ⟨⟨sa, sk, rfl, hsn, Tsa⟩, hbw13⟩
        have Bsw13 := Bsw12.below hbw13 Bsw12.lt
        have Btw13 := Btw12.below hbw13 Btw12.lt
        have Gw13 := Gw12.below hbw13 Gw12.lt
        refine hK.out _ _ ⟨Bsw13, Btw13⟩ (fun hH => ?_)
        clear hK K
        refine wpAnyH_ready (rs := [3]) (by kernel_rfl) (by simp) (AllReadyH.cons rfl (fun K hK => ?_) AllReadyH.nil)
        go_simp
        refine (toSlot_any t bt _ ?_ htl hnt).mono ?_
        · exact ((Ttd.below hbw12).below hbw13)
        rintro e w14 ⟨⟨ta, tk, rfl, htn, Tta⟩, hbw14⟩
        have Bsw14 := Bsw13.below hbw14 Bsw13.lt
        have Btw14 := Btw13.below hbw14 Btw13.lt
        have Gw14 := Gw13.below hbw14 Gw13.lt
        refine hK.out _ _ ⟨Bsw14, Btw14⟩ (fun hH => ?_)
        clear hK K
        refine wpAnyH_take (i := 4) (v := .agg (prCs { s with ba := sa, bk := sk } { t with ba := ta, bk := tk })) rfl (by kernel_rfl) (by kernel_rfl) (by kernel_rfl) (fun _ _ _ h => h) (yieldsBuild { s with ba := sa, bk := sk } { t with ba := ta, bk := tk } rfl _ _ rfl rfl rfl) hH ?_
        refine wpAnyH_ready (rs := [5]) (by kernel_rfl) (by simp) (AllReadyH.cons rfl (fun K hK => ?_) AllReadyH.nil)
        go_simp
        refine (read_any { s with ba := sa, bk := sk } { t with ba := ta, bk := tk } bs bt _ ?_ ?_ hsl htl hsn.2.1).mono ?_
        · exact (Tsa.below hbw14)
        · exact Tta
        rintro e w15 ⟨⟨g, gs, ok, rfl, Tg, hR⟩, hbw15⟩
        have Bsw15 := Bsw14.below hbw15 Bsw14.lt
        have Btw15 := Btw14.below hbw15 Btw14.lt
        have Gw15 := Gw14.below hbw15 Gw14.lt
        refine hK.out _ _ ⟨Bsw15, Btw15⟩ (fun hH => ?_)
        clear hK K
        refine wpAnyH_take (i := 6) (v := .tuple #[.agg g.cs, .bool ok]) rfl (by kernel_rfl) (by kernel_rfl) (by kernel_rfl) (fun _ _ _ h => h) (.inl ⟨rfl, fun _ _ => by go_simp⟩) hH ?_
        refine wpAnyH_take (i := 7) (v := .agg g.cs) rfl (by kernel_rfl) (by kernel_rfl) (by kernel_rfl) (fun _ _ _ h => h) (.inl ⟨rfl, fun _ _ => by go_simp⟩) hH ?_
        refine wpAnyH_take (i := 8) (v := .bool ok) rfl (by kernel_rfl) (by kernel_rfl) (by kernel_rfl) (fun _ _ _ h => h) (.inl ⟨rfl, fun _ _ => by go_simp⟩) hH ?_
        refine wpAnyH_ready (rs := [10]) (by kernel_rfl) (by simp) (AllReadyH.cons rfl (fun K hK => ?_) AllReadyH.nil)
        rw [if_pos (by rfl)]
        refine wp_store_mid 32 _ _ rfl G 0 g.cs rfl rfl (box_there Gw15 12 (Nat.le_refl _)) info32 g.cs_one ?_
        refine hK.out _ _ ⟨BoxAt.setCells _ (by omega) _ _ _ Bsw15, BoxAt.setCells _ (by omega) _ _ _ Btw15⟩ (fun hH => ?_)
        clear hK K
        refine wpAnyH_take (i := 11) (v := .bool ok) rfl (by kernel_rfl) (by kernel_rfl) (by kernel_rfl) (fun _ _ _ h => h) (.inl ⟨rfl, fun _ _ => by go_simp⟩) hH ?_
        refine wpAnyH_done (by kernel_rfl) ?_ _
        have hbf : Below w2.heap.size w2 (w15.setCells G 0 g.cs.toList) := Below.setCells _ hG2 _ _ _ (((((bd).trans (hbw12.mono (by have := bd.size; have := hbw12.size; have := hbw13.size; have := hbw14.size; have := hbw15.size; omega))).trans (hbw13.mono (by have := bd.size; have := hbw12.size; have := hbw13.size; have := hbw14.size; have := hbw15.size; omega))).trans (hbw14.mono (by have := bd.size; have := hbw12.size; have := hbw13.size; have := hbw14.size; have := hbw15.size; omega))).trans (hbw15.mono (by have := bd.size; have := hbw12.size; have := hbw13.size; have := hbw14.size; have := hbw15.size; omega)))
        have hTg : Tab (w15.setCells G 0 g.cs.toList) g.ba g.bl gs := Tab.store (Tg) Gw15 _ _
        have hGb : BoxAt (w15.setCells G 0 g.cs.toList) G g.cs := Gw15.fill g
        generalize w15.setCells G 0 g.cs.toList = wf at *
        go_wp2_with fail
        go_meet
        case rel => exact ⟨G, sa, sk, ta, tk, g, gs, ok, rfl, rfl, hG2, hGb, hTg, hR, hsn.1, htn.1, hbf⟩
    case rest =>
      obtain ⟨G, sa, sk, ta, tk, g, gs, ok, rfl, rfl, hG2, hGb, hTg, hR, hna, hnb, hb2⟩ := hcut
      have Bs := Bsw2.below hb2 (by omega)
      have Bt := Btw2.below hb2 (by omega)
      have bw : Below w.heap.size w wc := bww2.trans (hb2.mono (by omega))
      have hz : w.heap.size + 2 ≤ wc.heap.size := Nat.le_trans hzw2 hb2.size
      have Ts := Tsw2.below hb2
      have Tt := Ttw2.below hb2
      clear Bsw2 Btw2 bww2 hb2 Tsw2 Ttw2 hns hnt
      go_wp2_with (first | (refine load_in 26 _ rfl rfl w.heap.size 0 rfl s.cs _ ?_ Try.underlying26 rfl info26 ?_; exact Bs.range) | (refine load_in 26 _ rfl rfl (w.heap.size + 1) 0 rfl t.cs _ ?_ Try.underlying26 rfl info26 ?_; exact Bt.range))
      refine (modelActive_any s t bs bt wc Ts Tt hsl htl).mono ?_
      rintro e w3 ⟨rfl, hb3⟩
      have Bs3 := Bs.below hb3 Bs.lt
      have Bt3 := Bt.below hb3 Bt.lt
      have G3 := hGb.below hb3 hGb.lt
      have Tg3 := hTg.below hb3
      have Ts3 := Ts.below hb3
      have Tt3 := Tt.below hb3
      have bw3 : Below w.heap.size w w3 := bw.trans (hb3.mono (by omega))
      have hz3 : w.heap.size + 2 ≤ w3.heap.size := Nat.le_trans hz hb3.size
      clear Bs Bt hGb hTg Ts Tt bw hz hb3
      rcases hR with ⟨ha, rfl, rfl, rfl⟩ | ⟨ha, rfl, rfl, rfl⟩ | ⟨ha, hc, rfl, ⟨ga, gk, rfl⟩, rfl⟩ | ⟨ha, hc, rfl, rfl, rfl⟩
      · rw [show act s t gs bt = 0 from ha]
        have HN : Hid (sa.isNone = s.ba.isNone) := hna
        clear ha hna hnb
        go_wp2_with (first | (refine load_in 32 _ rfl rfl G 0 rfl ({ s with ba := sa, bk := sk } : Sl).cs _ ?_ Try.underlying32 rfl info32 ?_; exact G3.range) | (refine load_in 26 _ rfl rfl w.heap.size 0 rfl s.cs _ ?_ Try.underlying26 rfl info26 ?_; exact Bs3.range))
        refine (sameSlot_any s sa sk gs w3 HN.out Tg3 Ts3 hsl).mono ?_
        rintro e w4 ⟨rfl, hb4⟩
        have bw4 : Below w.heap.size w w4 := bw3.trans (hb4.mono (by omega))
        go_wp2
        go_ret
        exact ⟨rfl, bw4⟩
      · rw [show act s t bs gs = 1 from ha]
        have HN : Hid (ta.isNone = t.ba.isNone) := hnb
        clear ha hna hnb
        go_wp2_with (first | (refine load_in 32 _ rfl rfl G 0 rfl ({ t with ba := ta, bk := tk } : Sl).cs _ ?_ Try.underlying32 rfl info32 ?_; exact G3.range) | (refine load_in 26 _ rfl rfl (w.heap.size + 1) 0 rfl t.cs _ ?_ Try.underlying26 rfl info26 ?_; exact Bt3.range))
        refine (sameSlot_any t ta tk gs w3 HN.out Tg3 Tt3 htl).mono ?_
        rintro e w4 ⟨rfl, hb4⟩
        have bw4 : Below w.heap.size w w4 := bw3.trans (hb4.mono (by omega))
        go_wp2
        go_ret
        exact ⟨rfl, bw4⟩
      · rw [show act s t bs bt = -1 from ha]
        clear ha
        obtain ⟨h1, h2, h3, h4⟩ := cop_parts hc
        have H3 : Hid (s.ver = t.ver) := h3
        have H4 : Hid (s.bl = t.bl) := h4
        have H1 : Hid (s.snd = true) := h1
        have H2 : Hid (t.snd = true) := h2
        clear h1 h2 h3 h4 hc hna hnb
        go_wp2_with (first | (refine load_in 26 _ rfl rfl w.heap.size 0 rfl s.cs _ ?_ Try.underlying26 rfl info26 ?_; exact Bs3.range))
        refine (modelSound_any s w3).mono ?_
        rintro e w4 ⟨rfl, hb4⟩
        rw [H1.out]
        have Bs4 := Bs3.below hb4 Bs3.lt
        have Bt4 := Bt3.below hb4 Bt3.lt
        have G4 := G3.below hb4 G3.lt
        go_wp2_with (first | (refine load_in 26 _ rfl rfl (w.heap.size + 1) 0 rfl t.cs _ ?_ Try.underlying26 rfl info26 ?_; exact Bt4.range))
        refine (modelSound_any t w4).mono ?_
        rintro e w5 ⟨rfl, hb5⟩
        rw [H2.out]
        have Bs5 := Bs4.below hb5 Bs4.lt
        have Bt5 := Bt4.below hb5 Bt4.lt
        have G5 := G4.below hb5 G4.lt
        have s3 : w5.cell? ⟨w.heap.size, 3, none⟩ = some (.int .u64 s.ver) := Bs5.cell 3
        have t3 : w5.cell? ⟨w.heap.size + 1, 3, none⟩ = some (.int .u64 t.ver) := Bt5.cell 3
        have s10 : w5.cell? ⟨w.heap.size, 10, none⟩ = some (.slice s.ba s.bl s.bk) := Bs5.cell 10
        have t10 : w5.cell? ⟨w.heap.size + 1, 10, none⟩ = some (.slice t.ba t.bl t.bk) := Bt5.cell 10
        have hv : (s.ver == t.ver) = true := by rw [H3.out]; simp
        have hl : ((s.bl : Int) == (t.bl : Int)) = true := by rw [H4.out]; simp
        go_wp2_with (first | (refine load_in 32 _ rfl rfl G 0 rfl ({ s with ba := ga, bk := gk } : Sl).cs _ ?_ Try.underlying32 rfl info32 ?_; exact G5.range) | (refine load_in 26 _ rfl rfl w.heap.size 0 rfl s.cs _ ?_ Try.underlying26 rfl info26 ?_; exact Bs5.range))
        refine (sameHead_any s ga s.bl gk w5).mono ?_
        rintro e w6 ⟨rfl, hb6⟩
        have Bs6 := Bs5.below hb6 Bs5.lt
        have Bt6 := Bt5.below hb6 Bt5.lt
        have G6 := G5.below hb6 G5.lt
        have b36 : Below w3.heap.size w3 w6 := (hb4.trans (hb5.mono hb4.size)).trans (hb6.mono (Nat.le_trans hb4.size hb5.size))
        have Tg6 : Tab w6 ga s.bl (mrg bs bt s.bl) := Tg3.below b36
        have Ts6 := Ts3.below b36
        have Tt6 := Tt3.below b36
        have bw6 : Below w.heap.size w w6 := bw3.trans (b36.mono (by omega))
        have hz6 : w.heap.size + 2 ≤ w6.heap.size := Nat.le_trans hz3 b36.size
        clear s3 t3 s10 t10 hv hl Bs3 Bt3 G3 Tg3 Ts3 Tt3 bw3 hz3 Bs4 Bt4 G4 Bs5 Bt5 G5 hb4 hb5 hb6 b36
        have s10 : w6.cell? ⟨w.heap.size, 10, none⟩ = some (.slice s.ba s.bl s.bk) := Bs6.cell 10
        have g10 : w6.cell? ⟨G, 10, none⟩ = some (.slice ga s.bl gk) := G6.cell 10
        have hne : ((s.bl : Int) != (s.bl : Int)) = false := by simp
        go_wp2_with fail
        clear s10 g10
        go_loopw [8] (fun i wr => ∃ k : Nat, k ≤ s.bl ∧ i = .int .i64 k ∧ Hid (Below w6.heap.size w6 wr)) (fun i _ => s.bl - (intOf i).toNat)
        case atStart => exact ⟨0, Nat.zero_le _, rfl, Below.refl _ _⟩
        case round =>
          obtain ⟨k, hk, rfl, HB⟩ := hrel
          have Bs8 := Bs6.below HB.out Bs6.lt
          have Bt8 := Bt6.below HB.out Bt6.lt
          have G8 := G6.below HB.out G6.lt
          have Tg8 := Tg6.below HB.out
          have s10 : wr.cell? ⟨w.heap.size, 10, none⟩ = some (.slice s.ba s.bl s.bk) := Bs8.cell 10
          have t10 : wr.cell? ⟨w.heap.size + 1, 10, none⟩ = some (.slice t.ba t.bl t.bk) := Bt8.cell 10
          by_cases hlt : k < s.bl
          · rcases (Ts6.below HB.out).at_ with h | ⟨sg, so, hsa, hsgl, hsx⟩
            · omega
            obtain ⟨z, hzk⟩ : ∃ z, bs.getD k bk0 = z := ⟨_, rfl⟩
            have hat := hsx k hlt
            rw [hzk] at hat
            obtain ⟨a0, a1, a2, a3⟩ := hat
            rw [hsa] at s10
            have HZ : Hid (bs.getD k bk0 = z) := hzk
            clear hsx hzk hsa Bs8
            cases hok : z.ok
            · rw [hok] at a3
              have hkt : k < t.bl := by rw [← H4.out]; exact hlt
              rcases (Tt6.below HB.out).at_ with h | ⟨tg, to_, hta, htgl, htx⟩
              · omega
              obtain ⟨y, hyk⟩ : ∃ y, bt.getD k bk0 = y := ⟨_, rfl⟩
              have hat := htx k hkt
              rw [hyk] at hat
              have e0 : ∀ ob, (wr.alloc ob).cell? ⟨tg, to_ + k * 4, none⟩ = some (.int .u32 y.crc) := fun ob => (BankAt.of_range (World.rangeAt_alloc hat.range ob)).c0
              have e1 : ∀ ob, (wr.alloc ob).cell? ⟨tg, to_ + k * 4 + 1, none⟩ = some (.int .u64 y.off) := fun ob => (BankAt.of_range (World.rangeAt_alloc hat.range ob)).c1
              have e2 : ∀ ob, (wr.alloc ob).cell? ⟨tg, to_ + k * 4 + 2, none⟩ = some (.int .u32 y.sz) := fun ob => (BankAt.of_range (World.rangeAt_alloc hat.range ob)).c2
              have e3 : ∀ ob, (wr.alloc ob).cell? ⟨tg, to_ + k * 4 + 3, none⟩ = some (.bool y.ok) := fun ob => (BankAt.of_range (World.rangeAt_alloc hat.range ob)).c3
              have t10a : ∀ ob, (wr.alloc ob).cell? ⟨w.heap.size + 1, 10, none⟩ = some (.slice (some ⟨tg, to_, none⟩) t.bl t.bk) := fun ob => ((Bt8.alloc ob).cell 10).trans (by show some (Value.slice t.ba t.bl t.bk) = _; rw [hta])
              clear t10 hat
              have HPick : Hid (pick (bs.getD k bk0) (bt.getD k bk0) = y) := by rw [HZ.out, hyk]; simp [pick, hok, Hid]
              clear htx hyk hta Bt8
              go_wp2_with fail
              have BR := BoxAt.new wr y.cs 41
              have b7 : Below wr.heap.size wr (wr.alloc (.cells y.cs 41)) := (Below.refl _ _).alloc (Nat.le_refl _) _
              obtain ⟨R, hR⟩ : ∃ x, x = wr.heap.size := ⟨_, rfl⟩
              rw [← hR] at BR ⊢
              change Code.wp _ _ _ _ (wr.alloc (.cells y.cs 41))
              generalize wr.alloc (.cells y.cs 41) = w7 at *
              have G7 := G8.below b7 G8.lt
              have T7 := Tg8.below b7
              have HB7 : Hid (Below w6.heap.size w6 w7) := HB.out.trans (b7.mono HB.out.size)
              have g10 : w7.cell? ⟨G, 10, none⟩ = some (.slice ga s.bl gk) := G7.cell 10
              rcases T7.at_ with h | ⟨gg, go, hga, hgl, hgx⟩
              · omega
              rw [hga] at g10
              have hat := hgx k hlt
              rw [mrg_get _ _ _ _ hlt, HPick.out] at hat
              obtain ⟨c0, c1, c2, c3⟩ := hat
              have r0 : w7.cell? ⟨R, 0, none⟩ = some (.int .u32 y.crc) := BR.cell 0
              have r1 : w7.cell? ⟨R, 1, none⟩ = some (.int .u64 y.off) := BR.cell 1
              have r2 : w7.cell? ⟨R, 2, none⟩ = some (.int .u32 y.sz) := BR.cell 2
              have r3 : w7.cell? ⟨R, 3, none⟩ = some (.bool y.ok) := BR.cell 3
              have hR7 : R < w7.heap.size := BR.lt
              have hG7 : G < w7.heap.size := G7.lt
              have hk0 : (0 : Int) ≤ (k : Int) := by omega
              have hk1 : (k : Int) < (s.bl : Int) := by omega
              clear hgx hga hR b7 G8 Tg8 HB
              go_region_held3 (fun w' => w'.cell? ⟨G, 10, none⟩ = some (.slice (some ⟨gg, go, none⟩) s.bl gk) ∧ w'.cell? ⟨R, 0, none⟩ = some (.int .u32 y.crc) ∧ w'.cell? ⟨R, 1, none⟩ = some (.int .u64 y.off) ∧ w'.cell? ⟨R, 2, none⟩ = some (.int .u32 y.sz) ∧ w'.cell? ⟨R, 3, none⟩ = some (.bool y.ok) ∧ w'.cell? ⟨gg, go + k * 4, none⟩ = some (.int .u32 y.crc) ∧ w'.cell? ⟨gg, go + k * 4 + 1, none⟩ = some (.int .u64 y.off) ∧ w'.cell? ⟨gg, go + k * 4 + 2, none⟩ = some (.int .u32 y.sz) ∧ w'.cell? ⟨gg, go + k * 4 + 3, none⟩ = some (.bool y.ok)) (go_keep)
                (first | (go_at_call 20; refine (sameBank_any y y _).mono ?_; rintro e w8 ⟨rfl, hb8⟩; have hb8 := unDrew hb8; obtain ⟨hc8, hf8⟩ := bcell hb8; rw [sameB_self]))
              rename_i hHeld
              clear hHeld hc8 hf8 c0 c1 c2 c3 r0 r1 r2 r3 g10
              have HB8 : Hid (Below w6.heap.size w6 w8) := HB7.out.trans (hb8.mono HB7.out.size)
              go_wp2
              go_roundw
              case rel => exact ⟨k + 1, by omega, by go_num, HB8⟩
              case measure => simp [intOf]; omega
            · rw [hok] at a3
              have HPick : Hid (pick (bs.getD k bk0) (bt.getD k bk0) = z) := by rw [HZ.out]; simp [pick, hok, Hid]
              clear t10 Bt8
              go_wp2_with fail
              have BR := BoxAt.new wr z.cs 41
              have b7 : Below wr.heap.size wr (wr.alloc (.cells z.cs 41)) := (Below.refl _ _).alloc (Nat.le_refl _) _
              obtain ⟨R, hR⟩ : ∃ x, x = wr.heap.size := ⟨_, rfl⟩
              rw [← hR] at BR ⊢
              rw [show (#[.int .u32 z.crc, .int .u64 z.off, .int .u32 z.sz, .bool true] : Array Value) = z.cs by rw [← hok]; rfl]
              clear hok
              generalize wr.alloc (.cells z.cs 41) = w7 at *
              have G7 := G8.below b7 G8.lt
              have T7 := Tg8.below b7
              have HB7 : Hid (Below w6.heap.size w6 w7) := HB.out.trans (b7.mono HB.out.size)
              have g10 : w7.cell? ⟨G, 10, none⟩ = some (.slice ga s.bl gk) := G7.cell 10
              rcases T7.at_ with h | ⟨gg, go, hga, hgl, hgx⟩
              · omega
              rw [hga] at g10
              have hat := hgx k hlt
              rw [mrg_get _ _ _ _ hlt, HPick.out] at hat
              obtain ⟨c0, c1, c2, c3⟩ := hat
              have r0 : w7.cell? ⟨R, 0, none⟩ = some (.int .u32 z.crc) := BR.cell 0
              have r1 : w7.cell? ⟨R, 1, none⟩ = some (.int .u64 z.off) := BR.cell 1
              have r2 : w7.cell? ⟨R, 2, none⟩ = some (.int .u32 z.sz) := BR.cell 2
              have r3 : w7.cell? ⟨R, 3, none⟩ = some (.bool z.ok) := BR.cell 3
              have hR7 : R < w7.heap.size := BR.lt
              have hG7 : G < w7.heap.size := G7.lt
              have hk0 : (0 : Int) ≤ (k : Int) := by omega
              have hk1 : (k : Int) < (s.bl : Int) := by omega
              clear hgx hga hR b7 G8 Tg8 HB
              go_region_held3 (fun w' => w'.cell? ⟨G, 10, none⟩ = some (.slice (some ⟨gg, go, none⟩) s.bl gk) ∧ w'.cell? ⟨R, 0, none⟩ = some (.int .u32 z.crc) ∧ w'.cell? ⟨R, 1, none⟩ = some (.int .u64 z.off) ∧ w'.cell? ⟨R, 2, none⟩ = some (.int .u32 z.sz) ∧ w'.cell? ⟨R, 3, none⟩ = some (.bool z.ok) ∧ w'.cell? ⟨gg, go + k * 4, none⟩ = some (.int .u32 z.crc) ∧ w'.cell? ⟨gg, go + k * 4 + 1, none⟩ = some (.int .u64 z.off) ∧ w'.cell? ⟨gg, go + k * 4 + 2, none⟩ = some (.int .u32 z.sz) ∧ w'.cell? ⟨gg, go + k * 4 + 3, none⟩ = some (.bool z.ok)) (go_keep)
                (first | (go_at_call 20; refine (sameBank_any z z _).mono ?_; rintro e w8 ⟨rfl, hb8⟩; have hb8 := unDrew hb8; obtain ⟨hc8, hf8⟩ := bcell hb8; rw [sameB_self]))
              rename_i hHeld
              clear hHeld hc8 hf8 c0 c1 c2 c3 r0 r1 r2 r3 g10
              have HB8 : Hid (Below w6.heap.size w6 w8) := HB7.out.trans (hb8.mono HB7.out.size)
              go_wp2
              go_roundw
              case rel => exact ⟨k + 1, by omega, by go_num, HB8⟩
              case measure => simp [intOf]; omega
          · go_wp2
            go_ret
            exact ⟨rfl, bw6.trans (HB.out.mono (by omega))⟩
      · rw [show act s t bs bt = -1 from ha]
        clear ha hna hnb
        have HC : Hid (cop s t = false) := hc
        clear hc
        obtain ⟨q0, hq0⟩ : ∃ q, q = sl0 := ⟨_, rfl⟩
        have HQ : Hid (q0 = sl0) := hq0
        rw [← hq0] at G3
        clear hq0 Tg3
        have Fin : Hid (∀ w6 : World, Below w3.heap.size w3 w6 → BoxAt w6 G q0.cs ∧ Below w.heap.size w w6 ∧ w.heap.size ≤ w6.heap.size) := fun w6 hb => ⟨G3.below hb G3.lt, bw3.trans (hb.mono (by omega)), Nat.le_trans (by omega) hb.size⟩
        go_wp2_with (first | (refine load_in 26 _ rfl rfl w.heap.size 0 rfl s.cs _ ?_ Try.underlying26 rfl info26 ?_; exact Bs3.range))
        refine (modelSound_any s w3).mono ?_
        rintro e w4 ⟨rfl, hb4⟩
        cases h1 : s.snd
        · obtain ⟨G6, bw6, hz6⟩ := Fin.out w4 hb4
          clear Bs3 Bt3 G3 Ts3 Tt3 bw3 hz3 hb4 Fin HC
          go_upto_region 23 with fail
          go_wp2_with (first | (refine load_in 32 _ rfl rfl G 0 rfl q0.cs _ ?_ Try.underlying32 rfl info32 ?_; exact G6.range))
          refine (isZero_of q0 HQ.out w4).mono ?_
          rintro e w7 ⟨rfl, hb7⟩
          have bw7 : Below w.heap.size w w7 := bw6.trans (hb7.mono hz6)
          go_wp2
          go_ret
          exact ⟨rfl, bw7⟩
        have Bt4 := Bt3.below hb4 Bt3.lt
        have Bs4 := Bs3.below hb4 Bs3.lt
        go_wp2_with (first | (refine load_in 26 _ rfl rfl (w.heap.size + 1) 0 rfl t.cs _ ?_ Try.underlying26 rfl info26 ?_; exact Bt4.range))
        refine (modelSound_any t w4).mono ?_
        rintro e w5 ⟨rfl, hb5⟩
        have Bs5 := Bs4.below hb5 Bs4.lt
        have Bt5 := Bt4.below hb5 Bt4.lt
        obtain ⟨G6, bw6, hz6⟩ := Fin.out w5 (hb4.trans (hb5.mono hb4.size))
        have s3 : w5.cell? ⟨w.heap.size, 3, none⟩ = some (.int .u64 s.ver) := Bs5.cell 3
        have t3 : w5.cell? ⟨w.heap.size + 1, 3, none⟩ = some (.int .u64 t.ver) := Bt5.cell 3
        have s10 : w5.cell? ⟨w.heap.size, 10, none⟩ = some (.slice s.ba s.bl s.bk) := Bs5.cell 10
        have t10 : w5.cell? ⟨w.heap.size + 1, 10, none⟩ = some (.slice t.ba t.bl t.bk) := Bt5.cell 10
        clear Bs3 Bt3 G3 Ts3 Tt3 bw3 hz3 hb4 Bs4 Bt4 hb5 Bs5 Bt5 Fin
        cases h2 : t.snd
        · clear HC
          go_upto_region 23 with fail
          go_wp2_with (first | (refine load_in 32 _ rfl rfl G 0 rfl q0.cs _ ?_ Try.underlying32 rfl info32 ?_; exact G6.range))
          refine (isZero_of q0 HQ.out w5).mono ?_
          rintro e w7 ⟨rfl, hb7⟩
          have bw7 : Below w.heap.size w w7 := bw6.trans (hb7.mono hz6)
          go_wp2
          go_ret
          exact ⟨rfl, bw7⟩
        by_cases hv0 : s.ver = t.ver
        · have hv : (s.ver == t.ver) = true := by simp [hv0]
          have hl : ((s.bl : Int) == (t.bl : Int)) = false := by
            have h := HC.out
            simp only [cop, h1, h2, hv, Bool.true_and] at h
            rw [intCast_beq]; exact h
          clear hv0 HC
          go_upto_region 23 with fail
          go_wp2_with (first | (refine load_in 32 _ rfl rfl G 0 rfl q0.cs _ ?_ Try.underlying32 rfl info32 ?_; exact G6.range))
          refine (isZero_of q0 HQ.out w5).mono ?_
          rintro e w7 ⟨rfl, hb7⟩
          have bw7 : Below w.heap.size w w7 := bw6.trans (hb7.mono hz6)
          go_wp2
          go_ret
          exact ⟨rfl, bw7⟩
        · have hv : (s.ver == t.ver) = false := by simp [hv0]
          clear hv0 HC
          go_upto_region 23 with fail
          go_wp2_with (first | (refine load_in 32 _ rfl rfl G 0 rfl q0.cs _ ?_ Try.underlying32 rfl info32 ?_; exact G6.range))
          refine (isZero_of q0 HQ.out w5).mono ?_
          rintro e w7 ⟨rfl, hb7⟩
          have bw7 : Below w.heap.size w w7 := bw6.trans (hb7.mono hz6)
          go_wp2
          go_ret
          exact ⟨rfl, bw7⟩
  · go_wp2
    go_ret
    exact ⟨rfl, bww2⟩
end Go.Proofs.Qxb6602376a
