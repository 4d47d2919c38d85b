import Derived.Test.Qxb6602376aFacts
import Derived.Deep.DeepCutAuto
import Derived.Deep.LoopGhost
import Derived.Deep.QuietTactic
import Derived.BigQuiet
namespace Go.Proofs.Qxb6602376a
open Go.RowKit

theorem build34 (s t : Sl) (w : World) : (Instr.build 34 #[(0, .agg s.cs), (1, .agg t.cs)]).run Try.prog w = .ok (.agg (prCs s t)) w := by kernel_rfl
theorem alloc34 (w : World) : (Instr.alloc 34 true (.tuple #[])).run Try.prog w = .ok (.pointer (some ⟨w.heap.size, 0, none⟩)) (w.alloc (.cells (prCs sl0 sl0) 34)) := by kernel_rfl
theorem prCs_one (s t : Sl) : (prCs s t).all (·.oneCell') = true := by simp [prCs, Value.oneCell']

theorem yieldsLoad {P : Program} {ops : Array Oper} {S : World → Prop} {op : Oper} {a : Act} (hw : Region.wanted op (yielded ops a.tmps) = true) (ty : TypeId) (x : Operand) (ho : op.op = .load ty x)
    (b o : Nat) (hx : a.eval x = .pointer (some ⟨b, o, none⟩)) (cs : Array Value) (d : TypeDesc) (hS : ∀ w, S w → w.rangeAt b o cs.toList)
    (hu : P.underlying ty = some d) (hd : d.isRow = true) (hi : (P.info? ty).map (·.size) = some cs.size) : YieldsIf P ops S op (.agg cs) a := by
  have := yieldsIf_load_mid (P := P) (ops := ops) (S := S) hw ty x ho b o hx cs.toList d hS hu hd (by simpa using hi)
  simpa using this

/-- The pair's variable. -/
structure PairAt (w : World) (P : Nat) (cs : Array Value) : Prop where
  lt : P < w.heap.size
  range : w.rangeAt P 0 cs.toList
theorem PairAt.below {w w' : World} {P : Nat} {cs : Array Value} (h : PairAt w P cs) (hb : Below w.heap.size w w') : PairAt w' P cs :=
  ⟨Nat.lt_of_lt_of_le h.lt hb.size, fun j v hv => (hb.cell (p := ⟨P, 0 + j, none⟩) h.lt).trans (h.range j v hv)⟩

theorem yieldsBuild {ops : Array Oper} {S : World → Prop} {oi : Oper} {a : Act} (s t : Sl) (hw : Region.wanted oi (yielded ops a.tmps) = true) (x y : Operand) (ho : oi.op = .build 34 #[(0, x), (1, y)])
    (hx : a.eval x = .agg s.cs) (hy : a.eval y = .agg t.cs) : YieldsIf Try.prog ops S oi (.agg (prCs s t)) a := by
  refine .inl ⟨hw, fun w _ => ?_⟩
  have hb := build34 s t w
  simp [execOp, ho, hx, hy, hb]
theorem wpAlloc34 {op : Oper} {a : Act} {w : World} {K : Act → World → Prop} {Q : Exit → Act → World → Prop} (ho : op.op = .alloc 34)
    (h : K (a.put op.dst (.pointer (some ⟨w.heap.size, 0, none⟩))) (w.alloc (.cells (prCs sl0 sl0) 34))) : op.wp Try.prog a w K Q := by
  unfold Oper.wp execOp
  have ha := alloc34 w
  simp only [ho, Sem.run_bind, ha, Result.andThen_ok, Sem.run_pure]
  exact h

set_option maxRecDepth 100000 in
set_option maxHeartbeats 8000000 in
theorem copy_walk (s t : Sl) (bs bt : List Bk) (w : World) (cs : Came w s bs) (ct : Came w t bt) :
    Calls Try.prog 6 #[.agg s.cs, .agg t.cs] w fun e w' => e = .returned (.bool true) ∧ Below w.heap.size w w' := by
  have Bs := (BoxAt.new w s.cs 26).alloc (.cells t.cs 26)
  have Bt := BoxAt.new (w.alloc (.cells s.cs 26)) t.cs 26
  have b0 : Below w.heap.size w ((w.alloc (.cells s.cs 26)).alloc (.cells t.cs 26)) := ((Below.refl _ _).alloc (Nat.le_refl _) _).alloc (by simp) _
  have hz : ((w.alloc (.cells s.cs 26)).alloc (.cells t.cs 26)).heap.size = w.heap.size + 2 := by simp
  rw [show (w.alloc (.cells s.cs 26)).heap.size = w.heap.size + 1 by simp] at Bt
  go_enter Try.func6, Try.ntmps6
  go_wp2_with (first | (refine load_in 26 _ rfl rfl w.heap.size 0 rfl s.cs _ Bs.range Try.underlying26 rfl info26 ?_) | (refine load_in 26 _ rfl rfl (w.heap.size + 1) 0 rfl t.cs _ Bt.range Try.underlying26 rfl info26 ?_))
  generalize (w.alloc (.cells s.cs 26)).alloc (.cells t.cs 26) = W at *
  refine (bytes22_any s t W).mono ?_
  rintro e w1 ⟨⟨b, rfl⟩, hb1⟩
  have Bs1 := Bs.below hb1 (by omega)
  have Bt1 := Bt.below hb1 (by omega)
  have b1 : Below w.heap.size w w1 := b0.trans (hb1.mono (by omega))
  have hz1 : w.heap.size + 2 ≤ w1.heap.size := by have := hb1.size; omega
  clear Bs Bt b0 hz hb1
  cases b
  · go_wp2
    go_ret
    exact ⟨rfl, b1⟩
  go_wp2_with (first | (refine load_in 26 _ rfl rfl w.heap.size 0 rfl s.cs _ Bs1.range Try.underlying26 rfl info26 ?_) | (refine load_in 26 _ rfl rfl (w.heap.size + 1) 0 rfl t.cs _ Bt1.range Try.underlying26 rfl info26 ?_))
  refine (tooBig_any s t w1).mono ?_
  rintro e w2 ⟨⟨b, rfl, hbig⟩, hb2⟩
  have Bsw2 := Bs1.below hb2 (by omega)
  have Btw2 := Bt1.below hb2 (by omega)
  have bww2 : Below w.heap.size w w2 := b1.trans (hb2.mono (by omega))
  have hzw2 : w.heap.size + 2 ≤ w2.heap.size := by have := hb2.size; omega
  clear Bs1 Bt1 b1 hz1 hb2
  cases b
  · obtain ⟨hsl, htl⟩ := hbig rfl
    have Tsw2 := cs.tab.below bww2
    have Ttw2 := ct.tab.below bww2
    have hns := cs.nil_
    have hnt := ct.nil_
    clear hbig cs ct
    go_wp2_with fail
    go_cut [5] (fun p w' => ∃ P sa sk ta tk, p = .pointer (some ⟨P, 0, none⟩) ∧ w2.heap.size ≤ P ∧ PairAt w' P (prCs { s with ba := sa, bk := sk } { t with ba := ta, bk := tk }) ∧ Tab w' sa s.bl bs ∧ Tab w' ta t.bl bt ∧ (sa = none → s.bl = 0 ∧ sk = 0) ∧ (ta = none → t.bl = 0 ∧ tk = 0) ∧ Below w2.heap.size w2 w')
    case first =>
      refine wp_region_held_drew (S := fun w' => BoxAt w' w.heap.size s.cs ∧ BoxAt w' (w.heap.size + 1) t.cs) (by kernel_rfl) ⟨Bsw2.drew, Btw2.drew⟩ (fun hH => ?_)
      refine wpAnyH_take (i := 0) (v := .agg s.cs) rfl (by kernel_rfl) (by kernel_rfl) (by kernel_rfl) (fun _ _ _ h => h) (yieldsLoad rfl 26 _ rfl w.heap.size 0 rfl s.cs _ (fun w' h => h.1.range) Try.underlying26 rfl info26) hH ?_
      refine wpAnyH_take (i := 2) (v := .agg t.cs) rfl (by kernel_rfl) (by kernel_rfl) (by kernel_rfl) (fun _ _ _ h => h) (yieldsLoad rfl 26 _ rfl (w.heap.size + 1) 0 rfl t.cs _ (fun w' h => h.2.range) Try.underlying26 rfl info26) hH ?_
      simp only [Act.put, List.setIfInBounds_toArray]
      have Bsd := Bsw2.drew
      have Btd := Btw2.drew
      have Tsd := Tsw2.drew
      have Ttd := Ttw2.drew
      have bd : Below w2.heap.size w2 w2.drew := (Below.refl _ _).drew
      have hzd : w2.drew.heap.size = w2.heap.size := rfl
      generalize w2.drew = wd at *
      refine wpAnyH_ready (rs := [1, 5]) (by kernel_rfl) (by simp) (AllReadyH.cons rfl (fun K hK => ?_) (AllReadyH.cons rfl (fun K hK => ?_) AllReadyH.nil))
      · go_simp
        refine (toSlot_any s bs _ ?_ hsl hns).mono ?_
        · exact Tsd
        rintro e w3 ⟨⟨sa, sk, rfl, hsn, Tsw3⟩, hbw3⟩
        have Bsw3 := Bsd.below hbw3 Bsd.lt
        have Btw3 := Btd.below hbw3 Btd.lt
        refine hK.out _ _ ⟨Bsw3, Btw3⟩ (fun hH => ?_)
        clear hK K
        refine wpAnyH_ready (rs := [3, 5]) (by kernel_rfl) (by simp) (AllReadyH.cons rfl (fun K hK => ?_) (AllReadyH.cons rfl (fun K hK => ?_) AllReadyH.nil))
        · go_simp
          refine (toSlot_any t bt _ ?_ htl hnt).mono ?_
          · exact Ttd.below hbw3
          rintro e w4 ⟨⟨ta, tk, rfl, htn, Ttw4⟩, hbw4⟩
          have Bsw4 := Bsw3.below hbw4 Bsw3.lt
          have Btw4 := Btw3.below hbw4 Btw3.lt
          refine hK.out _ _ ⟨Bsw4, Btw4⟩ (fun hH => ?_)
          clear hK K
          refine wpAnyH_take (i := 4) (v := .agg (prCs { s with ba := sa, bk := sk } { t with ba := ta, bk := tk })) rfl (by kernel_rfl) (by kernel_rfl) (by kernel_rfl) (fun _ _ _ h => h) (yieldsBuild { s with ba := sa, bk := sk } { t with ba := ta, bk := tk } rfl _ _ rfl rfl rfl) hH ?_
          refine wpAnyH_ready (rs := [5]) (by kernel_rfl) (by simp) (AllReadyH.cons rfl (fun K hK => ?_) AllReadyH.nil)
          rw [if_pos (by rfl)]
          refine wpAlloc34 rfl ?_
          have Bw5 := BoxAt.new w4 (prCs sl0 sl0) 34
          have Bsw5 := Bsw4.alloc (.cells (prCs sl0 sl0) 34)
          have Btw5 := Btw4.alloc (.cells (prCs sl0 sl0) 34)
          have bw5 : Below w4.heap.size w4 (w4.alloc (.cells (prCs sl0 sl0) 34)) := (Below.refl _ _).alloc (Nat.le_refl _) _
          refine hK.out _ _ ⟨Bsw5, Btw5⟩ (fun hH => ?_)
          clear hK K
          generalize w4.alloc (.cells (prCs sl0 sl0) 34) = w5 at *
          refine wpAnyH_ready (rs := [6]) (by kernel_rfl) (by simp) (AllReadyH.cons rfl (fun K hK => ?_) AllReadyH.nil)
          rw [if_pos (by rfl)]
          have hth : w5.there w4.heap.size 0 24 := box_there Bw5 24 (Nat.le_refl _)
          refine wp_store_mid 34 _ _ rfl w4.heap.size 0 (prCs { s with ba := sa, bk := sk } { t with ba := ta, bk := tk }) rfl rfl hth info34 (prCs_one _ _) ?_
          have hP : w2.heap.size ≤ w4.heap.size := by have := hbw3.size; have := hbw4.size; omega
          have hlt := Bw5.lt
          refine hK.out _ _ ⟨BoxAt.setCells _ (by omega) _ _ _ Bsw5, BoxAt.setCells _ (by omega) _ _ _ Btw5⟩ (fun hH => ?_)
          refine wpAnyH_done (by kernel_rfl) ?_ _
          clear hK K
          have hbf : Below w2.heap.size w2 (w5.setCells w4.heap.size 0 (prCs { s with ba := sa, bk := sk } { t with ba := ta, bk := tk }).toList) := Below.setCells _ hP _ _ _ ((bd.trans (hbw3.mono (by omega))).trans ((hbw4.mono (by have := hbw3.size; omega)).trans (bw5.mono (by have := hbw3.size; have := hbw4.size; omega))))
          have hTs : Tab (w5.setCells w4.heap.size 0 (prCs { s with ba := sa, bk := sk } { t with ba := ta, bk := tk }).toList) sa s.bl bs := Tsw3.below (Below.setCells _ (by have := hbw4.size; omega) _ _ _ (hbw4.trans (bw5.mono hbw4.size)))
          have hTt : Tab (w5.setCells w4.heap.size 0 (prCs { s with ba := sa, bk := sk } { t with ba := ta, bk := tk }).toList) ta t.bl bt := Ttw4.below (Below.setCells _ (Nat.le_refl _) _ _ _ bw5)
          have hPr : PairAt (w5.setCells w4.heap.size 0 (prCs { s with ba := sa, bk := sk } { t with ba := ta, bk := tk }).toList) w4.heap.size (prCs { s with ba := sa, bk := sk } { t with ba := ta, bk := tk }) := ⟨by rw [size_setCells]; exact hlt, World.rangeAt_setCells_same _ _ _ _ hth⟩
          generalize w5.setCells w4.heap.size 0 (prCs { s with ba := sa, bk := sk } { t with ba := ta, bk := tk }).toList = wf at *
          go_wp2_with fail
          go_meet
          case rel => exact ⟨w4.heap.size, sa, sk, ta, tk, rfl, hP, hPr, hTs, hTt, hsn.2.1, htn.2.1, hbf⟩
        · rw [if_pos (by rfl)]
          refine wpAlloc34 rfl ?_
          have Bw4 := BoxAt.new w3 (prCs sl0 sl0) 34
          have Bsw4 := Bsw3.alloc (.cells (prCs sl0 sl0) 34)
          have Btw4 := Btw3.alloc (.cells (prCs sl0 sl0) 34)
          have bw4 : Below w3.heap.size w3 (w3.alloc (.cells (prCs sl0 sl0) 34)) := (Below.refl _ _).alloc (Nat.le_refl _) _
          refine hK.out _ _ ⟨Bsw4, Btw4⟩ (fun hH => ?_)
          clear hK K
          generalize w3.alloc (.cells (prCs sl0 sl0) 34) = w4 at *
          refine wpAnyH_ready (rs := [3]) (by kernel_rfl) (by simp) (AllReadyH.cons rfl (fun K hK => ?_) AllReadyH.nil)
          go_simp
          refine (toSlot_any t bt _ ?_ htl hnt).mono ?_
          · exact (Ttd.below hbw3).below bw4
          rintro e w5 ⟨⟨ta, tk, rfl, htn, Ttw5⟩, hbw5⟩
          have Bsw5 := Bsw4.below hbw5 Bsw4.lt
          have Btw5 := Btw4.below hbw5 Btw4.lt
          refine hK.out _ _ ⟨Bsw5, Btw5⟩ (fun hH => ?_)
          clear hK K
          have B5 := Bw4.below hbw5 Bw4.lt
          have hl4 := Bw4.lt
          refine wpAnyH_take (i := 4) (v := .agg (prCs { s with ba := sa, bk := sk } { t with ba := ta, bk := tk })) rfl (by kernel_rfl) (by kernel_rfl) (by kernel_rfl) (fun _ _ _ h => h) (yieldsBuild { s with ba := sa, bk := sk } { t with ba := ta, bk := tk } rfl _ _ rfl rfl rfl) hH ?_
          refine wpAnyH_ready (rs := [6]) (by kernel_rfl) (by simp) (AllReadyH.cons rfl (fun K hK => ?_) AllReadyH.nil)
          rw [if_pos (by rfl)]
          have hth : w5.there w3.heap.size 0 24 := box_there B5 24 (Nat.le_refl _)
          refine wp_store_mid 34 _ _ rfl w3.heap.size 0 (prCs { s with ba := sa, bk := sk } { t with ba := ta, bk := tk }) rfl rfl hth info34 (prCs_one _ _) ?_
          have hP : w2.heap.size ≤ w3.heap.size := by have := hbw3.size; omega
          have hlt := B5.lt
          refine hK.out _ _ ⟨BoxAt.setCells _ (by omega) _ _ _ Bsw5, BoxAt.setCells _ (by omega) _ _ _ Btw5⟩ (fun hH => ?_)
          refine wpAnyH_done (by kernel_rfl) ?_ _
          clear hK K
          have hbf : Below w2.heap.size w2 (w5.setCells w3.heap.size 0 (prCs { s with ba := sa, bk := sk } { t with ba := ta, bk := tk }).toList) := Below.setCells _ hP _ _ _ ((bd.trans (hbw3.mono (by omega))).trans ((bw4.mono (by have := hbw3.size; omega)).trans (hbw5.mono (by have := hbw3.size; omega))))
          have hTs : Tab (w5.setCells w3.heap.size 0 (prCs { s with ba := sa, bk := sk } { t with ba := ta, bk := tk }).toList) sa s.bl bs := Tsw3.below (Below.setCells _ (Nat.le_refl _) _ _ _ (bw4.trans (hbw5.mono (by omega))))
          have hTt : Tab (w5.setCells w3.heap.size 0 (prCs { s with ba := sa, bk := sk } { t with ba := ta, bk := tk }).toList) ta t.bl bt := Ttw5.setCells (fun x hx => by have := htn.2.2 x hx; omega) _ _
          have hPr : PairAt (w5.setCells w3.heap.size 0 (prCs { s with ba := sa, bk := sk } { t with ba := ta, bk := tk }).toList) w3.heap.size (prCs { s with ba := sa, bk := sk } { t with ba := ta, bk := tk }) := ⟨by rw [size_setCells]; exact hlt, World.rangeAt_setCells_same _ _ _ _ hth⟩
          generalize w5.setCells w3.heap.size 0 (prCs { s with ba := sa, bk := sk } { t with ba := ta, bk := tk }).toList = wf at *
          go_wp2_with fail
          go_meet
          case rel => exact ⟨w3.heap.size, sa, sk, ta, tk, rfl, hP, hPr, hTs, hTt, hsn.2.1, htn.2.1, hbf⟩
      · rw [if_pos (by rfl)]
        refine wpAlloc34 rfl ?_
        have Bw3 := BoxAt.new wd (prCs sl0 sl0) 34
        have Bsw3 := Bsd.alloc (.cells (prCs sl0 sl0) 34)
        have Btw3 := Btd.alloc (.cells (prCs sl0 sl0) 34)
        have bw3 : Below wd.heap.size wd (wd.alloc (.cells (prCs sl0 sl0) 34)) := (Below.refl _ _).alloc (Nat.le_refl _) _
        refine hK.out _ _ ⟨Bsw3, Btw3⟩ (fun hH => ?_)
        clear hK K
        generalize wd.alloc (.cells (prCs sl0 sl0) 34) = w3 at *
        rw [hzd] at Bw3
        refine wpAnyH_ready (rs := [1]) (by kernel_rfl) (by simp) (AllReadyH.cons rfl (fun K hK => ?_) AllReadyH.nil)
        go_simp
        refine (toSlot_any s bs _ ?_ hsl hns).mono ?_
        · exact Tsd.below bw3
        rintro e w4 ⟨⟨sa, sk, rfl, hsn, Tsw4⟩, hbw4⟩
        have Bsw4 := Bsw3.below hbw4 Bsw3.lt
        have Btw4 := Btw3.below hbw4 Btw3.lt
        refine hK.out _ _ ⟨Bsw4, Btw4⟩ (fun hH => ?_)
        clear hK K
        have B4 := Bw3.below hbw4 Bw3.lt
        refine wpAnyH_ready (rs := [3]) (by kernel_rfl) (by simp) (AllReadyH.cons rfl (fun K hK => ?_) AllReadyH.nil)
        go_simp
        refine (toSlot_any t bt _ ?_ htl hnt).mono ?_
        · exact (Ttd.below bw3).below hbw4
        rintro e w5 ⟨⟨ta, tk, rfl, htn, Ttw5⟩, hbw5⟩
        have Bsw5 := Bsw4.below hbw5 Bsw4.lt
        have Btw5 := Btw4.below hbw5 Btw4.lt
        refine hK.out _ _ ⟨Bsw5, Btw5⟩ (fun hH => ?_)
        clear hK K
        have B5 := B4.below hbw5 B4.lt
        have hl3 := Bw3.lt
        have hl4 := hbw4.size
        refine wpAnyH_take (i := 4) (v := .agg (prCs { s with ba := sa, bk := sk } { t with ba := ta, bk := tk })) rfl (by kernel_rfl) (by kernel_rfl) (by kernel_rfl) (fun _ _ _ h => h) (yieldsBuild { s with ba := sa, bk := sk } { t with ba := ta, bk := tk } rfl _ _ rfl rfl rfl) hH ?_
        refine wpAnyH_ready (rs := [6]) (by kernel_rfl) (by simp) (AllReadyH.cons rfl (fun K hK => ?_) AllReadyH.nil)
        rw [if_pos (by rfl)]
        have hth : w5.there w2.heap.size 0 24 := box_there B5 24 (Nat.le_refl _)
        refine wp_store_mid 34 _ _ rfl w2.heap.size 0 (prCs { s with ba := sa, bk := sk } { t with ba := ta, bk := tk }) rfl rfl hth info34 (prCs_one _ _) ?_
        have hP : w2.heap.size ≤ w2.heap.size := by omega
        have hlt := B5.lt
        refine hK.out _ _ ⟨BoxAt.setCells _ (by omega) _ _ _ Bsw5, BoxAt.setCells _ (by omega) _ _ _ Btw5⟩ (fun hH => ?_)
        refine wpAnyH_done (by kernel_rfl) ?_ _
        clear hK K
        have hbf : Below w2.heap.size w2 (w5.setCells w2.heap.size 0 (prCs { s with ba := sa, bk := sk } { t with ba := ta, bk := tk }).toList) := Below.setCells _ hP _ _ _ ((bd.trans (bw3.mono (by omega))).trans ((hbw4.mono (by omega)).trans (hbw5.mono (by omega))))
        have hTs : Tab (w5.setCells w2.heap.size 0 (prCs { s with ba := sa, bk := sk } { t with ba := ta, bk := tk }).toList) sa s.bl bs := (Tsw4.below hbw5).setCells (fun x hx => by have := hsn.2.2 x hx; omega) _ _
        have hTt : Tab (w5.setCells w2.heap.size 0 (prCs { s with ba := sa, bk := sk } { t with ba := ta, bk := tk }).toList) ta t.bl bt := Ttw5.setCells (fun x hx => by have := htn.2.2 x hx; omega) _ _
        have hPr : PairAt (w5.setCells w2.heap.size 0 (prCs { s with ba := sa, bk := sk } { t with ba := ta, bk := tk }).toList) w2.heap.size (prCs { s with ba := sa, bk := sk } { t with ba := ta, bk := tk }) := ⟨by rw [size_setCells]; exact hlt, World.rangeAt_setCells_same _ _ _ _ hth⟩
        generalize w5.setCells w2.heap.size 0 (prCs { s with ba := sa, bk := sk } { t with ba := ta, bk := tk }).toList = wf at *
        go_wp2_with fail
        go_meet
        case rel => exact ⟨w2.heap.size, sa, sk, ta, tk, rfl, hP, hPr, hTs, hTt, hsn.2.1, htn.2.1, hbf⟩
    case rest =>
      obtain ⟨P, sa, sk, ta, tk, rfl, hP, hPr, hTs, hTt, hsn, htn, hb2⟩ := hcut
      have Bs := Bsw2.below hb2 (by omega)
      have Bt := Btw2.below hb2 (by omega)
      have bw : Below w.heap.size w wc := bww2.trans (hb2.mono (by omega))
      have hz : w2.heap.size ≤ wc.heap.size := hb2.size
      have hTz := Tsw2.below hb2
      have hTy := Ttw2.below hb2
      clear Bsw2 Btw2 bww2 hb2 Tsw2 Ttw2 hns hnt
      go_wp2_with (first | (refine load_in 34 _ rfl rfl P 0 rfl (prCs { s with ba := sa, bk := sk } { t with ba := ta, bk := tk }) _ ?_ Try.underlying34 rfl info34 ?_; exact hPr.range))
      refine (read_any { s with ba := sa, bk := sk } { t with ba := ta, bk := tk } bs bt wc hTs hTt hsl htl hsn).mono ?_
      rintro e w3 ⟨⟨g, gs, ok, rfl, hTg, hR⟩, hb3⟩
      have Bs3 := Bs.below hb3 Bs.lt
      have Bt3 := Bt.below hb3 Bt.lt
      have hPr3 := hPr.below hb3
      have bw3 : Below w.heap.size w w3 := bw.trans (hb3.mono (by omega))
      have hTs3 := hTs.below hb3
      have hTt3 := hTt.below hb3
      have hTz3 := hTz.below hb3
      have hTy3 := hTy.below hb3
      have hz3 : w2.heap.size ≤ w3.heap.size := Nat.le_trans hz hb3.size
      clear Bs Bt hPr bw hTs hTt hTz hTy hb3 hz
      go_wp2_with (first | (refine store_new 32 _ _ rfl rfl sl0.cs g.cs rfl rfl info32 rfl g.cs_one ?_) | (refine load_in 34 _ rfl rfl P 0 rfl (prCs { s with ba := sa, bk := sk } { t with ba := ta, bk := tk }) _ ?_ Try.underlying34 rfl info34 ?_; exact World.rangeAt_alloc hPr3.range _))
      have Bg := BoxAt.new w3 g.cs 32
      have Bs4 := Bs3.alloc (.cells g.cs 32)
      have Bt4 := Bt3.alloc (.cells g.cs 32)
      have b4 : Below w3.heap.size w3 (w3.alloc (.cells g.cs 32)) := (Below.refl _ _).alloc (Nat.le_refl _) _
      obtain ⟨G, hG⟩ : ∃ x, x = w3.heap.size := ⟨_, rfl⟩
      rw [← hG] at Bg ⊢
      generalize w3.alloc (.cells g.cs 32) = w4 at *
      refine (active_any { s with ba := sa, bk := sk } { t with ba := ta, bk := tk } bs bt w4 (hTs3.below b4) (hTt3.below b4) hsl htl).mono ?_
      rintro e w5 ⟨rfl, hb5⟩
      rw [show act { s with ba := sa, bk := sk } { t with ba := ta, bk := tk } bs bt = act s t bs bt from rfl]
      have hb35 : Below w3.heap.size w3 w5 := b4.trans (hb5.mono b4.size)
      have Bg5 := Bg.below hb5 Bg.lt
      have Bs5 := Bs4.below hb5 Bs4.lt
      have Bt5 := Bt4.below hb5 Bt4.lt
      have bw5 : Below w.heap.size w w5 := bw3.trans (hb35.mono (by omega))
      have Tg5 := hTg.below hb35
      have Ts5 := hTz3.below hb35
      have Tt5 := hTy3.below hb35
      have hG1 : w.heap.size + 2 ≤ G := by omega
      have hz5 : w.heap.size + 2 ≤ w5.heap.size := by have := hb35.size; omega
      have hls := hTs3.len
      have hlt := hTt3.len
      clear Bg Bs4 Bt4 b4 hb5 hb35 Bs3 Bt3 hPr3 bw3 hTs3 hTt3 hTz3 hTy3 hTg hG hz3
      cases ok
      · have ha : act s t bs bt = -1 := (no_of hR).1
        rw [ha]
        go_wp2
        go_ret
        exact ⟨rfl, bw5⟩
      have F := fine_of (s := { s with ba := sa, bk := sk }) (t := { t with ba := ta, bk := tk }) hls hlt hsl htl hR
      have F1 : Fine s t bs bt g gs := ⟨F.has, F.crc, F.dmg, F.ver, F.len, F.src, F.bad, F.small⟩
      clear hR F hls hlt
      have g1 : w5.cell? ⟨G, 1, none⟩ = some (.bool true) := (Bg5.cell 1).trans (by rw [← F1.has]; rfl)
      have g2 : w5.cell? ⟨G, 2, none⟩ = some (.bool true) := (Bg5.cell 2).trans (by rw [← F1.crc]; rfl)
      have g3 : w5.cell? ⟨G, 3, none⟩ = some (.int .u64 g.ver) := Bg5.cell 3
      have g10 : w5.cell? ⟨G, 10, none⟩ = some (.slice g.ba g.bl g.bk) := Bg5.cell 10
      have g11 : w5.cell? ⟨G, 11, none⟩ = some (.string g.dmg) := Bg5.cell 11
      have s3 : w5.cell? ⟨w.heap.size, 3, none⟩ = some (.int .u64 s.ver) := Bs5.cell 3
      have t3 : w5.cell? ⟨w.heap.size + 1, 3, none⟩ = some (.int .u64 t.ver) := Bt5.cell 3
      have s10 : w5.cell? ⟨w.heap.size, 10, none⟩ = some (.slice s.ba s.bl s.bk) := Bs5.cell 10
      have t10 : w5.cell? ⟨w.heap.size + 1, 10, none⟩ = some (.slice t.ba t.bl t.bk) := Bt5.cell 10
      have hdm : ((g.dmg.size : Int) != 0) = false := by rw [F1.dmg]; rfl
      go_upto_region 8 with fail
      go_cut [37] (fun x w' => x = .bool false ∧ w' = w5)
      case first =>
        by_cases hge : 0 ≤ act s t bs bt
        · go_wp2
          go_meet
          case rel => exact ⟨rfl, rfl⟩
        · go_wp2
          go_meet
          case rel => exact ⟨rfl, rfl⟩
      case rest =>
        obtain ⟨rfl, rfl⟩ := hcut
        go_upto_region 14 with fail
        go_cut [65] (fun x w' => x = .bool false ∧ w' = wc)
        case first =>
          by_cases hv : g.ver = s.ver
          · have hv' : (g.ver != s.ver) = false := by simp [hv]
            clear hv
            go_wp2
            go_meet
            case rel => exact ⟨rfl, rfl⟩
          · have hv' : (g.ver != s.ver) = true := by simp [hv]
            have hv2 : (g.ver != t.ver) = false := by rcases F1.ver with h | h; exact absurd h hv; simp [h]
            clear hv
            go_wp2
            go_meet
            case rel => exact ⟨rfl, rfl⟩
        case rest =>
          obtain ⟨rfl, rfl⟩ := hcut
          go_upto_region 16 with fail
          go_cut [81] (fun x w' => x = .bool false ∧ w' = wc)
          case first =>
            by_cases hv : g.bl = s.bl
            · have hv' : ((g.bl : Int) != (s.bl : Int)) = false := by simp [hv]
              clear hv
              go_wp2
              go_meet
              case rel => exact ⟨rfl, rfl⟩
            · have hv' : ((g.bl : Int) != (s.bl : Int)) = true := by simp; omega
              have hv2 : ((g.bl : Int) != (t.bl : Int)) = false := by rcases F1.len with h | h; exact absurd h hv; simp [h]
              clear hv
              go_wp2
              go_meet
              case rel => exact ⟨rfl, rfl⟩
          case rest =>
            obtain ⟨rfl, rfl⟩ := hcut
            go_wp2_with fail
            clear g1 g2 g3 g11 s3 t3 hdm
            obtain ⟨we, hwe⟩ : ∃ x, x = wc := ⟨_, rfl⟩
            subst hwe
            go_loopg [9] g.bl (fun m i wr => ∃ k : Nat, m + k = g.bl ∧ i = .int .i64 k ∧ Hid (Below we.heap.size we wr))
            case atStart => exact ⟨0, by omega, rfl, Below.refl _ _⟩
            case round =>
              obtain ⟨k, hk, rfl, HB⟩ := hrel
              have Bg6 := Bg5.below HB.out Bg5.lt
              have Bs6 := Bs5.below HB.out Bs5.lt
              have Bt6 := Bt5.below HB.out Bt5.lt
              have Tg6 := Tg5.below HB.out
              have Ts6 := Ts5.below HB.out
              have Tt6 := Tt5.below HB.out
              have bw6 : Below w.heap.size w wr := bw5.trans (HB.out.mono (by omega))
              have hz6 : we.heap.size ≤ wr.heap.size := HB.out.size
              have hsm := F1.small
              clear Bg5 Bs5 Bt5 Tg5 Ts5 Tt5 bw5 g10 s10 t10
              have g10 : wr.cell? ⟨G, 10, none⟩ = some (.slice g.ba g.bl g.bk) := Bg6.cell 10
              by_cases hlt : k < g.bl
              · rcases Tg6.at_ with h | ⟨gg, go, hga, hgl, hgx⟩
                · omega
                rw [hga] at g10
                obtain ⟨b, hbk⟩ : ∃ b, gs.getD k bk0 = b := ⟨_, rfl⟩
                have hat := hgx k hlt
                rw [hbk] at hat
                obtain ⟨c0, c1, c2, c3⟩ := hat
                have hsrc := F1.src k hlt
                have hbad := F1.bad k hlt
                rw [hbk] at hsrc hbad
                have HSrc : Hid ((k < s.bl ∧ b = bs.getD k bk0) ∨ (k < t.bl ∧ b = bt.getD k bk0)) := hsrc
                have HBad : Hid (b.ok = false → k < s.bl ∧ k < t.bl ∧ (bs.getD k bk0).ok = false ∧ (bt.getD k bk0).ok = false) := hbad
                clear hsrc hbad hbk hgx hga
                go_wp2_with fail
                have BR := BoxAt.new wr b.cs 43
                have Bs7 := Bs6.alloc (.cells b.cs 43)
                have Bt7 := Bt6.alloc (.cells b.cs 43)
                have b7 : Below wr.heap.size wr (wr.alloc (.cells b.cs 43)) := (Below.refl _ _).alloc (Nat.le_refl _) _
                obtain ⟨R, hR⟩ : ∃ x, x = wr.heap.size := ⟨_, rfl⟩
                rw [← hR] at BR ⊢
                change Code.wp _ _ _ _ (wr.alloc (.cells b.cs 43))
                generalize wr.alloc (.cells b.cs 43) = w7 at *
                have Ts7 := Ts6.below b7
                have Tt7 := Tt6.below b7
                have HB7 : Hid (Below we.heap.size we w7) := HB.out.trans (b7.mono hz6)
                have hz7 : we.heap.size ≤ w7.heap.size := HB7.out.size
                clear c0 c1 c2 c3 Bg6 Bs6 Bt6 Tg6 Ts6 Tt6 bw6 g10 b7 HB hz6 hR
                go_cut [11] (fun x w' => ∃ f : Bool, x = .bool f ∧ Hid (f = (decide (k < s.bl) && sameB b (bs.getD k bk0))) ∧ Below w7.heap.size w7 w')
                case first =>
                  by_cases h0 : k < s.bl
                  · have s10 : w7.cell? ⟨w.heap.size, 10, none⟩ = some (.slice s.ba s.bl s.bk) := Bs7.cell 10
                    rcases Ts7.at_ with h | ⟨sg, so, hsa, hsgl, hsx⟩
                    · omega
                    rw [hsa] at s10
                    obtain ⟨z, hzk⟩ : ∃ z, bs.getD k bk0 = z := ⟨_, rfl⟩
                    have hat := hsx k h0
                    rw [hzk] at hat
                    have HZ : Hid (bs.getD k bk0 = z) := hzk
                    have r0 : w7.cell? ⟨R, 0, none⟩ = some (.int .u32 b.crc) := BR.cell 0
                    have r1 : w7.cell? ⟨R, 1, none⟩ = some (.int .u64 b.off) := BR.cell 1
                    have r2 : w7.cell? ⟨R, 2, none⟩ = some (.int .u32 b.sz) := BR.cell 2
                    have r3 : w7.cell? ⟨R, 3, none⟩ = some (.bool b.ok) := BR.cell 3
                    obtain ⟨c0, c1, c2, c3⟩ := hat
                    have hR7 : R < w7.heap.size := BR.lt
                    have hh7 : w.heap.size < w7.heap.size := Bs7.lt
                    have hk0 : (0 : Int) ≤ (k : Int) := by omega
                    have hk1 : (k : Int) < (s.bl : Int) := by omega
                    have hkd : decide ((k : Int) < (s.bl : Int)) = true := by simp; omega
                    clear hzk hsx hsa
                    go_region_held3 (fun w' => w'.cell? ⟨w.heap.size, 10, none⟩ = some (.slice (some ⟨sg, so, none⟩) s.bl s.bk) ∧ w'.cell? ⟨R, 0, none⟩ = some (.int .u32 b.crc) ∧ w'.cell? ⟨R, 1, none⟩ = some (.int .u64 b.off) ∧ w'.cell? ⟨R, 2, none⟩ = some (.int .u32 b.sz) ∧ w'.cell? ⟨R, 3, none⟩ = some (.bool b.ok) ∧ w'.cell? ⟨sg, so + k * 4, none⟩ = some (.int .u32 z.crc) ∧ w'.cell? ⟨sg, so + k * 4 + 1, none⟩ = some (.int .u64 z.off) ∧ w'.cell? ⟨sg, so + k * 4 + 2, none⟩ = some (.int .u32 z.sz) ∧ w'.cell? ⟨sg, so + k * 4 + 3, none⟩ = some (.bool z.ok)) (go_keep)
                      (first | (go_at_call 20; refine (sameBank_any b z _).mono ?_; rintro e w8 ⟨rfl, hb8⟩; have hb8 := unDrew hb8; obtain ⟨hc8, hf8⟩ := bcell hb8))
                    rename_i hHeld
                    clear hHeld
                    go_wp2_with fail
                    go_meet
                    case rel => exact ⟨_, rfl, by rw [HZ.out]; simp [Hid, h0], hb8⟩
                  · have s10 : w7.cell? ⟨w.heap.size, 10, none⟩ = some (.slice s.ba s.bl s.bk) := Bs7.cell 10
                    have hkd : decide ((k : Int) < (s.bl : Int)) = false := by simp; omega
                    go_quiet (fail)
                    go_wp2_with fail
                    go_meet
                    case rel => exact ⟨false, rfl, by simp [Hid, h0], ⟨rfl, rfl, rfl, Nat.le_refl _, fun _ _ => rfl⟩⟩
                case rest =>
                  obtain ⟨w8, hw8⟩ : ∃ x, x = wc := ⟨_, rfl⟩
                  subst hw8
                  obtain ⟨f0, rfl, Hf0, hb8⟩ := hcut
                  have BR8 := BR.below hb8 BR.lt
                  have Bs8 := Bs7.below hb8 Bs7.lt
                  have Bt8 := Bt7.below hb8 Bt7.lt
                  have Ts8 := Ts7.below hb8
                  have Tt8 := Tt7.below hb8
                  have HB8 : Hid (Below we.heap.size we w8) := HB7.out.trans (hb8.mono hz7)
                  have hz8 : we.heap.size ≤ w8.heap.size := HB8.out.size
                  clear BR Bs7 Bt7 Ts7 Tt7 HB7 hz7 hb8
                  go_wp2_with fail
                  go_cut [12] (fun x w' => ∃ f : Bool, x = .bool f ∧ Hid (f = (decide (k < t.bl) && sameB b (bt.getD k bk0))) ∧ Below w8.heap.size w8 w')
                  case first =>
                    by_cases h0 : k < t.bl
                    · have t10 : w8.cell? ⟨w.heap.size + 1, 10, none⟩ = some (.slice t.ba t.bl t.bk) := Bt8.cell 10
                      rcases Tt8.at_ with h | ⟨sg, so, hsa, hsgl, hsx⟩
                      · omega
                      rw [hsa] at t10
                      obtain ⟨z, hzk⟩ : ∃ z, bt.getD k bk0 = z := ⟨_, rfl⟩
                      have hat := hsx k h0
                      rw [hzk] at hat
                      have HZ : Hid (bt.getD k bk0 = z) := hzk
                      have r0 : w8.cell? ⟨R, 0, none⟩ = some (.int .u32 b.crc) := BR8.cell 0
                      have r1 : w8.cell? ⟨R, 1, none⟩ = some (.int .u64 b.off) := BR8.cell 1
                      have r2 : w8.cell? ⟨R, 2, none⟩ = some (.int .u32 b.sz) := BR8.cell 2
                      have r3 : w8.cell? ⟨R, 3, none⟩ = some (.bool b.ok) := BR8.cell 3
                      obtain ⟨c0, c1, c2, c3⟩ := hat
                      have hR7 : R < w8.heap.size := BR8.lt
                      have hh7 : w.heap.size + 1 < w8.heap.size := Bt8.lt
                      have hk0 : (0 : Int) ≤ (k : Int) := by omega
                      have hk1 : (k : Int) < (t.bl : Int) := by omega
                      have hkd : decide ((k : Int) < (t.bl : Int)) = true := by simp; omega
                      clear hzk hsx hsa
                      go_region_held3 (fun w' => w'.cell? ⟨w.heap.size + 1, 10, none⟩ = some (.slice (some ⟨sg, so, none⟩) t.bl t.bk) ∧ w'.cell? ⟨R, 0, none⟩ = some (.int .u32 b.crc) ∧ w'.cell? ⟨R, 1, none⟩ = some (.int .u64 b.off) ∧ w'.cell? ⟨R, 2, none⟩ = some (.int .u32 b.sz) ∧ w'.cell? ⟨R, 3, none⟩ = some (.bool b.ok) ∧ w'.cell? ⟨sg, so + k * 4, none⟩ = some (.int .u32 z.crc) ∧ w'.cell? ⟨sg, so + k * 4 + 1, none⟩ = some (.int .u64 z.off) ∧ w'.cell? ⟨sg, so + k * 4 + 2, none⟩ = some (.int .u32 z.sz) ∧ w'.cell? ⟨sg, so + k * 4 + 3, none⟩ = some (.bool z.ok)) (go_keep)
                        (first | (go_at_call 20; refine (sameBank_any b z _).mono ?_; rintro e w9 ⟨rfl, hb9⟩; have hb9 := unDrew hb9; obtain ⟨hc9, hf9⟩ := bcell hb9))
                      rename_i hHeld
                      clear hHeld
                      go_wp2_with fail
                      go_meet
                      case rel => exact ⟨_, rfl, by rw [HZ.out]; simp [Hid, h0], hb9⟩
                    · have t10 : w8.cell? ⟨w.heap.size + 1, 10, none⟩ = some (.slice t.ba t.bl t.bk) := Bt8.cell 10
                      have hkd : decide ((k : Int) < (t.bl : Int)) = false := by simp; omega
                      go_quiet (fail)
                      go_wp2_with fail
                      go_meet
                      case rel => exact ⟨false, rfl, by simp [Hid, h0], ⟨rfl, rfl, rfl, Nat.le_refl _, fun _ _ => rfl⟩⟩
                  case rest =>
                    obtain ⟨w9, hw9⟩ : ∃ x, x = wc := ⟨_, rfl⟩
                    subst hw9
                    obtain ⟨f1, rfl, Hf1, hb9⟩ := hcut
                    have BR9 := BR8.below hb9 BR8.lt
                    have Bs9 := Bs8.below hb9 Bs8.lt
                    have Bt9 := Bt8.below hb9 Bt8.lt
                    have Ts9 := Ts8.below hb9
                    have Tt9 := Tt8.below hb9
                    have HB9 : Hid (Below we.heap.size we w9) := HB8.out.trans (hb9.mono hz8)
                    clear BR8 Bs8 Bt8 Ts8 Tt8 HB8 hz8 hb9
                    have hor : f0 = true ∨ f1 = true := by
                      rcases HSrc.out with ⟨h, e⟩ | ⟨h, e⟩
                      · left; rw [Hf0.out, ← e, sameB_self]; simp [h]
                      · right; rw [Hf1.out, ← e, sameB_self]; simp [h]
                    have r3 : w9.cell? ⟨R, 3, none⟩ = some (.bool b.ok) := BR9.cell 3
                    have s10 : w9.cell? ⟨w.heap.size, 10, none⟩ = some (.slice s.ba s.bl s.bk) := Bs9.cell 10
                    have t10 : w9.cell? ⟨w.heap.size + 1, 10, none⟩ = some (.slice t.ba t.bl t.bk) := Bt9.cell 10
                    clear Hf0 Hf1 HSrc BR9 Bs9 Bt9
                    have hk0 : (0 : Int) ≤ (k : Int) := by omega
                    cases hok : b.ok
                    · rw [hok] at r3
                      obtain ⟨h0, h1, hzo, hyo⟩ := HBad.out hok
                      rcases Ts9.at_ with h | ⟨sg, so, hsa, hsgl, hsx⟩
                      · omega
                      rcases Tt9.at_ with h | ⟨tg, to_, hta, htgl, htx⟩
                      · omega
                      rw [hsa] at s10
                      rw [hta] at t10
                      have cz := (hsx k h0).c3
                      have cy := (htx k h1).c3
                      rw [hzo] at cz
                      rw [hyo] at cy
                      clear hsx htx hzo hyo hsa hta HBad Ts9 Tt9
                      have hk1 : (k : Int) < (s.bl : Int) := by omega
                      have hk2 : (k : Int) < (t.bl : Int) := by omega
                      cases f0
                      · obtain rfl : f1 = true := by rcases hor with h | h; cases h; exact h
                        clear hor
                        go_wp2
                        go_roundg (gk - 1)
                        case measure => omega
                        case rel => exact ⟨k + 1, by omega, by go_num, HB9⟩
                      · clear hor
                        go_wp2
                        go_roundg (gk - 1)
                        case measure => omega
                        case rel => exact ⟨k + 1, by omega, by go_num, HB9⟩
                    · rw [hok] at r3
                      clear HBad Ts9 Tt9
                      cases f0
                      · obtain rfl : f1 = true := by rcases hor with h | h; cases h; exact h
                        clear hor
                        go_wp2
                        go_roundg (gk - 1)
                        case measure => omega
                        case rel => exact ⟨k + 1, by omega, by go_num, HB9⟩
                      · clear hor
                        go_wp2
                        go_roundg (gk - 1)
                        case measure => omega
                        case rel => exact ⟨k + 1, by omega, by go_num, HB9⟩
              · have hkk : k = g.bl := by omega
                go_wp2
                go_ret
                exact ⟨rfl, bw6⟩
  · go_wp2
    go_ret
    exact ⟨rfl, bww2⟩
end Go.Proofs.Qxb6602376a
