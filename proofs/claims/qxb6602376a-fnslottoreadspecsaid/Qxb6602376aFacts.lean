import Derived.Test.Qxb6602376aMerge
import Derived.Deep.WholeRow
namespace Go.Proofs.Qxb6602376a
open Go.RowKit

theorem act_range (s t : Sl) (bs bt : List Bk) : act s t bs bt = 0 ∨ act s t bs bt = 1 ∨ act s t bs bt = -1 := by
  unfold act
  cases newer s t <;> cases s.whl bs <;> cases t.whl bt <;> simp
theorem act_zero {s t : Sl} {bs bt : List Bk} (h : act s t bs bt = 0) : s.whl bs = true := by
  unfold act at h
  cases h0 : s.whl bs
  · revert h; cases newer s t <;> cases t.whl bt <;> simp [h0]
  · rfl
theorem act_one {s t : Sl} {bs bt : List Bk} (h : act s t bs bt = 1) : t.whl bt = true := by
  unfold act at h
  cases h0 : t.whl bt
  · revert h; cases newer s t <;> cases s.whl bs <;> simp [h0]
  · rfl
theorem whl_snd {s : Sl} {bs : List Bk} (h : s.whl bs = true) : s.snd = true := by
  simp [Sl.whl] at h; exact h.1
theorem whl_ok {s : Sl} {bs : List Bk} (h : s.whl bs = true) (i : Nat) (hi : i < bs.length) : (bs.getD i bk0).ok = true := by
  simp only [Sl.whl, Bool.and_eq_true] at h
  rw [getD_lt _ _ _ hi]
  exact (List.all_eq_true.1 h.2) _ (List.getElem_mem hi)

theorem read_any (s t : Sl) (bs bt : List Bk) (w : World) (hs : Tab w s.ba s.bl bs) (ht : Tab w t.ba t.bl bt) (hsl : s.bl ≤ 1048576) (htl : t.bl ≤ 1048576) (hns : s.ba = none → s.bl = 0 ∧ s.bk = 0) :
    Calls Try.prog 16 #[.agg (prCs s t)] w fun e w' => RdSays s t bs bt e w' ∧ Below w.heap.size w w' := by
  rcases act_range s t bs bt with h | h | h
  · exact read_fst s t bs bt w hs ht hsl htl h
  · exact read_snd s t bs bt w hs ht hsl htl h
  · cases hc : cop s t
    · exact read_not s t bs bt w hs ht hsl htl h hc
    · exact read_mrg s t bs bt w hs ht hsl htl h hc hns

theorem snd_parts {s : Sl} (h : s.snd = true) : s.has = true ∧ s.crc = true ∧ s.dmg.size = 0 := by
  simp only [Sl.snd, Bool.and_eq_true, beq_iff_eq] at h; exact ⟨h.1.1, h.1.2, h.2⟩

/-- What holds of a slot that 'SlotToRead' accepts. -/
structure Fine (s t : Sl) (bs bt : List Bk) (g : Sl) (gs : List Bk) : Prop where
  has : g.has = true
  crc : g.crc = true
  dmg : g.dmg.size = 0
  ver : g.ver = s.ver ∨ g.ver = t.ver
  len : g.bl = s.bl ∨ g.bl = t.bl
  src : ∀ i, i < g.bl → (i < s.bl ∧ gs.getD i bk0 = bs.getD i bk0) ∨ (i < t.bl ∧ gs.getD i bk0 = bt.getD i bk0)
  bad : ∀ i, i < g.bl → (gs.getD i bk0).ok = false → i < s.bl ∧ i < t.bl ∧ (bs.getD i bk0).ok = false ∧ (bt.getD i bk0).ok = false
  small : g.bl ≤ 1048576

theorem fine_of {s t : Sl} {bs bt : List Bk} {g : Sl} {gs : List Bk} (hs : bs.length = s.bl) (ht : bt.length = t.bl) (hsl : s.bl ≤ 1048576) (htl : t.bl ≤ 1048576) (h : RdIs s t bs bt g gs true) : Fine s t bs bt g gs := by
  rcases h with ⟨ha, _, rfl, rfl⟩ | ⟨ha, _, rfl, rfl⟩ | ⟨ha, hc, _, ⟨ba, bk, rfl⟩, rfl⟩ | ⟨_, _, h, _⟩
  · have hw := act_zero ha
    obtain ⟨h1, h2, h3⟩ := snd_parts (whl_snd hw)
    exact ⟨h1, h2, h3, .inl rfl, .inl rfl, fun i hi => .inl ⟨hi, rfl⟩, fun i hi h => absurd (h.symm.trans (whl_ok hw i (by omega))) Bool.false_ne_true, hsl⟩
  · have hw := act_one ha
    obtain ⟨h1, h2, h3⟩ := snd_parts (whl_snd hw)
    exact ⟨h1, h2, h3, .inr rfl, .inr rfl, fun i hi => .inr ⟨hi, rfl⟩, fun i hi h => absurd (h.symm.trans (whl_ok hw i (by omega))) Bool.false_ne_true, htl⟩
  · have hbl := cop_bl hc
    have hsn : s.snd = true := by simp [cop] at hc; exact hc.1.1.1
    obtain ⟨h1, h2, h3⟩ := snd_parts hsn
    refine ⟨h1, h2, h3, .inl rfl, .inl rfl, fun i hi => ?_, fun i hi h => ?_, hsl⟩
    · rw [mrg_get _ _ _ _ hi]
      unfold pick
      split
      · exact .inl ⟨hi, rfl⟩
      · exact .inr ⟨by show i < t.bl; have : i < s.bl := hi; omega, rfl⟩
    · rw [mrg_get _ _ _ _ hi] at h
      unfold pick at h
      cases h0 : (bs.getD i bk0).ok
      · rw [h0] at h
        exact ⟨hi, by have : i < s.bl := hi; omega, rfl, h⟩
      · rw [h0] at h
        simp only [if_true] at h
        rw [h0] at h; cases h
  · cases h

theorem no_of {s t : Sl} {bs bt : List Bk} {g : Sl} {gs : List Bk} (h : RdIs s t bs bt g gs false) : act s t bs bt = -1 ∧ cop s t = false ∧ g = sl0 := by
  rcases h with ⟨_, h, _⟩ | ⟨_, h, _⟩ | ⟨_, _, h, _⟩ | ⟨ha, hc, _, hg, _⟩
  · cases h
  · cases h
  · cases h
  · exact ⟨ha, hc, hg⟩

/-- 'sameBank': every field equal. -/
def sameB (a b : Bk) : Bool := (a.crc == b.crc) && (a.off == b.off) && (a.sz == b.sz) && (a.ok == b.ok)
theorem sameB_self (a : Bk) : sameB a a = true := by simp [sameB]

set_option maxHeartbeats 1000000 in
theorem sameBank_any (a b : Bk) (w : World) : Calls Try.prog 20 #[.agg a.cs, .agg b.cs] w fun e w' => e = .returned (.bool (sameB a b)) ∧ Below w.heap.size w w' := by
  obtain ⟨c1, o1, z1, k1⟩ := a
  obtain ⟨c2, o2, z2, k2⟩ := b
  unfold Bk.cs
  dsimp only
  by_cases h1 : c1 = c2
  · subst h1
    by_cases h2 : o1 = o2
    · subst h2
      by_cases h3 : z1 = z2
      · subst h3
        go_enter Try.func20, Try.ntmps20
        go_wp2
        go_ret
        exact ⟨ret_bool (by simp [sameB]), ((Below.refl _ _).alloc (Nat.le_refl _) _).alloc (by simp) _⟩
      · have h3' : (z1 == z2) = false := by simp [h3]
        go_enter Try.func20, Try.ntmps20
        go_wp2
        go_ret
        exact ⟨ret_bool (by simp [sameB, h3]), ((Below.refl _ _).alloc (Nat.le_refl _) _).alloc (by simp) _⟩
    · have h2' : (o1 == o2) = false := by simp [h2]
      go_enter Try.func20, Try.ntmps20
      go_wp2
      go_ret
      exact ⟨ret_bool (by simp [sameB, h2]), ((Below.refl _ _).alloc (Nat.le_refl _) _).alloc (by simp) _⟩
  · have h1' : (c1 == c2) = false := by simp [h1]
    go_enter Try.func20, Try.ntmps20
    go_wp2
    go_ret
    exact ⟨ret_bool (by simp [sameB, h1]), ((Below.refl _ _).alloc (Nat.le_refl _) _).alloc (by simp) _⟩

/-- A whole struct stored into the variable that was made last. -/
theorem store_new {P : Program} {ops : Array Oper} {rest : List Oper} {op : Oper} {a : Act} {w : World} {Q : Exit → Act → World → Prop} (ty : TypeId) (x y : Operand) (ho : op.op = .store ty x y)
    (hw : Region.wanted op (yielded ops a.tmps) = true) (c c' : Array Value) (hx : a.eval x = .pointer (some ⟨w.heap.size, 0, none⟩)) (hy : a.eval y = .agg c')
    (hi : (P.info? ty).map (·.size) = some c'.size) (hc : c.size = c'.size) (h1 : c'.all (·.oneCell') = true)
    (h : wpList P ops Q rest (a.put op.dst undef) (w.alloc (.cells c' ty))) : wpList P ops Q (op :: rest) a (w.alloc (.cells c ty)) :=
  wpList_step fun K hK => by
    rw [if_pos hw]
    unfold Oper.wp execOp
    simp only [ho, hx, hy, Sem.run_bind, run_storeAt_new w ty c c' hi hc h1, Result.andThen_ok, Sem.run_pure]
    exact hK _ _ h
end Go.Proofs.Qxb6602376a
