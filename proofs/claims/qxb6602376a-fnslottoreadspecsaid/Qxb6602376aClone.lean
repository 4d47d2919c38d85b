import Derived.Test.Qxb6602376aCopies
import Derived.Deep.AppendSrc
namespace Go.Proofs.Qxb6602376a
open Go.RowKit

/-- A bank table's cells, one behind the other. -/
def flat : List Bk → List Value
  | [] => []
  | b :: r => b.cs.toList ++ flat r
theorem flat_len : ∀ bs : List Bk, (flat bs).length = bs.length * 4
  | [] => rfl
  | b :: r => by rw [flat, List.length_append, flat_len r, List.length_cons]; show 4 + r.length * 4 = (r.length + 1) * 4; omega
theorem flat_get : ∀ (bs : List Bk) (i r : Nat), i < bs.length → r < 4 → (flat bs)[i * 4 + r]? = (bs.getD i bk0).cs.toList[r]?
  | b :: l, 0, r, _, hr => by
    rw [flat, Nat.zero_mul, Nat.zero_add, List.getElem?_append_left (show r < b.cs.toList.length from hr)]; rfl
  | b :: l, i + 1, r, hi, hr => by
    have e : (i + 1) * 4 + r = b.cs.toList.length + (i * 4 + r) := by show (i + 1) * 4 + r = 4 + (i * 4 + r); omega
    rw [flat, e, List.getElem?_append_right (Nat.le_add_right _ _), Nat.add_sub_cancel_left, flat_get l i r (by simpa using hi) hr]
    simp
theorem flat_one : ∀ (bs : List Bk), ∀ u ∈ flat bs, u.oneCell' = true
  | [], u, hu => by cases hu
  | b :: r, u, hu => by
    rcases List.mem_append.1 hu with h | h
    · exact (Array.all_eq_true_iff_forall_mem.1 b.cs_one) u (by simpa using h)
    · exact flat_one r u h

/-- The table's cells behind its address. -/
theorem flat_cells {w : World} {g o bl : Nat} {bs : List Bk} (hl : bs.length = bl) (hx : ∀ i, i < bl → BankAt w g (o + i * 4) (bs.getD i bk0)) :
    ∀ j u, (flat bs)[j]? = some u → w.cell? ((⟨g, o, none⟩ : Addr).add j) = some u := fun j u hu => by
  have hj : j < bl * 4 := by
    have := (List.getElem?_eq_some_iff.1 hu).1
    rw [flat_len, hl] at this; exact this
  have e : j = j / 4 * 4 + j % 4 := by omega
  have h1 := flat_get bs (j / 4) (j % 4) (by omega) (by omega)
  rw [← e, hu] at h1
  have h2 := (hx (j / 4) (by omega)).range (j % 4) u h1.symm
  rw [Addr.add_mid]
  rwa [show o + j / 4 * 4 + j % 4 = o + j by omega] at h2

/-- A row of banks of the call's own: each bank, and room to write. -/
structure Row (w : World) (g n : Nat) (f : Nat → Bk) : Prop where
  lt : g < w.heap.size
  at_ : ∀ i, i < n → BankAt w g (i * 4) (f i)
  room : w.there g 0 (n * 4)

/-- What 'slices.Clone' hands back. -/
def ClSays (B : Nat) (bl : Nat) (bs : List Bk) (e : Ending) (w' : World) : Prop :=
  ∃ ba' bk', e = .returned (.slice ba' bl bk') ∧ (bl = 0 ∨ ∃ g, ba' = some ⟨g, 0, none⟩ ∧ B ≤ g ∧ Row w' g bl (fun i => bs.getD i bk0))

theorem Row.of_own {w : World} {g n cap : Nat} {cur : Array Value} {t : TypeId} {bs : List Bk} (hl : bs.length = n) (hh : w.heap[g]? = some (.cells cur t (0, 0))) (hc : n ≤ cap) (hs : cur.size = cap * 4)
    (ht : cur.toList.take (n * 4) = flat bs) : Row w g n (fun i => bs.getD i bk0) := by
  refine ⟨(Array.getElem?_eq_some_iff.1 hh).1, fun i hi => .of_range fun r v hv => ?_, fun j hj => ⟨?_, frozen_of_row _ _ _ _ _ hh⟩⟩
  · have hr : r < 4 := (List.getElem?_eq_some_iff.1 hv).1
    have h1 := flat_get bs i r (by omega) hr
    rw [hv, ← ht, List.getElem?_take_of_lt (by omega)] at h1
    rw [cell_of_row _ _ _ _ _ _ hh, ← h1]; simp
  · rw [cell_of_row _ _ _ _ _ _ hh, Nat.zero_add, Array.getElem?_eq_getElem (by omega)]; rfl

theorem inf43' : ∃ i, Try.prog.info? 43 = some i ∧ i.zero = some (.agg #[.int .u32 0, .int .u64 0, .int .u32 0, .bool false]) ∧ i.size = 4 ∧ i.bytes = 24 := by
  have h := inf43
  cases hq : Try.prog.info? 43 with
  | none => simp [hq] at h
  | some i =>
    simp only [hq, Option.map_some, Option.some.injEq, Prod.mk.injEq] at h
    exact ⟨i, rfl, h.1, h.2.1, h.2.2⟩

/-- An append whose run is known. -/
theorem append_by {P : Program} (w : World) {ops : Array Oper} {rest : List Oper} {o : Oper} {a : Act} {Q : Exit → Act → World → Prop}
    (hg : o.guard = none) (s x : Operand) (t : TypeId) (hop : o.op = Op.call { callee := Callee.builtin Builtin.append, args := #[s, x], argTypes := #[t, t] })
    (u v r : Value) (w' : World) (hs : a.eval s = u) (hx : a.eval x = v) (hrun : (Builtin.append_ #[t, t] o.type #[u, v]).run P w = .ok r w')
    (h : wpList P ops Q rest (a.put o.dst r) w') : wpList P ops Q (o :: rest) a w := by
  refine wpList_plain hg fun K hK' => ?_
  unfold Oper.wp
  simp [execOp, hop, resolve, invoke, builtin, hs, hx, hrun, Result.andThen]
  exact hK' _ _ h

set_option maxHeartbeats 1000000 in
theorem clone_some (a : Addr) (bl bk : Nat) (bs : List Bk) (w : World) (ht : Tab w (some a) bl bs) (hl : bl ≤ 1048576) :
    Calls Try.prog 29 #[.slice (some a) bl bk] w fun e w' => ClSays w.heap.size bl bs e w' ∧ Below w.heap.size w w' := by
  have hnil := eqNil30
  obtain ⟨i43, hi1, hi2, hi3, hi4⟩ := inf43'
  by_cases h0 : bl = 0
  · subst h0
    have hrun : (Builtin.append_ #[30, 30] 30 #[.slice (some ⟨w.heap.size, 0, none⟩) 0 0, .slice (some a) 0 bk]).run Try.prog (w.alloc (.cells #[] 43)) = .ok (.slice (some ⟨w.heap.size, 0, none⟩) 0 0) (w.alloc (.cells #[] 43)) := by
      have hs : Src Try.prog i43.size 30 (.slice (some a) 0 bk) 0 [] (w.alloc (.cells #[] 43)) := Src.ofSlice _ Try.underlying30 a 0 bk [] (by simp) (by simp) (by simp)
      simpa [World.setCells] using run_append_room_src (w.alloc (.cells #[] 43)) 30 30 30 43 i43 Try.underlying30 hi1 w.heap.size 0 0 0 _ 0 [] hs (by omega) (by simp) (by simp)
    clear hi1 hi2 hi3 hi4
    go_enter Try.func29, Try.ntmps29
    go_wp2_with fail
    go_ret
    exact ⟨⟨_, _, rfl, .inl rfl⟩, (Below.refl _ _).alloc (Nat.le_refl _) _⟩
  · rcases ht.at_ with h | ⟨g, o, hba, hg, hx⟩
    · exact absurd h h0
    obtain rfl : a = ⟨g, o, none⟩ := by simpa using hba
    have hbel : Below w.heap.size w (w.alloc (.cells #[] 43)) := (Below.refl _ _).alloc (Nat.le_refl _) _
    have hx' : ∀ i, i < bl → BankAt (w.alloc (.cells #[] 43)) g (o + i * 4) (bs.getD i bk0) := fun i hi => (hx i hi).below hbel hg
    have hz : (w.alloc (.cells #[] 43)).heap.size = w.heap.size + 1 := by simp
    obtain ⟨v', w', hrun, r1, r2⟩ := run_append_arg_grows (P := Try.prog) (w.alloc (.cells #[] 43)) 30 30 43 i43 _ 4 24 Try.underlying30 hi1 hi2 hi3 hi4 rfl (by omega) ⟨w.heap.size, 0, none⟩ 0 0 [] rfl (fun j u hj => by cases hj)
      ⟨g, o, none⟩ bl bk (flat bs) (by rw [flat_len, ht.len]) (flat_cells ht.len hx') (by omega) (by unfold maxLen; omega) (by omega)
    obtain ⟨_, r1⟩ := r1
    rcases r1 with ⟨_, h⟩ | ⟨g', cap, cur, rfl, hg', hh, hc, _, hs, htk⟩
    · omega
    have hb' : Below w.heap.size w w' := hbel.grown r2 (by omega) (fun k hk => by cases hk)
    have R : Row w' g' bl (fun i => bs.getD i bk0) := Row.of_own ht.len hh (by omega) hs (by simpa using htk)
    rw [hz] at hg'
    rw [show 0 + bl = bl by omega] at hrun
    clear hi1 hi2 hi3 hi4 hx hx' hh hc hs htk r2 hz hbel
    go_enter Try.func29, Try.ntmps29
    go_wp2_with (at_builtin; refine append_by _ rfl _ _ 30 rfl _ _ _ _ rfl rfl hrun ?_)
    go_ret
    exact ⟨⟨_, _, rfl, .inr ⟨g', rfl, by omega, R⟩⟩, hb'⟩

set_option maxHeartbeats 1000000 in
theorem clone_none (bs : List Bk) (w : World) :
    Calls Try.prog 29 #[.slice none 0 0] w fun e w' => ClSays w.heap.size 0 bs e w' ∧ Below w.heap.size w w' := by
  have hnil := eqNil30
  go_enter Try.func29, Try.ntmps29
  go_wp2
  go_ret
  exact ⟨⟨_, _, rfl, .inl rfl⟩, Below.refl _ _⟩

theorem clone_any (ba : Option Addr) (bl bk : Nat) (bs : List Bk) (w : World) (ht : Tab w ba bl bs) (hl : bl ≤ 1048576) (hn : ba = none → bl = 0 ∧ bk = 0) :
    Calls Try.prog 29 #[.slice ba bl bk] w fun e w' => ClSays w.heap.size bl bs e w' ∧ Below w.heap.size w w' := by
  cases ba with
  | none =>
    obtain ⟨rfl, rfl⟩ := hn rfl
    exact clone_none bs w
  | some a => exact clone_some a _ _ bs w ht hl
end Go.Proofs.Qxb6602376a
