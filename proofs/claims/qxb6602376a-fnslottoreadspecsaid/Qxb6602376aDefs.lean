import Derived.Test.Qxb6602376aRows
import Derived.WalkKit
import Derived.WalkSpells
import Derived.WalkLawsBesides
namespace Go.Proofs.Qxb6602376a
open Go.RowKit

/-- What a slot's twelve cells hold (storage.Slot and ZSlot alike). -/
structure Sl where
  off : Int
  has : Bool
  crc : Bool
  ver : Int
  eof : Int
  dp : Int
  dc : Int
  bp : Int
  bc : Int
  mb : Int
  ba : Option Addr
  bl : Nat
  bk : Nat
  dmg : ByteArray

def Sl.cs (s : Sl) : Array Value :=
  #[.int .i64 s.off, .bool s.has, .bool s.crc, .int .u64 s.ver, .int .u64 s.eof, .int .i64 s.dp, .int .u64 s.dc, .int .i64 s.bp, .int .u64 s.bc, .int .u32 s.mb, .slice s.ba s.bl s.bk, .string s.dmg]

/-- What a bank's four cells hold (storage.Bank and ZBank alike). -/
structure Bk where
  crc : Int
  off : Int
  sz : Int
  ok : Bool

def Bk.cs (b : Bk) : Array Value := #[.int .u32 b.crc, .int .u64 b.off, .int .u32 b.sz, .bool b.ok]
def bk0 : Bk := ⟨0, 0, 0, false⟩

/-- Bank 'b' lies in block 'g' from offset 'o' on. -/
structure BankAt (w : World) (g o : Nat) (b : Bk) : Prop where
  c0 : w.cell? ⟨g, o, none⟩ = some (.int .u32 b.crc)
  c1 : w.cell? ⟨g, o + 1, none⟩ = some (.int .u64 b.off)
  c2 : w.cell? ⟨g, o + 2, none⟩ = some (.int .u32 b.sz)
  c3 : w.cell? ⟨g, o + 3, none⟩ = some (.bool b.ok)

/-- The bank table that a slice of address 'ba' and length 'bl' leads to. -/
structure Tab (w : World) (ba : Option Addr) (bl : Nat) (bs : List Bk) : Prop where
  len : bs.length = bl
  at_ : bl = 0 ∨ ∃ g o, ba = some ⟨g, o, none⟩ ∧ g < w.heap.size ∧ ∀ i, i < bl → BankAt w g (o + i * 4) (bs.getD i bk0)

theorem BankAt.below {w w' : World} {g o : Nat} {b : Bk} (h : BankAt w g o b) (hb : Below w.heap.size w w') (hg : g < w.heap.size) : BankAt w' g o b :=
  ⟨(hb.cell (p := ⟨g, o, none⟩) hg).trans h.c0, (hb.cell (p := ⟨g, o + 1, none⟩) hg).trans h.c1, (hb.cell (p := ⟨g, o + 2, none⟩) hg).trans h.c2, (hb.cell (p := ⟨g, o + 3, none⟩) hg).trans h.c3⟩

theorem Tab.below {w w' : World} {ba : Option Addr} {bl : Nat} {bs : List Bk} (h : Tab w ba bl bs) (hb : Below w.heap.size w w') : Tab w' ba bl bs :=
  ⟨h.len, by
    rcases h.at_ with h0 | ⟨g, o, e, hg, hx⟩
    · exact .inl h0
    · exact .inr ⟨g, o, e, Nat.lt_of_lt_of_le hg hb.size, fun i hi => (hx i hi).below hb hg⟩⟩

theorem bcell {W w1 : World} (hb : Below W.heap.size W w1) : (∀ b o, b < W.heap.size → w1.cell? ⟨b, o, none⟩ = W.cell? ⟨b, o, none⟩) ∧ (∀ b o, b < W.heap.size → w1.frozen? ⟨b, o, none⟩ = W.frozen? ⟨b, o, none⟩) :=
  ⟨fun b o h => hb.cell (p := ⟨b, o, none⟩) h, fun b o h => hb.frozen (p := ⟨b, o, none⟩) h⟩

theorem ret_bool {a b : Bool} (h : a = b) : Ending.returned (.bool a) = .returned (.bool b) := by rw [h]
theorem ret_int {k : IntKind} {a b : Int} (h : a = b) : Ending.returned (.int k a) = .returned (.int k b) := by rw [h]
theorem empty_size (b : ByteArray) : b.toList.isEmpty = (b.size == 0) := by
  rw [ByteArray.toList_eq]
  obtain ⟨⟨l⟩⟩ := b
  cases l <;> rfl
theorem natCast_beq_zero (n : Nat) : ((n : Int) == 0) = (n == 0) := by
  cases n <;> rfl

def Sl.snd (s : Sl) : Bool := s.has && s.crc && (s.dmg.size == 0)
def Sl.whl (s : Sl) (bs : List Bk) : Bool := s.snd && bs.all (·.ok)
theorem whl_no {s : Sl} {bs : List Bk} (h : s.snd = false) : s.whl bs = false := by simp [Sl.whl, h]
theorem whl_yes {s : Sl} {bs : List Bk} (h : s.snd = true) : s.whl bs = bs.all (·.ok) := by simp [Sl.whl, h]

set_option maxHeartbeats 400000 in
theorem sound_any (s : Sl) (w : World) : Calls Try.prog 32 #[.agg s.cs] w fun e w' => e = .returned (.bool s.snd) ∧ Below w.heap.size w w' := by
  obtain ⟨off, has, crc, ver, eof, dp, dc, bp, bc, mb, ba, bl, bk, dmg⟩ := s
  unfold Sl.cs Sl.snd
  dsimp only
  cases has <;> cases crc <;> (go_enter Try.func32, Try.ntmps32; go_wp2)
  all_goals go_ret
  all_goals refine ⟨?_, (Below.refl _ _).alloc (Nat.le_refl _) _⟩
  · rfl
  · rfl
  · rfl
  · exact ret_bool (by simp [empty_size])

set_option maxHeartbeats 400000 in
theorem modelSound_any (s : Sl) (w : World) : Calls Try.prog 18 #[.agg s.cs] w fun e w' => e = .returned (.bool s.snd) ∧ Below w.heap.size w w' := by
  obtain ⟨off, has, crc, ver, eof, dp, dc, bp, bc, mb, ba, bl, bk, dmg⟩ := s
  unfold Sl.cs Sl.snd
  dsimp only
  cases has <;> cases crc <;> (go_enter Try.func18, Try.ntmps18; go_wp2)
  all_goals go_ret
  all_goals refine ⟨?_, (Below.refl _ _).alloc (Nat.le_refl _) _⟩
  · rfl
  · rfl
  · rfl
  · exact ret_bool (by rw [natCast_beq_zero]; rfl)

set_option maxHeartbeats 400000 in
theorem notOK_any (b : Bk) (w : World) : Calls Try.prog 34 #[.agg b.cs] w fun e w' => e = .returned (.bool (!b.ok)) ∧ Below w.heap.size w w' := by
  obtain ⟨crc, off, sz, ok⟩ := b
  unfold Bk.cs
  dsimp only
  go_enter Try.func34, Try.ntmps34
  go_wp2
  go_ret
  exact ⟨rfl, (Below.refl _ _).alloc (Nat.le_refl _) _⟩

theorem getD_lt {α : Type} (l : List α) (d : α) (k : Nat) (h : k < l.length) : l.getD k d = l[k] := by
  simp [List.getD, h]
theorem all_take_succ (bs : List Bk) (k : Nat) (h : k < bs.length) (hk : (bs.take k).all (·.ok) = true) (ho : (bs.getD k bk0).ok = true) : (bs.take (k + 1)).all (·.ok) = true := by
  rw [List.take_succ_eq_append_getElem h, List.all_append, hk]
  rw [getD_lt _ _ _ h] at ho
  simp [ho]
theorem all_false_of (bs : List Bk) (k : Nat) (h : k < bs.length) (ho : (bs.getD k bk0).ok = false) : bs.all (·.ok) = false := by
  rw [getD_lt _ _ _ h] at ho
  rw [List.all_eq_false]
  exact ⟨bs[k], List.getElem_mem h, by simp [ho]⟩

set_option maxHeartbeats 400000 in
theorem index_any (ba : Option Addr) (bl bk : Nat) (bs : List Bk) (w : World) (ht : Tab w ba bl bs) (hl : bl ≤ 1048576) :
    Calls Try.prog 35 #[.slice ba bl bk, .func (.func 34) #[] #[]] w fun e w' => (∃ n : Int, e = .returned (.int .i64 n) ∧ decide (0 ≤ n) = !bs.all (·.ok)) ∧ Below w.heap.size w w' := by
  go_enter Try.func35, Try.ntmps35
  go_wp2
  go_loopw [8] (fun i wr => ∃ k : Nat, k ≤ bl ∧ i = .int .i64 k ∧ (bs.take k).all (·.ok) = true ∧ Below w.heap.size w wr) (fun i _ => bl - (intOf i).toNat)
  case atStart => exact ⟨0, Nat.zero_le _, rfl, rfl, Below.refl _ _⟩
  case round =>
    obtain ⟨k, hk, rfl, hall, hb⟩ := hrel
    by_cases hlt : k < bl
    · have ht' := ht.below hb
      rcases ht'.at_ with h0 | ⟨g, o, rfl, hg, hx⟩
      · omega
      obtain ⟨b, hbk⟩ : ∃ b, bs.getD k bk0 = b := ⟨_, rfl⟩
      have hat := hx k hlt
      rw [hbk] at hat
      obtain ⟨c0, c1, c2, c3⟩ := hat
      have HB : Hid (bs.getD k bk0 = b) := hbk
      have HA : Hid ((bs.take k).all (·.ok) = true) := hall
      clear hbk hall hx
      go_wp2_with fail
      refine (notOK_any b _).mono ?_
      rintro e w' ⟨rfl, hb'⟩
      have hbel : Below w.heap.size w w' := hb.trans (hb'.mono hb.size)
      cases hok : b.ok
      · go_wp2
        go_ret
        exact ⟨⟨k, rfl, by rw [all_false_of bs k (by rw [ht.len]; exact hlt) (by rw [HB.out]; exact hok)]; simp⟩, hbel⟩
      · go_wp2
        go_roundw
        case rel => exact ⟨k + 1, by omega, by go_num, all_take_succ bs k (by rw [ht.len]; exact hlt) HA.out (by rw [HB.out]; exact hok), hbel⟩
        case measure => simp [intOf]; omega
    · go_wp2
      go_ret
      refine ⟨⟨-1, rfl, ?_⟩, hb⟩
      have : bs.take k = bs := List.take_of_length_le (by rw [ht.len]; omega)
      rw [this] at hall
      rw [hall]; rfl

set_option maxHeartbeats 400000 in
theorem contains_any (ba : Option Addr) (bl bk : Nat) (bs : List Bk) (w : World) (ht : Tab w ba bl bs) (hl : bl ≤ 1048576) :
    Calls Try.prog 33 #[.slice ba bl bk, .func (.func 34) #[] #[]] w fun e w' => e = .returned (.bool (!bs.all (·.ok))) ∧ Below w.heap.size w w' := by
  go_enter Try.func33, Try.ntmps33
  go_wp2_with fail
  refine (index_any ba bl bk bs _ ht hl).mono ?_
  rintro e w' ⟨⟨n, rfl, hn⟩, hb⟩
  have HN : Hid (decide (0 ≤ n) = !bs.all (·.ok)) := hn
  clear hn
  go_wp2
  go_ret
  exact ⟨ret_bool (by simpa using HN.out), hb⟩

set_option maxHeartbeats 400000 in
theorem whole_any (s : Sl) (bs : List Bk) (w : World) (ht : Tab w s.ba s.bl bs) (hl : s.bl ≤ 1048576) :
    Calls Try.prog 26 #[.agg s.cs] w fun e w' => e = .returned (.bool (s.whl bs)) ∧ Below w.heap.size w w' := by
  unfold Sl.cs
  go_enter Try.func26, Try.ntmps26
  go_wp2_with fail
  refine (sound_any s _).mono ?_
  rintro e w1 ⟨rfl, hb1⟩
  obtain ⟨hc, hf⟩ := bcell hb1
  have HB : Hid (Below w.heap.size w w1) := ((Below.refl _ _).alloc (Nat.le_refl _) _).trans (hb1.mono (by simp))
  have HT : Hid (Tab w1 s.ba s.bl bs) := ht.below HB.out
  cases hs : s.snd
  · go_wp2
    go_ret
    exact ⟨ret_bool (whl_no hs).symm, HB.out⟩
  · go_wp2_with fail
    refine (contains_any _ _ _ bs _ HT.out hl).mono ?_
    rintro e w2 ⟨rfl, hb2⟩
    have HB2 : Hid (Below w.heap.size w w2) := HB.out.trans (hb2.mono HB.out.size)
    clear hc hf hb1 hb2
    go_wp2
    go_ret
    exact ⟨ret_bool (by rw [whl_yes hs]), HB2.out⟩

set_option maxHeartbeats 400000 in
theorem modelWhole_any (s : Sl) (bs : List Bk) (w : World) (ht : Tab w s.ba s.bl bs) (hl : s.bl ≤ 1048576) :
    Calls Try.prog 14 #[.agg s.cs] w fun e w' => e = .returned (.bool (s.whl bs)) ∧ Below w.heap.size w w' := by
  unfold Sl.cs
  go_enter Try.func14, Try.ntmps14
  go_wp2_with fail
  refine (modelSound_any s _).mono ?_
  rintro e w1 ⟨rfl, hb1⟩
  obtain ⟨hc, hf⟩ := bcell hb1
  have HB : Hid (Below w.heap.size w w1) := ((Below.refl _ _).alloc (Nat.le_refl _) _).trans (hb1.mono (by simp))
  have c10 : w1.cell? ⟨w.heap.size, 10, none⟩ = some (.slice s.ba s.bl s.bk) := by rw [hc _ _ (by simp)]; simp
  have HT : Hid (Tab w1 s.ba s.bl bs) := ht.below HB.out
  clear hc hf hb1
  cases hs : s.snd
  · go_wp2
    go_ret
    exact ⟨ret_bool (whl_no hs).symm, HB.out⟩
  · go_wp2
    go_loop [3] (fun i => ∃ k : Nat, k ≤ s.bl ∧ i = .int .i64 k ∧ (bs.take k).all (·.ok) = true) (fun i => s.bl - (intOf i).toNat)
    case atStart => exact ⟨0, Nat.zero_le _, rfl, rfl⟩
    case round =>
      obtain ⟨k, hk, rfl, hall⟩ := hrel
      have HA : Hid ((bs.take k).all (·.ok) = true) := hall
      clear hall
      by_cases hlt : k < s.bl
      · rcases HT.out.at_ with h0 | ⟨g, o, hba, hg, hx⟩
        · omega
        obtain ⟨b, hbk⟩ : ∃ b, bs.getD k bk0 = b := ⟨_, rfl⟩
        obtain ⟨_, _, _, c3⟩ := hx k hlt
        rw [hbk] at c3
        rw [hba] at c10
        have HK : Hid (bs.getD k bk0 = b) := hbk
        clear hbk hx hba
        cases hok : b.ok
        · rw [hok] at c3
          go_wp2
          go_ret
          exact ⟨ret_bool (by rw [whl_yes hs, all_false_of bs k (by rw [HT.out.len]; exact hlt) (by rw [HK.out]; exact hok)]), HB.out⟩
        · rw [hok] at c3
          go_wp2
          go_round
          case rel => exact ⟨k + 1, by omega, by go_num, all_take_succ bs k (by rw [HT.out.len]; exact hlt) HA.out (by rw [HK.out]; exact hok)⟩
          case measure => simp [intOf]; omega
      · go_wp2
        go_ret
        have : bs.take k = bs := List.take_of_length_le (by rw [HT.out.len]; omega)
        have h := HA.out
        rw [this] at h
        exact ⟨ret_bool (by rw [whl_yes hs, h]), HB.out⟩

end Go.Proofs.Qxb6602376a
