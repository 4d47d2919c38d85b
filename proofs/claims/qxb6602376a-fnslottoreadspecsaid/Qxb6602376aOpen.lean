import Derived.Test.Qxb6602376aDefs
import Derived.ProofKit
import Derived.OpenShut
import Derived.Deep.Slices
namespace Go.Proofs.Qxb6602376a
open Go.ChangeShapes Go.WideShapes Go.RowKit Go.Deep

/-- What a slot that came in is known by. -/
structure Came (w : World) (s : Sl) (bs : List Bk) : Prop where
  tab : Tab w s.ba s.bl bs
  nil_ : s.ba = none → s.bl = 0 ∧ s.bk = 0

theorem cells41 : Try.prog.cellsOf 41 = 4 := by kernel_rfl
theorem cells26 : Try.prog.cellsOf 26 = 12 := by kernel_rfl
theorem cells2 : Try.prog.cellsOf 2 = 1 := by kernel_rfl
theorem cells4 : Try.prog.cellsOf 4 = 1 := by kernel_rfl
theorem cells22 : Try.prog.cellsOf 22 = 1 := by kernel_rfl
theorem cells23 : Try.prog.cellsOf 23 = 1 := by kernel_rfl
theorem cells24 : Try.prog.cellsOf 24 = 1 := by kernel_rfl
theorem cells9 : Try.prog.cellsOf 9 = 1 := by kernel_rfl

section
variable {H : Type} {enc : TypeId × Value → H} {w : World} {base : Nat} {spare : Nat → Bool} {held : Bool}

theorem open_bank {fuel : Nat} {cs : List Value} {x : DataW H × List MemPlace} (h : DataW.trod enc Try.prog w base spare held fuel 41 cs = some x) : ∃ b : Bk, cs = b.cs.toList := by
  obtain ⟨xs, n, _, _, hlen, hxl, hf⟩ := DataW.trod_struct Try.underlying41 h
  rw [cells41] at hlen
  match xs, hxl, cs, hlen with
  | [y0, y1, y2, y3], _, [v0, v1, v2, v3], _ =>
    have g0 : DataW.trod enc Try.prog w base spare held n 23 [v0] = some y0 := by simpa [cells23] using hf 0 _ rfl
    have g1 : DataW.trod enc Try.prog w base spare held n 22 [v1] = some y1 := by simpa [cells22] using hf 1 _ rfl
    have g2 : DataW.trod enc Try.prog w base spare held n 23 [v2] = some y2 := by simpa [cells23] using hf 2 _ rfl
    have g3 : DataW.trod enc Try.prog w base spare held n 4 [v3] = some y3 := by simpa [cells4] using hf 3 _ rfl
    obtain ⟨n0, e0, _, _⟩ := DataW.trod_int Try.underlying23 g0
    obtain ⟨n1, e1, _, _⟩ := DataW.trod_int Try.underlying22 g1
    obtain ⟨n2, e2, _, _⟩ := DataW.trod_int Try.underlying23 g2
    obtain ⟨n3, e3, _⟩ := DataW.trod_bool Try.underlying4 g3
    simp at e0 e1 e2 e3
    exact ⟨⟨n0, n1, n2, n3⟩, by rw [e0, e1, e2, e3]; rfl⟩

theorem open_banks {fuel : Nat} {v : Value} {x : DataW H × List MemPlace} (h : DataW.trod enc Try.prog w base spare held fuel 24 [v] = some x) :
    ∃ ba bl bk bs, v = .slice ba bl bk ∧ Tab w ba bl bs ∧ (ba = none → bl = 0 ∧ bk = 0) := by
  rcases open_slice Try.underlying24 h with ⟨h0, _⟩ | ⟨a, len, cap, m, n, D, Pl, h0, hb, hl, hm, hmm, _, hx⟩
  · refine ⟨none, 0, 0, [], by simpa using h0, ⟨rfl, .inl rfl⟩, fun _ => ⟨rfl, rfl⟩⟩
  have hlm : len ≤ m := by rw [hmm]; split <;> omega
  rw [cells41] at hx
  have hv : v = .slice (some a) len cap := by simpa using h0
  by_cases hz : len = 0
  · exact ⟨some a, len, cap, [], hv, ⟨by simp [hz], .inl hz⟩, fun e => by cases e⟩
  have each : ∀ i, i < len → ∃ b : Option Bk, ∃ b', b = some b' ∧ w.cells? base (a.add (i * 4)) 4 = some b'.cs.toList := fun i hi => by
    obtain ⟨cs', h1, h2⟩ := hx i (by omega)
    obtain ⟨b, rfl⟩ := open_bank h2
    exact ⟨some b, b, rfl, h1⟩
  obtain ⟨f, hf⟩ := choose_lt each
  obtain ⟨g, o, spot⟩ := a
  have cell : ∀ i, i < len → ∀ j, j < 4 → w.cell? (((⟨g, o, spot⟩ : Addr).add (i * 4)).add j) = ((f i).getD bk0).cs.toList[j]? := fun i hi j hj => by
    obtain ⟨b', e, h1⟩ := hf i hi
    obtain ⟨_, _, h2⟩ := World.cells?_some h1
    rw [h2 j hj, e]; rfl
  have hspot : spot = none := by
    have := cell 0 (by omega) 0 (by omega)
    have h' : w.cell? ⟨g, o, spot⟩ = some (.int .u32 ((f 0).getD bk0).crc) := (show w.cell? ⟨g, o, spot⟩ = ((f 0).getD bk0).cs.toList[0]? by simpa [Addr.add] using this)
    exact World.cell?_spot h'
  subst hspot
  refine ⟨_, len, cap, (List.range len).map fun i => (f i).getD bk0, hv, ⟨by simp, .inr ⟨g, o, rfl, ?_, fun i hi => ?_⟩⟩, fun e => by cases e⟩
  · have := cell 0 (by omega) 0 (by omega)
    have h' : w.cell? ⟨g, o, none⟩ = some (.int .u32 ((f 0).getD bk0).crc) := (show w.cell? ⟨g, o, none⟩ = ((f 0).getD bk0).cs.toList[0]? by simpa [Addr.add] using this)
    exact World.block_lt_of_cell? w _ h'
  · have e : ((List.range len).map fun i => (f i).getD bk0).getD i bk0 = (f i).getD bk0 := by
      rw [getD_lt _ _ _ (by simpa using hi)]; simp
    rw [e]
    have k : ∀ j, j < 4 → w.cell? ⟨g, o + i * 4 + j, none⟩ = ((f i).getD bk0).cs.toList[j]? := fun j hj => by
      have := cell i hi j hj
      rwa [add_plain, add_plain] at this
    exact ⟨k 0 (by omega), k 1 (by omega), k 2 (by omega), k 3 (by omega)⟩

theorem open_slot {r : Reach} {b0 : Nat} {v : Value} {d : DataW H} {p : List MemPlace} (hv : Value.okWide Try.prog w r b0 26 v) (h : DataW.Trod enc Try.prog w base spare held 26 v d p) :
    ∃ s bs, v = .agg s.cs ∧ Came w s bs := by
  obtain ⟨cs, rfl, hsz⟩ := okWide_struct Try.underlying26 hv
  obtain ⟨fuel, hf⟩ := h
  obtain ⟨xs, n, _, _, hlen, hxl, hf⟩ := DataW.trod_struct Try.underlying26 hf
  rw [cells26] at hlen
  obtain ⟨cl⟩ := cs
  simp only [Value.cells] at hf hlen
  match xs, hxl, cl, hlen with
  | [y0, y1, y2, y3, y4, y5, y6, y7, y8, y9, y10, y11], _, [v0, v1, v2, v3, v4, v5, v6, v7, v8, v9, v10, v11], _ =>
    have g0 : DataW.trod enc Try.prog w base spare held n 2 [v0] = some y0 := by simpa [cells2] using hf 0 _ rfl
    have g1 : DataW.trod enc Try.prog w base spare held n 4 [v1] = some y1 := by simpa [cells4] using hf 1 _ rfl
    have g2 : DataW.trod enc Try.prog w base spare held n 4 [v2] = some y2 := by simpa [cells4] using hf 2 _ rfl
    have g3 : DataW.trod enc Try.prog w base spare held n 22 [v3] = some y3 := by simpa [cells22] using hf 3 _ rfl
    have g4 : DataW.trod enc Try.prog w base spare held n 22 [v4] = some y4 := by simpa [cells22] using hf 4 _ rfl
    have g5 : DataW.trod enc Try.prog w base spare held n 2 [v5] = some y5 := by simpa [cells2] using hf 5 _ rfl
    have g6 : DataW.trod enc Try.prog w base spare held n 22 [v6] = some y6 := by simpa [cells22] using hf 6 _ rfl
    have g7 : DataW.trod enc Try.prog w base spare held n 2 [v7] = some y7 := by simpa [cells2] using hf 7 _ rfl
    have g8 : DataW.trod enc Try.prog w base spare held n 22 [v8] = some y8 := by simpa [cells22] using hf 8 _ rfl
    have g9 : DataW.trod enc Try.prog w base spare held n 23 [v9] = some y9 := by simpa [cells23] using hf 9 _ rfl
    have g10 : DataW.trod enc Try.prog w base spare held n 24 [v10] = some y10 := by simpa [cells24] using hf 10 _ rfl
    have g11 : DataW.trod enc Try.prog w base spare held n 9 [v11] = some y11 := by simpa [cells9] using hf 11 _ rfl
    obtain ⟨n0, e0, _, _⟩ := DataW.trod_int Try.underlying2 g0
    obtain ⟨n1, e1, _⟩ := DataW.trod_bool Try.underlying4 g1
    obtain ⟨n2, e2, _⟩ := DataW.trod_bool Try.underlying4 g2
    obtain ⟨n3, e3, _, _⟩ := DataW.trod_int Try.underlying22 g3
    obtain ⟨n4, e4, _, _⟩ := DataW.trod_int Try.underlying22 g4
    obtain ⟨n5, e5, _, _⟩ := DataW.trod_int Try.underlying2 g5
    obtain ⟨n6, e6, _, _⟩ := DataW.trod_int Try.underlying22 g6
    obtain ⟨n7, e7, _, _⟩ := DataW.trod_int Try.underlying2 g7
    obtain ⟨n8, e8, _, _⟩ := DataW.trod_int Try.underlying22 g8
    obtain ⟨n9, e9, _, _⟩ := DataW.trod_int Try.underlying23 g9
    obtain ⟨n11, e11, _, _⟩ := DataW.trod_string Try.underlying9 g11
    obtain ⟨ba, bl, bk, bs, e10, ht, hn⟩ := open_banks (v := v10) g10
    simp at e0 e1 e2 e3 e4 e5 e6 e7 e8 e9 e11
    exact ⟨⟨n0, n1, n2, n3, n4, n5, n6, n7, n8, n9, ba, bl, bk, n11⟩, bs, by rw [e0, e1, e2, e3, e4, e5, e6, e7, e8, e9, e10, e11]; rfl, ⟨ht, hn⟩⟩
end
end Go.Proofs.Qxb6602376a
