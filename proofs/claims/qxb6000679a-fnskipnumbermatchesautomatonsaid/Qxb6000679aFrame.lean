import Derived.Test.Qxb6000679aStops
import Derived.ProofKit
import Derived.OpenShut
namespace Go.Proofs.Qxb6000679a
open Go.ChangeShapes Go.WideShapes Go.ChangeAt Go.RowKit

/-- What the walk is told of a slice of bytes that came in: it is nil; or it leads to a row of 'cap' cells, the numbers 'zs' (the first 'len' are its elements, the rest its spare room). -/
def IsRow (k : IntKind) (w : World) (a : Option Addr) (len cap : Nat) (zs : List Int) : Prop :=
  (a = none ∧ len = 0 ∧ cap = 0 ∧ zs = []) ∨
  ∃ x, a = some x ∧ len ≤ cap ∧ cap ≤ maxLen ∧ zs.length = cap ∧ (∀ i, i < zs.length → w.cell? (x.add i) = some (.int k (zs.getD i 0))) ∧ ∀ n ∈ zs, (Lit.int k n).wf = true

theorem came_of {w : World} {a : Option Addr} {len cap : Nat} {zs : List Int} (h : IsRow .u8 w a len cap zs) : Came w a len cap (zs.take len) := by
  rcases h with ⟨rfl, rfl, rfl, rfl⟩ | ⟨x, rfl, hl, hm, hz, hcell, _⟩
  · exact ⟨fun _ => ⟨rfl, by omega, .inl rfl⟩, fun _ => ⟨rfl, rfl⟩, by omega⟩
  · refine ⟨fun hs => ⟨by rw [List.length_take]; omega, hs, ?_⟩, (fun e => by cases e), by omega⟩
    by_cases h0 : len = 0
    · exact .inl h0
    · obtain ⟨b, o, rfl, hc⟩ := ints_at hcell (by omega)
      refine .inr ⟨b, o, rfl, World.block_lt_of_cell? w _ (hc 0 (by omega)), fun i hi => ?_⟩
      rw [hc i (by omega)]
      have : (zs.take len).getD i 0 = zs.getD i 0 := by simp [List.getD, List.getElem?_take_of_lt hi]
      rw [this]

theorem int_bounds {x : Int} (h : (Lit.int .i64 x).wf = true) : x ≤ 9223372036854775807 ∧ -9223372036854775808 ≤ x := by
  simp [Lit.wf, IntKind.min, IntKind.max, IntKind.signed, IntKind.bits] at h
  exact ⟨by omega, by omega⟩
end Go.Proofs.Qxb6000679a
