import Derived.Test.Qxb6602376aToSlot
import Derived.Test.Qxb6602376aOpen
namespace Go.Proofs.Qxb6602376a
open Go.RowKit

theorem twoBelow {h : Nat} {s t : Sl} {w w' : World} (hS : (∀ i, w.cell? ⟨h, i, none⟩ = s.cs[i]?) ∧ ∀ i, w.cell? ⟨h + 1, i, none⟩ = t.cs[i]?) (hz : h + 2 ≤ w.heap.size) (hb : Below w.heap.size w w') :
    (∀ i, w'.cell? ⟨h, i, none⟩ = s.cs[i]?) ∧ ∀ i, w'.cell? ⟨h + 1, i, none⟩ = t.cs[i]? :=
  ⟨fun i => (hb.cell (p := ⟨h, i, none⟩) (by show h < w.heap.size; omega)).trans (hS.1 i), fun i => (hb.cell (p := ⟨h + 1, i, none⟩) (by show h + 1 < w.heap.size; omega)).trans (hS.2 i)⟩
theorem unDrew {w w' : World} (hb : Below w.drew.heap.size w.drew w') : Below w.heap.size w w' := ⟨hb.os, hb.tape, hb.output, hb.size, hb.block⟩
end Go.Proofs.Qxb6602376a
