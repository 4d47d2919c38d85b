import Derived.Test.Qxb6602376aDefs
import Derived.Deep.MidRow
namespace Go.Proofs.Qxb6602376a
open Go.RowKit

section
variable {P : Program}
/-- A whole struct or array loaded out of a block's middle, the operation guarded or not. -/
theorem load_in {ops : Array Oper} {rest : List Oper} {op : Oper} {a : Act} {w : World} {Q : Exit → Act → World → Prop} (ty : TypeId) (x : Operand) (ho : op.op = .load ty x)
    (hw : Region.wanted op (yielded ops a.tmps) = true)
    (b o : Nat) (hx : a.eval x = .pointer (some ⟨b, o, none⟩)) (cs : Array Value) (d : TypeDesc) (hc : w.rangeAt b o cs.toList)
    (hu : P.underlying ty = some d) (hd : d.isRow = true) (hi : (P.info? ty).map (·.size) = some cs.size)
    (h : wpList P ops Q rest (a.put op.dst (.agg cs)) w) : wpList P ops Q (op :: rest) a w :=
  wpList_step fun K hK => by
    rw [if_pos hw]
    refine wp_load_mid ty x ho b o hx cs.toList d hc hu hd (by simpa using hi) ?_
    simpa using hK _ _ h
/-- A whole struct stored into a block's middle. -/
theorem store_in {ops : Array Oper} {rest : List Oper} {op : Oper} {a : Act} {w : World} {Q : Exit → Act → World → Prop} (ty : TypeId) (x y : Operand) (ho : op.op = .store ty x y)
    (hw : Region.wanted op (yielded ops a.tmps) = true)
    (b o : Nat) (cells : Array Value) (hx : a.eval x = .pointer (some ⟨b, o, none⟩)) (hy : a.eval y = .agg cells)
    (ht : w.there b o cells.size) (hi : (P.info? ty).map (·.size) = some cells.size) (h1 : cells.all (·.oneCell') = true)
    (h : wpList P ops Q rest (a.put op.dst undef) (w.setCells b o cells.toList)) : wpList P ops Q (op :: rest) a w :=
  wpList_step fun K hK => by
    rw [if_pos hw]
    exact wp_store_mid ty x y ho b o cells hx hy ht hi h1 (hK _ _ h)
end

/-- The block 'g' is a variable that holds the cells 'cs'. -/
def BoxAt (w : World) (g : Nat) (cs : Array Value) : Prop := ∃ t, w.heap[g]? = some (.cells cs t (0, 0))
theorem BoxAt.below {w w' : World} {g : Nat} {cs : Array Value} {B : Nat} (h : BoxAt w g cs) (hb : Below B w w') (hB : g < B) : BoxAt w' g cs := by
  obtain ⟨t, h⟩ := h
  exact ⟨t, by rw [hb.block g hB]; exact h⟩
theorem BoxAt.lt {w : World} {g : Nat} {cs : Array Value} (h : BoxAt w g cs) : g < w.heap.size := by
  obtain ⟨t, h⟩ := h
  exact (Array.getElem?_eq_some_iff.1 h).1
theorem BoxAt.new (w : World) (cs : Array Value) (t : TypeId) : BoxAt (w.alloc (.cells cs t)) w.heap.size cs := ⟨t, heap_alloc_new w _⟩
theorem BoxAt.alloc {w : World} {g : Nat} {cs : Array Value} (h : BoxAt w g cs) (o : Obj) : BoxAt (w.alloc o) g cs := by
  have hl := h.lt
  obtain ⟨t, h'⟩ := h
  exact ⟨t, (Below.heap_alloc w o g hl).trans h'⟩
theorem BoxAt.cell {w : World} {g : Nat} {cs : Array Value} (h : BoxAt w g cs) (i : Nat) : w.cell? ⟨g, i, none⟩ = cs[i]? := by
  obtain ⟨t, h⟩ := h
  exact cell_of_row w g i cs t _ h
theorem BoxAt.frozen {w : World} {g : Nat} {cs : Array Value} (h : BoxAt w g cs) (i : Nat) : w.frozen? ⟨g, i, none⟩ = false := by
  obtain ⟨t, h⟩ := h
  exact frozen_of_row w g i cs t h
theorem BoxAt.range {w : World} {g : Nat} {cs : Array Value} (h : BoxAt w g cs) : w.rangeAt g 0 cs.toList := fun j v hv => by
  rw [h.cell]; simpa using hv
theorem BoxAt.mid {w : World} {g : Nat} {cs : Array Value} (h : BoxAt w g cs) (o : Nat) (ds : Array Value) (hd : ∀ j, j < ds.size → cs[o + j]? = ds[j]?) : w.rangeAt g o ds.toList := fun j v hv => by
  rw [h.cell]
  have hj : j < ds.size := by
    have := (List.getElem?_eq_some_iff.1 hv).1
    simpa using this
  rw [hd j hj]; simpa using hv
theorem BoxAt.drew {w : World} {g : Nat} {cs : Array Value} (h : BoxAt w g cs) : BoxAt w.drew g cs := h

theorem Sl.cs_size (s : Sl) : s.cs.size = 12 := rfl
theorem Bk.cs_size (s : Bk) : s.cs.size = 4 := rfl

def prCs (s t : Sl) : Array Value :=
  #[.int .i64 s.off, .bool s.has, .bool s.crc, .int .u64 s.ver, .int .u64 s.eof, .int .i64 s.dp, .int .u64 s.dc, .int .i64 s.bp, .int .u64 s.bc, .int .u32 s.mb, .slice s.ba s.bl s.bk, .string s.dmg,
    .int .i64 t.off, .bool t.has, .bool t.crc, .int .u64 t.ver, .int .u64 t.eof, .int .i64 t.dp, .int .u64 t.dc, .int .i64 t.bp, .int .u64 t.bc, .int .u32 t.mb, .slice t.ba t.bl t.bk, .string t.dmg]
theorem prCs_size (s t : Sl) : (prCs s t).size = 24 := rfl
theorem prCs_fst (s t : Sl) : ∀ j, j < s.cs.size → (prCs s t)[0 + j]? = s.cs[j]? := fun j hj => by
  rw [Sl.cs_size] at hj
  match j, hj with
  | 0, _ | 1, _ | 2, _ | 3, _ | 4, _ | 5, _ | 6, _ | 7, _ | 8, _ | 9, _ | 10, _ | 11, _ => rfl
theorem prCs_snd (s t : Sl) : ∀ j, j < t.cs.size → (prCs s t)[12 + j]? = t.cs[j]? := fun j hj => by
  rw [Sl.cs_size] at hj
  match j, hj with
  | 0, _ | 1, _ | 2, _ | 3, _ | 4, _ | 5, _ | 6, _ | 7, _ | 8, _ | 9, _ | 10, _ | 11, _ => rfl

theorem info26 : (Try.prog.info? 26).map (·.size) = some 12 := by kernel_rfl
theorem info32 : (Try.prog.info? 32).map (·.size) = some 12 := by kernel_rfl
theorem info34 : (Try.prog.info? 34).map (·.size) = some 24 := by kernel_rfl
theorem info41 : (Try.prog.info? 41).map (·.size) = some 4 := by kernel_rfl
theorem info43 : (Try.prog.info? 43).map (·.size) = some 4 := by kernel_rfl
end Go.Proofs.Qxb6602376a
