/- A block known whole: the cells of a row, of one element type, none frozen. -/
import Derived.Test.YtglgclkgppomiaaGreatZ03
import Derived.Laws.EntriesVeiled
set_option linter.unusedVariables false
set_option linter.unusedSimpArgs false
namespace Go.Proofs.YtglgclkgppomiaaGreat
open Go Go.RowKit
/-- Block g holds just the cells cs of elements of type t. -/
def RowB (w : World) (g : Nat) (t : TypeId) (cs : Array Value) : Prop := w.heap[g]? = some (.cells cs t (0, 0))
section
variable {w w' : World} {g : Nat} {t : TypeId} {cs : Array Value}
theorem RowB.lt (h : RowB w g t cs) : g < w.heap.size := (Array.getElem?_eq_some_iff.1 h).1
theorem RowB.cell (h : RowB w g t cs) (i : Nat) : w.cell? ⟨g, i, none⟩ = cs[i]? := by
  unfold RowB at h; simp [World.cell?, h]
theorem RowB.free (h : RowB w g t cs) (i : Nat) : w.frozen? ⟨g, i, none⟩ = false := by
  unfold RowB at h; simp [World.frozen?, h]
theorem RowB.of_eq (h : RowB w g t cs) (he : w'.heap[g]? = w.heap[g]?) : RowB w' g t cs := he.trans h
theorem RowB.keep {B : Nat} (h : RowB w g t cs) (hb : Below B w w') (hg : g < B) : RowB w' g t cs := h.of_eq (hb.block g hg)
theorem RowB.set (h : RowB w g t cs) (i : Nat) (v : Value) : RowB (w.setCell ⟨g, i, none⟩ v) g t (cs.setIfInBounds i v) := by
  unfold RowB at h ⊢
  simp [World.setCell, Array.getElem?_modify, h]
theorem RowB.new (w : World) (t : TypeId) (cs : Array Value) : RowB (w.alloc (.cells cs t)) w.heap.size t cs := heap_alloc_new w _
theorem RowB.alloc (h : RowB w g t cs) (o : Obj) : RowB (w.alloc o) g t cs := h.of_eq (Below.heap_alloc w o g h.lt)
end
theorem setCell_other (w : World) (p : Addr) (v : Value) {b : Nat} (h : b ≠ p.block) : (w.setCell p v).heap[b]? = w.heap[b]? := by
  simp [World.setCell, Array.getElem?_modify, Ne.symm h]
theorem setCell_size (w : World) (p : Addr) (v : Value) : (w.setCell p v).heap.size = w.heap.size := by simp [World.setCell]
theorem below_setCell {B : Nat} {w w' : World} (h : Below B w w') {p : Addr} (hp : B ≤ p.block) (v : Value) : Below B w (w'.setCell p v) :=
  ⟨h.os, h.tape, h.output, by rw [setCell_size]; exact h.size, fun b hb => (setCell_other w' p v (by omega)).trans (h.block b hb)⟩

/-- make([]T, n). -/
theorem make_n {t e : TypeId} {z : Value} {size bytes : Nat} (ht : Tryz.prog.underlying t = some (.slice e)) (hi : (Tryz.prog.info? e).map (fun i => (i.zero, i.size, i.bytes)) = some (some z, size, bytes)) (n : Nat) (hb : bytes * n ≤ 281474976710656) (hn : n ≤ 9223372036854775807) (w : World) :
    (Instr.makeSlice t (.int .i64 (n : Int)) (.int .i64 (n : Int))).run Tryz.prog w = .ok (.slice (some ⟨w.heap.size, 0, none⟩) n n) (w.alloc (.cells (madeCells z.cells (n * size)) e)) := by
  obtain ⟨i, h1, h2, h3, h4⟩ := info_parts hi
  have hb' : (i.bytes : Int) * (n : Int) ≤ 281474976710656 := by
    rw [h4, ← Int.natCast_mul]; omega
  have hr := run_make (P := Tryz.prog) w t e i z ht h1 h2 .i64 .i64 (n : Int) (n : Int) (by omega) (by omega) hb' (by omega)
  rw [h3] at hr
  simpa using hr
theorem madeCells_get (z : Array Value) (n i : Nat) (h : i < n) : (madeCells z n)[i]? = some (z[i % z.size]!) := by
  simp [madeCells, h]

theorem cnew {w : World} {cs : Array Value} {t : TypeId} {b i : Nat} (h : b = w.heap.size) : (w.alloc (.cells cs t)).cell? ⟨b, i, none⟩ = cs[i]? := by
  subst h; exact (RowB.new w t cs).cell i
theorem cold {w : World} {o : Obj} {b i : Nat} (h : b < w.heap.size) : (w.alloc o).cell? ⟨b, i, none⟩ = w.cell? ⟨b, i, none⟩ := World.cell?_alloc_lt w o ⟨b, i, none⟩ h
theorem size_alloc1 (w : World) (o : Obj) : (w.alloc o).heap.size = w.heap.size + 1 := by simp
theorem below_of_drew {w w' : World} (h : Below w.drew.heap.size w.drew w') : Below w.heap.size w w' := ⟨h.os, h.tape, h.output, h.size, h.block⟩
end Go.Proofs.YtglgclkgppomiaaGreat
