/- The walks of copyBytes and assignValue. Trees that are written in place: memory. The walk of assignValue. The walk of the closure that puts a leaf together. The walk of the closure that puts an optional field together. The walk of the closure that puts a group together. Plain laws: the cells of repeated items, column by column; and the walk of setMakeSlice. The walk of the closure that puts a repeated field together: without items. -/
import Derived.Test.YtglgclkgppomiaaGreatZ08
import Derived.Test.YtglgclkgppomiaaGreatZ14
import Derived.Test.YtglgclkgppomiaaGreatZ15
import Derived.Test.YtglgclkgppomiaaGreatZ17
import Derived.Test.YtglgclkgppomiaaGreatZ18
import Derived.Laws.CopyOwn
set_option linter.unusedVariables false
set_option linter.unusedSimpArgs false
namespace Go.Proofs.YtglgclkgppomiaaGreat
open Go Go.RowKit

theorem info5 : (Tryz.prog.info? 5).map (fun i => (i.zero, i.size, i.bytes)) = some (some (.int .u8 0), 1, 1) := by kernel_rfl
theorem size5 : (Tryz.prog.info? 5).map (·.size) = some 1 := by kernel_rfl
def byteVals (t : ByteArray) : List Value := t.data.toList.map fun b => .int .u8 (b.toNat : Int)
theorem byteVals_length (t : ByteArray) : (byteVals t).length = t.size := by unfold byteVals; rw [List.length_map, Array.length_toList]; rfl
theorem byteVals_get (t : ByteArray) (j : Nat) (h : j < t.size) : (byteVals t)[j]? = some (.int .u8 (t[j].toNat : Int)) := by
  unfold byteVals
  rw [List.getElem?_map, List.getElem?_eq_getElem (by rw [Array.length_toList]; exact h)]
  rfl
/-- The call hands back these bytes, in blocks of its own. -/
def GivesBytes (t : ByteArray) (w : World) (e : Ending) (w' : World) : Prop := ∃ A c, e = .returned (.slice A t.size c) ∧ BytesAt w' w.heap.size w'.heap.size A t.size c t ∧ Below w.heap.size w w'

set_option maxRecDepth 100000 in
set_option maxHeartbeats 1000000 in
theorem copy160 (t : ByteArray) (A : Option Addr) (c lo B : Nat) (w : World) (h : BytesAt w lo B A t.size c t) (hB : B ≤ w.heap.size) (ht : t.size ≤ 1000000000000) :
    Calls Tryz.prog 160 #[.slice A t.size c] w (GivesBytes t w) := by
  have hm := make_n Tryz.underlying72 info5 t.size (by omega) (by omega)
  have H := Lib.hid h
  have HB := Lib.hid hB
  by_cases h0 : t.size = 0
  · have hb1 : ∀ o, Below w.heap.size w (w.alloc o) := fun o => (Below.refl _ _).alloc (Nat.le_refl _) _
    have HB1 := Lib.hid hb1
    have hm : ∀ w : World, (Instr.makeSlice 72 (.int .i64 0) (.int .i64 0)).run Tryz.prog w = .ok (.slice (some ⟨w.heap.size, 0, none⟩) 0 0) (w.alloc (.cells (madeCells (Value.int .u8 0).cells (0 * 1)) 5)) := fun w => make_n Tryz.underlying72 info5 0 (by omega) (by omega) w
    rw [h0]
    have H0 := Lib.hid h0
    have hcp : ∀ W : World, (Builtin.copy_ #[72, 72] 3 #[.slice (some ⟨w.heap.size, 0, none⟩) 0 0, .slice A 0 c]).run Tryz.prog W = .ok (goInt 0) W := fun W => run_copy_none W 72 72 3 5 (some ⟨w.heap.size, 0, none⟩) A 0 0 0 c Tryz.underlying72 size5 (by decide)
    clear h hB hb1 h0
    go_enter Tryz.func160, Tryz.ntmps160
    go_wp2_with fail
    go_ret
    exact ⟨_, _, by rw [H0.out]; rfl, ⟨rfl, by rw [H0.out]; exact Nat.le_refl _, fun h => absurd h (by rw [H0.out]; omega)⟩, HB1.out _⟩
  · obtain ⟨b, o, rfl, hb, hc⟩ := h.2.2 (by omega)
    have hsrc : ∀ cs ty, ∀ j v, (byteVals t)[j]? = some v → (w.alloc (.cells cs ty)).cell? ((⟨b, o, none⟩ : Addr).add j) = some v := fun cs ty j v hj => by
      have hj' : j < t.size := by have := (List.getElem?_eq_some_iff.1 hj).1; rwa [byteVals_length] at this
      rw [byteVals_get t j hj'] at hj
      rw [Addr.add_lit, ← hj]
      exact (cold (by omega)).trans (hc j hj')
    have HSRC := Lib.hid hsrc
    have hnew : ∀ cs : Array Value, (w.alloc (.cells cs 5)).heap[w.heap.size]? = some (.cells cs 5 (0, 0)) := fun cs => heap_alloc_new w _
    have HNEW := Lib.hid hnew
    have H0 := Lib.hid h0
    obtain ⟨N, hN⟩ : ∃ N, N = t.size := ⟨_, rfl⟩
    obtain ⟨bs, hbs⟩ : ∃ bs, bs = byteVals t := ⟨_, rfl⟩
    have hbl : bs.length = N := by rw [hbs, byteVals_length, hN]
    rw [← hN] at hm ⊢
    rw [← hbs] at HSRC
    have HBS := Lib.hid hbs
    have HN := Lib.hid hN
    have HBL := Lib.hid hbl
    obtain ⟨M, hM⟩ : ∃ M, M = madeCells (Value.int .u8 0).cells (N * 1) := ⟨_, rfl⟩
    have hMs : M.size = N := by rw [hM]; simp [madeCells]
    rw [← hM] at hm
    have HMS := Lib.hid hMs
    have hone : ∀ v ∈ bs, v.oneCell' = true := by
      rw [hbs]; intro v hv
      simp only [byteVals, List.mem_map] at hv
      obtain ⟨x, _, rfl⟩ := hv
      rfl
    have hcp := run_copy_row (P := Tryz.prog) (w.alloc (.cells M 5)) 72 72 3 5 w.heap.size 0 N N ⟨b, o, none⟩ N c M 5 bs Tryz.underlying72 size5 (HNEW.out _) (by rw [HBL.out]; exact (Nat.min_self N).symm) (HSRC.out _ _) (by rw [HBL.out, HMS.out]; omega) hone
    clear h hB hsrc hnew h0 hc hb hN hbs hbl hM hMs hone
    go_enter Tryz.func160, Tryz.ntmps160
    go_wp2_with fail
    go_ret
    have hg := setRow_heap (w.alloc (.cells M 5)) w.heap.size M (bs ++ List.drop bs.length M.toList).toArray 5 (0, 0) (HNEW.out M)
    have hb := below_setRow (B := w.heap.size) ((Below.refl w.heap.size w).alloc (Nat.le_refl _) (.cells M 5)) (Nat.le_refl w.heap.size) (bs ++ List.drop bs.length M.toList).toArray
    refine ⟨some ⟨w.heap.size, 0, none⟩, N, by rw [← HN.out]; rfl, ⟨rfl, by rw [HN.out]; exact Nat.le_refl _, fun _ => ⟨w.heap.size, 0, rfl, ⟨Nat.le_refl _, (Array.getElem?_eq_some_iff.1 hg).1⟩, fun j hj => ?_⟩⟩, hb⟩
    rw [Nat.zero_add, cell_of_row _ _ _ _ _ _ hg]
    rw [List.getElem?_toArray, List.getElem?_append_left (by rw [HBL.out, HN.out]; exact hj), HBS.out]
    exact byteVals_get t j hj
end Go.Proofs.YtglgclkgppomiaaGreat

namespace Go.Proofs.YtglgclkgppomiaaGreat
open Go Go.RowKit

/-- Eight cells of an array set. -/
def set8a (cs : Array Value) (po : Nat) (b0 b1 b2 b3 b4 b5 b6 b7 : Value) : Array Value :=
  (((((((cs.setIfInBounds po b0).setIfInBounds (po + 1) b1).setIfInBounds (po + 2) b2).setIfInBounds (po + 3) b3).setIfInBounds (po + 4) b4).setIfInBounds (po + 5) b5).setIfInBounds (po + 6) b6).setIfInBounds (po + 7) b7
theorem set8a_size (cs : Array Value) (po : Nat) (b0 b1 b2 b3 b4 b5 b6 b7 : Value) : (set8a cs po b0 b1 b2 b3 b4 b5 b6 b7).size = cs.size := by simp [set8a]
theorem set8a_out (cs : Array Value) (po : Nat) (b0 b1 b2 b3 b4 b5 b6 b7 : Value) (i : Nat) (h : i < po ∨ po + 8 ≤ i) : (set8a cs po b0 b1 b2 b3 b4 b5 b6 b7)[i]? = cs[i]? := by
  unfold set8a
  simp only [Array.getElem?_setIfInBounds]
  rw [if_neg (by omega), if_neg (by omega), if_neg (by omega), if_neg (by omega), if_neg (by omega), if_neg (by omega), if_neg (by omega), if_neg (by omega)]
theorem set8a_get (cs : Array Value) (po : Nat) (b0 b1 b2 b3 b4 b5 b6 b7 : Value) (h : po + 8 ≤ cs.size) (r : Nat) (v : Value) (hv : (#[b0, b1, b2, b3, b4, b5, b6, b7] : Array Value)[r]? = some v) : (set8a cs po b0 b1 b2 b3 b4 b5 b6 b7)[po + r]? = some v := by
  have hr : r < 8 := by
    have := (Array.getElem?_eq_some_iff.1 hv).1
    simpa using this
  have : r = 0 ∨ r = 1 ∨ r = 2 ∨ r = 3 ∨ r = 4 ∨ r = 5 ∨ r = 6 ∨ r = 7 := by omega
  unfold set8a
  simp only [Array.getElem?_setIfInBounds, Array.size_setIfInBounds]
  rcases this with rfl | rfl | rfl | rfl | rfl | rfl | rfl | rfl <;> simp at hv <;> subst hv
  · rw [if_neg (by omega), if_neg (by omega), if_neg (by omega), if_neg (by omega), if_neg (by omega), if_neg (by omega), if_neg (by omega), if_pos (by omega), if_pos (by omega)]
  · rw [if_neg (by omega), if_neg (by omega), if_neg (by omega), if_neg (by omega), if_neg (by omega), if_neg (by omega), if_pos (by omega), if_pos (by omega)]
  · rw [if_neg (by omega), if_neg (by omega), if_neg (by omega), if_neg (by omega), if_neg (by omega), if_pos (by omega), if_pos (by omega)]
  · rw [if_neg (by omega), if_neg (by omega), if_neg (by omega), if_neg (by omega), if_pos (by omega), if_pos (by omega)]
  · rw [if_neg (by omega), if_neg (by omega), if_neg (by omega), if_pos (by omega), if_pos (by omega)]
  · rw [if_neg (by omega), if_neg (by omega), if_pos (by omega), if_pos (by omega)]
  · rw [if_neg (by omega), if_pos (by omega), if_pos (by omega)]
  · rw [if_pos (by omega), if_pos (by omega)]
theorem RowB.set8at {w : World} {g : Nat} {t : TypeId} {cs : Array Value} (h : RowB w g t cs) (po : Nat) (b0 b1 b2 b3 b4 b5 b6 b7 : Value) :
    RowB ((((((((w.setCell ⟨g, po, none⟩ b0).setCell ⟨g, po + 1, none⟩ b1).setCell ⟨g, po + 2, none⟩ b2).setCell ⟨g, po + 3, none⟩ b3).setCell ⟨g, po + 4, none⟩ b4).setCell ⟨g, po + 5, none⟩ b5).setCell ⟨g, po + 6, none⟩ b6).setCell ⟨g, po + 7, none⟩ b7) g t (set8a cs po b0 b1 b2 b3 b4 b5 b6 b7) :=
  (((((((h.set po b0).set (po + 1) b1).set (po + 2) b2).set (po + 3) b3).set (po + 4) b4).set (po + 5) b5).set (po + 6) b6).set (po + 7) b7
theorem set8at_other (w : World) (g po : Nat) (b0 b1 b2 b3 b4 b5 b6 b7 : Value) {b : Nat} (hne : b ≠ g) :
    ((((((((w.setCell ⟨g, po, none⟩ b0).setCell ⟨g, po + 1, none⟩ b1).setCell ⟨g, po + 2, none⟩ b2).setCell ⟨g, po + 3, none⟩ b3).setCell ⟨g, po + 4, none⟩ b4).setCell ⟨g, po + 5, none⟩ b5).setCell ⟨g, po + 6, none⟩ b6).setCell ⟨g, po + 7, none⟩ b7).heap[b]? = w.heap[b]? := by
  rw [setCell_other (b := b) _ ⟨g, po + 7, none⟩ _ hne, setCell_other (b := b) _ ⟨g, po + 6, none⟩ _ hne, setCell_other (b := b) _ ⟨g, po + 5, none⟩ _ hne, setCell_other (b := b) _ ⟨g, po + 4, none⟩ _ hne, setCell_other (b := b) _ ⟨g, po + 3, none⟩ _ hne, setCell_other (b := b) _ ⟨g, po + 2, none⟩ _ hne, setCell_other (b := b) _ ⟨g, po + 1, none⟩ _ hne, setCell_other (b := b) _ ⟨g, po, none⟩ _ hne]
theorem set8at_size (w : World) (g po : Nat) (b0 b1 b2 b3 b4 b5 b6 b7 : Value) :
    ((((((((w.setCell ⟨g, po, none⟩ b0).setCell ⟨g, po + 1, none⟩ b1).setCell ⟨g, po + 2, none⟩ b2).setCell ⟨g, po + 3, none⟩ b3).setCell ⟨g, po + 4, none⟩ b4).setCell ⟨g, po + 5, none⟩ b5).setCell ⟨g, po + 6, none⟩ b6).setCell ⟨g, po + 7, none⟩ b7).heap.size = w.heap.size := by simp only [setCell_size]
/-- The eight cells of a tree's place, and that they may be written. -/
theorem RowB.c8at {w : World} {g : Nat} {t : TypeId} {cs : Array Value} (h : RowB w g t cs) (po : Nat) (hp : po + 8 ≤ cs.size) : ∃ v0 v1 v2 v3 v4 v5 v6 v7,
    (w.cell? ⟨g, po, none⟩ = some v0 ∧ w.cell? ⟨g, po + 1, none⟩ = some v1 ∧ w.cell? ⟨g, po + 2, none⟩ = some v2 ∧ w.cell? ⟨g, po + 3, none⟩ = some v3 ∧ w.cell? ⟨g, po + 4, none⟩ = some v4 ∧ w.cell? ⟨g, po + 5, none⟩ = some v5 ∧ w.cell? ⟨g, po + 6, none⟩ = some v6 ∧ w.cell? ⟨g, po + 7, none⟩ = some v7) ∧
    (w.frozen? ⟨g, po, none⟩ = false ∧ w.frozen? ⟨g, po + 1, none⟩ = false ∧ w.frozen? ⟨g, po + 2, none⟩ = false ∧ w.frozen? ⟨g, po + 3, none⟩ = false ∧ w.frozen? ⟨g, po + 4, none⟩ = false ∧ w.frozen? ⟨g, po + 5, none⟩ = false ∧ w.frozen? ⟨g, po + 6, none⟩ = false ∧ w.frozen? ⟨g, po + 7, none⟩ = false) := by
  have hc : ∀ i, i < 8 → w.cell? ⟨g, po + i, none⟩ = some (cs[po + i]!) := fun i hi => by
    rw [h.cell]
    rw [Array.getElem?_eq_getElem (by omega), getElem!_pos cs (po + i) (by omega)]
  exact ⟨_, _, _, _, _, _, _, _, ⟨hc 0 (by omega), hc 1 (by omega), hc 2 (by omega), hc 3 (by omega), hc 4 (by omega), hc 5 (by omega), hc 6 (by omega), hc 7 (by omega)⟩, ⟨h.free _, h.free _, h.free _, h.free _, h.free _, h.free _, h.free _, h.free _⟩⟩

/-- Eight cells stored. -/
theorem put8 {w : World} {g : Nat} {t : TypeId} {cs : Array Value} (h : RowB w g t cs) (po : Nat) (b0 b1 b2 b3 b4 b5 b6 b7 : Value) :
    ∃ V, V = ((((((((w.setCell ⟨g, po, none⟩ b0).setCell ⟨g, po + 1, none⟩ b1).setCell ⟨g, po + 2, none⟩ b2).setCell ⟨g, po + 3, none⟩ b3).setCell ⟨g, po + 4, none⟩ b4).setCell ⟨g, po + 5, none⟩ b5).setCell ⟨g, po + 6, none⟩ b6).setCell ⟨g, po + 7, none⟩ b7) ∧ RowB V g t (set8a cs po b0 b1 b2 b3 b4 b5 b6 b7) ∧ V.heap.size = w.heap.size ∧ w.grownBy V (some g) := by
  refine ⟨_, rfl, h.set8at po b0 b1 b2 b3 b4 b5 b6 b7, set8at_size w g po b0 b1 b2 b3 b4 b5 b6 b7, ?_⟩
  have hB := below_setCell (p := ⟨g, po + 7, none⟩) (below_setCell (p := ⟨g, po + 6, none⟩) (below_setCell (p := ⟨g, po + 5, none⟩) (below_setCell (p := ⟨g, po + 4, none⟩) (below_setCell (p := ⟨g, po + 3, none⟩) (below_setCell (p := ⟨g, po + 2, none⟩) (below_setCell (p := ⟨g, po + 1, none⟩) (below_setCell (p := ⟨g, po, none⟩) (Below.refl 0 w) (Nat.zero_le _) b0) (Nat.zero_le _) b1) (Nat.zero_le _) b2) (Nat.zero_le _) b3) (Nat.zero_le _) b4) (Nat.zero_le _) b5) (Nat.zero_le _) b6) (Nat.zero_le _) b7
  exact ⟨hB.os, hB.tape, hB.output, hB.size, fun k _ hne => set8at_other w g po b0 b1 b2 b3 b4 b5 b6 b7 (fun he => hne (by rw [he]))⟩
theorem grown_alloc {w w' : World} {row : Option Nat} (h : w.grownBy w' row) (o : Obj) : w.grownBy (w'.alloc o) row :=
  ⟨h.os, h.tape, h.output, by rw [size_alloc1]; have := h.size; omega, fun k hk hne => (Below.heap_alloc w' o k (Nat.lt_of_lt_of_le hk h.size)).trans (h.block k hk hne)⟩
theorem grown_trans {w w' w'' : World} {row row' : Option Nat} (h : w.grownBy w' row) (h' : w'.grownBy w'' row') (hr : ∀ k, row' = some k → row = some k ∨ w.heap.size ≤ k) : w.grownBy w'' row :=
  ⟨h'.os.trans h.os, h'.tape.trans h.tape, h'.output.trans h.output, Nat.le_trans h.size h'.size, fun k hk hne => (h'.block k (Nat.lt_of_lt_of_le hk h.size) (fun he => by
    rcases hr k he.symm with h1 | h1
    · exact hne h1.symm
    · omega)).trans (h.block k hk hne)⟩
theorem grown_drew {w w' : World} {row : Option Nat} (h : w.grownBy w' row) : w.grownBy w'.drew row := ⟨h.os, h.tape, h.output, h.size, h.block⟩
/-- Columns behind a slice. -/
def ColsIn (w : World) (lo B cb co nl : Nat) (X : Nat → List Cl) : Prop :=
  ∀ j, j < nl → ∃ b o c, w.cell? ⟨cb, co + j, none⟩ = some (.slice (some ⟨b, o, none⟩) (X j).length c) ∧ (X j).length ≤ c ∧ (lo ≤ b ∧ b < B) ∧ ∀ i x, (X j)[i]? = some x → VlIn w lo B b (o + i * 6) x
theorem ColsIn.frame {w w' : World} {lo B cb co nl : Nat} {X : Nat → List Cl} (h : ColsIn w lo B cb co nl X) (hf : ∀ b, lo ≤ b → b < B → w'.heap[b]? = w.heap[b]?) (hc : w'.heap[cb]? = w.heap[cb]?) : ColsIn w' lo B cb co nl X := fun j hj => by
  obtain ⟨b, o, c, h1, h2, h3, h4⟩ := h j hj
  exact ⟨b, o, c, (World.cell?_of_block (a := ⟨cb, co + j, none⟩) hc).trans h1, h2, h3, fun i x hx => (h4 i x hx).frame hf (Nat.le_refl _) (Nat.le_refl _) h3⟩
/-- What a closure is handed: a place for a tree, and columns. -/
structure RecPre (w : World) (pb po : Nat) (cs : Array Value) (lo B cb co nl : Nat) (X : Nat → List Cl) : Prop where
  row : RowB w pb 79 cs
  fit : po + 8 ≤ cs.size
  cols : ColsIn w lo B cb co nl X
  cbne : cb ≠ pb
  cblt : cb < w.heap.size
  pout : pb < lo ∨ B ≤ pb
  BW : B ≤ w.heap.size
/-- The tree's eight cells at a place of an array. -/
def TrPut (w : World) (lo B : Nat) (cs : Array Value) (po : Nat) (t : Tr) : Prop :=
  ∃ D dn dc u A c, (∀ r v, (trCells t.k D dn dc u (kdOf (t.k != 2) t.lk) A t.items.length c)[r]? = some v → cs[po + r]? = some v) ∧ TrAt w lo B t D dn dc u A c
theorem TrPut.frame {w w' : World} {lo B lo' B' : Nat} (hf : ∀ b, lo ≤ b → b < B → w'.heap[b]? = w.heap[b]?) (hlo : lo' ≤ lo) (hB : B ≤ B') {cs cs' : Array Value} {po : Nat} {t : Tr} (h : TrPut w lo B cs po t) (hc : ∀ r, r < 8 → cs'[po + r]? = cs[po + r]?) : TrPut w' lo' B' cs' po t := by
  obtain ⟨D, dn, dc, u, A, c, h1, h2⟩ := h
  refine ⟨D, dn, dc, u, A, c, fun r v hv => ?_, h2.frame hf hlo hB⟩
  have hr : r < 8 := by
    have := (Array.getElem?_eq_some_iff.1 hv).1
    simpa using this
  exact (hc r hr).trans (h1 r v hv)
/-- The closure wrote the tree t at its place, and nothing else but blocks of its own. -/
def Rebuilt (pb po : Nat) (cs : Array Value) (t : Tr) (w : World) (e : Ending) (w' : World) : Prop :=
  e = .returned .nilIface ∧ ∃ cs', RowB w' pb 79 cs' ∧ cs'.size = cs.size ∧ TrPut w' w.heap.size w'.heap.size cs' po t ∧ (∀ i, i < po ∨ po + 8 ≤ i → cs'[i]? = cs[i]?) ∧ w.grownBy w' (some pb)
theorem Rebuilt.alloc {pb po : Nat} {cs : Array Value} {t : Tr} {w : World} {e : Ending} {w' : World} (h : Rebuilt pb po cs t w e w') (o : Obj) : Rebuilt pb po cs t w e (w'.alloc o) := by
  obtain ⟨he, cs', h1, h2, h3, h4, h5⟩ := h
  refine ⟨he, cs', h1.alloc o, h2, h3.frame (fun b _ hb => Below.heap_alloc w' o b hb) (Nat.le_refl _) (by rw [size_alloc1]; omega) (fun _ _ => rfl), h4, ⟨h5.os, h5.tape, h5.output, by rw [size_alloc1]; have := h5.size; omega, fun k hk hne => (Below.heap_alloc w' o k (Nat.lt_of_lt_of_le hk h5.size)).trans (h5.block k hk hne)⟩⟩
theorem Rebuilt.before {pb po : Nat} {cs : Array Value} {t : Tr} {w w1 : World} {e : Ending} {w' : World} (h : Rebuilt pb po cs t w1 e w') (hb : Below w.heap.size w w1) : Rebuilt pb po cs t w e w' := by
  obtain ⟨he, cs', h1, h2, h3, h4, h5⟩ := h
  exact ⟨he, cs', h1, h2, h3.frame (fun b _ hb => rfl) hb.size (Nat.le_refl _) (fun _ _ => rfl), h4, ⟨h5.os.trans hb.os, h5.tape.trans hb.tape, h5.output.trans hb.output, Nat.le_trans hb.size h5.size, fun k hk hne => (h5.block k (Nat.lt_of_lt_of_le hk hb.size) hne).trans (hb.block k hk)⟩⟩
theorem Rebuilt.drew {pb po : Nat} {cs : Array Value} {t : Tr} {w : World} {e : Ending} {w' : World} (h : Rebuilt pb po cs t w e w') : Rebuilt pb po cs t w e w'.drew := by
  obtain ⟨he, cs', h1, h2, h3, h4, h5⟩ := h
  exact ⟨he, cs', h1, h2, (TrPut.frame (w := w') (w' := w'.drew) (fun b _ hb => rfl) (Nat.le_refl _) (Nat.le_refl _) h3 (fun _ _ => rfl)), h4, ⟨h5.os, h5.tape, h5.output, h5.size, h5.block⟩⟩
/-- A tree without items was stored. -/
theorem rebuilt_store {w W : World} {pb po : Nat} {cs : Array Value} {t : Tr} (hr : RowB W pb 79 cs) (hp : po + 8 ≤ cs.size) (hpl : pb < w.heap.size) (hg : Below w.heap.size w W) {D : Option Addr} {dn dc : Nat} {u : Int} {A : Option Addr} {c : Nat} (hat : TrAt W w.heap.size W.heap.size t D dn dc u A c) (kd : Int) (hkd : kd = kdOf (t.k != 2) t.lk) (n : Nat) (hn : n = t.items.length) (k : Int) (hk : k = t.k) :
    Rebuilt pb po cs t w (.returned .nilIface) ((((((((W.setCell ⟨pb, po, none⟩ (.int .i8 k)).setCell ⟨pb, po + 1, none⟩ (.slice D dn dc)).setCell ⟨pb, po + 2, none⟩ (.int .u64 u)).setCell ⟨pb, po + 3, none⟩ (.int .i8 kd)).setCell ⟨pb, po + 4, none⟩ (.int .u8 0)).setCell ⟨pb, po + 5, none⟩ (.int .u8 0)).setCell ⟨pb, po + 6, none⟩ (.int .u16 0)).setCell ⟨pb, po + 7, none⟩ (.slice A n c)) := by
  subst hkd hn hk
  have hR := hr.set8at po (.int .i8 t.k) (.slice D dn dc) (.int .u64 u) (.int .i8 (kdOf (t.k != 2) t.lk)) (.int .u8 0) (.int .u8 0) (.int .u16 0) (.slice A t.items.length c)
  have hS := set8at_size W pb po (.int .i8 t.k) (.slice D dn dc) (.int .u64 u) (.int .i8 (kdOf (t.k != 2) t.lk)) (.int .u8 0) (.int .u8 0) (.int .u16 0) (.slice A t.items.length c)
  have hO : ∀ b, b ≠ pb → _ := fun b hb => set8at_other W pb po (.int .i8 t.k) (.slice D dn dc) (.int .u64 u) (.int .i8 (kdOf (t.k != 2) t.lk)) (.int .u8 0) (.int .u8 0) (.int .u16 0) (.slice A t.items.length c) (b := b) hb
  generalize hW : ((((((((W.setCell ⟨pb, po, none⟩ (.int .i8 t.k)).setCell ⟨pb, po + 1, none⟩ (.slice D dn dc)).setCell ⟨pb, po + 2, none⟩ (.int .u64 u)).setCell ⟨pb, po + 3, none⟩ (.int .i8 (kdOf (t.k != 2) t.lk))).setCell ⟨pb, po + 4, none⟩ (.int .u8 0)).setCell ⟨pb, po + 5, none⟩ (.int .u8 0)).setCell ⟨pb, po + 6, none⟩ (.int .u16 0)).setCell ⟨pb, po + 7, none⟩ (.slice A t.items.length c)) = W' at *
  obtain ⟨cs', hcs'⟩ : ∃ cs', cs' = set8a cs po (.int .i8 t.k) (.slice D dn dc) (.int .u64 u) (.int .i8 (kdOf (t.k != 2) t.lk)) (.int .u8 0) (.int .u8 0) (.int .u16 0) (.slice A t.items.length c) := ⟨_, rfl⟩
  have h1 : cs'.size = cs.size := by rw [hcs']; exact set8a_size cs po (.int .i8 t.k) (.slice D dn dc) (.int .u64 u) (.int .i8 (kdOf (t.k != 2) t.lk)) (.int .u8 0) (.int .u8 0) (.int .u16 0) (.slice A t.items.length c)
  have h2 : ∀ r v, (trCells t.k D dn dc u (kdOf (t.k != 2) t.lk) A t.items.length c)[r]? = some v → cs'[po + r]? = some v := fun r v hv => by rw [hcs']; exact set8a_get cs po (.int .i8 t.k) (.slice D dn dc) (.int .u64 u) (.int .i8 (kdOf (t.k != 2) t.lk)) (.int .u8 0) (.int .u8 0) (.int .u16 0) (.slice A t.items.length c) hp r v hv
  have h3 : ∀ i, i < po ∨ po + 8 ≤ i → cs'[i]? = cs[i]? := fun i hi => by rw [hcs']; exact set8a_out cs po (.int .i8 t.k) (.slice D dn dc) (.int .u64 u) (.int .i8 (kdOf (t.k != 2) t.lk)) (.int .u8 0) (.int .u8 0) (.int .u16 0) (.slice A t.items.length c) i hi
  rw [← hcs'] at hR
  clear hcs'
  have h4 : TrAt W' w.heap.size W'.heap.size t D dn dc u A c := hat.frame (fun b h1 _ => hO b (by omega)) (Nat.le_refl _) (by rw [hS]; exact Nat.le_refl _)
  have hB0 : Below 0 w W' := by
    rw [← hW]
    exact (below_setCell (below_setCell (below_setCell (below_setCell (below_setCell (below_setCell (below_setCell (below_setCell (hg.mono (Nat.zero_le _)) (Nat.zero_le _) _) (Nat.zero_le _) _) (Nat.zero_le _) _) (Nat.zero_le _) _) (Nat.zero_le _) _) (Nat.zero_le _) _) (Nat.zero_le _) _) (Nat.zero_le _) _)
  refine ⟨rfl, cs', hR, h1, ⟨D, dn, dc, u, A, c, h2, h4⟩, h3, ⟨?_, ?_, ?_, by rw [hS]; exact hg.size, fun k hk hne => (hO k (fun he => hne (by rw [he]))).trans (hg.block k hk)⟩⟩
  · exact hB0.os
  · exact hB0.tape
  · exact hB0.output
/-- An array that is full of trees. -/
theorem trsAt_arr {w : World} {lo E g n : Nat} {cs : Array Value} {ts : List Tr} (hr : RowB w g 79 cs) (hn : ts.length = n) (hg : lo ≤ g) (hE : g < E) (h : ∀ i t, ts[i]? = some t → TrPut w (g + 1) E cs (i * 8) t) : TrsAt w lo E (some ⟨g, 0, none⟩) n n ts := by
  have key : ∀ i, ∃ p : Option Addr × Nat × Nat × Int × Option Addr × Nat, ∀ t, ts[i]? = some t → (∀ r v, (trCells t.k p.1 p.2.1 p.2.2.1 p.2.2.2.1 (kdOf (t.k != 2) t.lk) p.2.2.2.2.1 t.items.length p.2.2.2.2.2)[r]? = some v → cs[i * 8 + r]? = some v) ∧ TrAt w (g + 1) E t p.1 p.2.1 p.2.2.1 p.2.2.2.1 p.2.2.2.2.1 p.2.2.2.2.2 := fun i => by
    cases ht : ts[i]? with
    | none => exact ⟨(none, 0, 0, 0, none, 0), fun t h => by cases h⟩
    | some t =>
      obtain ⟨D, dn, dc, u, A, c, h1, h2⟩ := h i t ht
      exact ⟨(D, dn, dc, u, A, c), fun t' ht' => by injection ht' with ht'; subst ht'; exact ⟨h1, h2⟩⟩
  obtain ⟨p, hp⟩ := Classical.axiomOfChoice key
  have hc : ∀ (i : Nat) (v : Value), cs[i]? = some v → w.cell? ⟨g, i, none⟩ = some v := fun i v hv => by rw [hr.cell]; exact hv
  refine .mk g 0 n n ts (fun i => (p i).1) (fun i => (p i).2.1) (fun i => (p i).2.2.1) (fun i => (p i).2.2.2.1) (fun i => (p i).2.2.2.2.1) (fun i => (p i).2.2.2.2.2) ⟨hg, hE⟩ hn (Nat.le_refl _) (fun i t ht => (hp i t ht).2.1.frame (fun _ _ _ => rfl) (by omega) (Nat.le_refl _)) (fun i t ht => ?_) (fun i t ht => (hp i t ht).2.2.frame (fun _ _ _ => rfl) (by omega) (Nat.le_refl _))
  rw [Nat.zero_add]
  have q := (hp i t ht).1
  exact ⟨hc _ _ (q 0 _ rfl), hc _ _ (q 1 _ rfl), hc _ _ (q 2 _ rfl), hc _ _ (q 3 _ rfl), hc _ _ (q 4 _ rfl), hc _ _ (q 5 _ rfl), hc _ _ (q 6 _ rfl), hc _ _ (q 7 _ rfl)⟩
end Go.Proofs.YtglgclkgppomiaaGreat

namespace Go.Proofs.YtglgclkgppomiaaGreat
open Go Go.RowKit

theorem not_i8 (k : Int) (hk : 0 ≤ k ∧ k ≤ 7) : bits BinOp.xor IntKind.i8 (-1) k = -(k + 1) := by
  obtain ⟨n, rfl⟩ := Int.eq_ofNat_of_zero_le hk.1
  have hn : n < 8 := by omega
  have : ∀ m : Fin 8, bits BinOp.xor IntKind.i8 (-1) (m.val : Int) = -((m.val : Int) + 1) := by decide
  exact this ⟨n, hn⟩

set_option maxRecDepth 100000 in
set_option maxHeartbeats 2000000 in
theorem assign158_num (k num : Int) (t : ByteArray) (hk : 0 ≤ k ∧ k ≤ 5) (D : Option Addr) (dn dc : Nat) (u de rep ci : Int) (pb po : Nat) (cs : Array Value) (w : World) (hv : VR w 0 w.heap.size false k num t D dn dc u) (hr : RowB w pb 79 cs) (hp : po + 8 ≤ cs.size) :
    Calls Tryz.prog 158 #[.int .i8 k, .pointer (some ⟨pb, po, none⟩), vlV D dn dc u (-(k + 1)) de rep ci] w (Rebuilt pb po cs (.mk 2 k num t []) w) := by
  have hu : u = encU num := by
    cases hv with
    | num => rfl
    | text => omega
  subst hu
  have hx := not_i8 k (by omega)
  have h6 : (k == 6) = false := by simp; omega
  have h7 : (k == 7) = false := by simp; omega
  have h6' : ¬ (k = 6) := by omega
  have h7' : ¬ (k = 7) := by omega
  have hlt := hr.lt
  have h1 : Below w.heap.size w ((w.alloc (.cells (vCells D dn dc (encU num) (-(k + 1)) de rep ci) 76)).alloc (.cells (vCells none 0 0 (encU num) (-(k + 1)) 0 0 0) 76)) := ((Below.refl _ _).alloc (Nat.le_refl _) _).alloc (by simp) _
  have rr : RowB ((w.alloc (.cells (vCells D dn dc (encU num) (-(k + 1)) de rep ci) 76)).alloc (.cells (vCells none 0 0 (encU num) (-(k + 1)) 0 0 0) 76)) pb 79 cs := (hr.alloc _).alloc _
  have H1 := Lib.hid h1
  have RR := Lib.hid rr
  have HX := Lib.hid hx
  have HP := Lib.hid hp
  have HR := Lib.hid hr
  have HK := Lib.hid hk
  obtain ⟨v0, v1, v2, v3, v4, v5, v6, v7, ⟨c0, c1, c2, c3, c4, c5, c6, c7⟩, ⟨f0, f1, f2, f3, f4, f5, f6, f7⟩⟩ := hr.c8at po hp
  clear hv hr hp h1 rr hk
  go_enter Tryz.func158, Tryz.ntmps158
  go_wp2_with fail
  go_ret
  have hat : TrAt w w.heap.size w.heap.size (.mk 2 k num t []) none 0 0 (encU num) none 0 := ⟨.num _ _ _ (show k ≠ 6 by have := HK.out; omega), .nil _ _⟩
  have := ((rebuilt_store HR.out HP.out hlt (Below.refl w.heap.size w) hat (-(k + 1)) rfl 0 rfl 2 rfl).alloc (.cells (vCells D dn dc (encU num) (-(k + 1)) de rep ci) 76)).alloc (.cells (vCells none 0 0 (encU num) (-(k + 1)) 0 0 0) 76)
  exact this

set_option maxRecDepth 100000 in
set_option maxHeartbeats 2000000 in
theorem assign158_text (num : Int) (t : ByteArray) (ht : t.size ≤ 1000000000000) (D : Option Addr) (dn dc : Nat) (u de rep ci : Int) (pb po : Nat) (cs : Array Value) (w : World) (hv : VR w 0 w.heap.size false 6 num t D dn dc u) (hr : RowB w pb 79 cs) (hp : po + 8 ≤ cs.size) :
    Calls Tryz.prog 158 #[.int .i8 6, .pointer (some ⟨pb, po, none⟩), vlV D dn dc u (-7) de rep ci] w (Rebuilt pb po cs (.mk 2 6 num t []) w) := by
  obtain ⟨hby, hu⟩ : BytesAt w 0 w.heap.size D t.size dc t ∧ (dn = t.size ∧ u = (t.size : Int)) := by
    cases hv with
    | num _ _ _ hk => exact absurd rfl hk
    | text _ _ _ _ _ h =>
      have := h.1
      subst this
      exact ⟨h, rfl, rfl⟩
  obtain ⟨rfl, rfl⟩ := hu
  have hx := not_i8 6 (by omega)
  have hx' : bits BinOp.xor IntKind.i8 (-1) 6 = -7 := hx
  have hlt := hr.lt
  have HR := Lib.hid hr
  have HP := Lib.hid hp
  have HBY := Lib.hid hby
  have HT := Lib.hid ht
  clear hv hr hp hx hby ht
  go_enter Tryz.func158, Tryz.ntmps158
  go_wp2_with fail
  refine (copy160 t D dc 0 w.heap.size _ (HBY.out.frame (fun b _ h => (((Below.refl w.heap.size w).alloc (Nat.le_refl _) _).alloc (by simp) _).block b h) (Nat.le_refl _) (Nat.le_refl _)) (by simp only [size_alloc1]; omega) HT.out).mono ?_
  rintro e w2 ⟨A, c, rfl, hb2, hbw⟩
  have hb2' : Below w.heap.size w w2 := (((Below.refl w.heap.size w).alloc (Nat.le_refl _) _).alloc (by simp) _).trans (hbw.mono (by simp only [size_alloc1]; omega))
  have rV : RowB w2 (w.heap.size + 1) 76 (vCells none 0 0 (t.size : Int) (-7) 0 0 0) := (rowB_new (by simp)).keep hbw (by simp)
  have rP : RowB w2 pb 79 cs := HR.out.keep hb2' hlt
  have hsz := hbw.size
  simp only [size_alloc1] at hsz hb2
  obtain ⟨z0, z1, z2, z3, z4, z5⟩ := rV.c6
  have y0 := rV.free 0
  obtain ⟨v0, v1, v2, v3, v4, v5, v6, v7, ⟨c0, c1, c2, c3, c4, c5, c6, c7⟩, ⟨f0, f1, f2, f3, f4, f5, f6, f7⟩⟩ := rP.c8at po HP.out
  have hne : pb ≠ w.heap.size + 1 := by omega
  have rF : RowB (w2.setCell ⟨w.heap.size + 1, 0, none⟩ (.slice A t.size c)) pb 79 cs := rP.of_eq (setCell_other _ _ _ hne)
  have hbF : Below w.heap.size w (w2.setCell ⟨w.heap.size + 1, 0, none⟩ (.slice A t.size c)) := below_setCell hb2' (show w.heap.size ≤ w.heap.size + 1 by omega) _
  have hat : TrAt (w2.setCell ⟨w.heap.size + 1, 0, none⟩ (.slice A t.size c)) w.heap.size (w2.setCell ⟨w.heap.size + 1, 0, none⟩ (.slice A t.size c)).heap.size (.mk 2 6 num t []) A t.size c t.size none 0 := by
    refine ⟨.text _ _ _ _ _ (hb2.frame (fun b h1 h2 => setCell_other _ _ _ (show b ≠ w.heap.size + 1 by omega)) (by omega) (by rw [setCell_size]; exact Nat.le_refl _)), .nil _ _⟩
  have RF := Lib.hid rF
  have HBF := Lib.hid hbF
  have HAT := Lib.hid hat
  clear hb2 hbw hb2' rV rP rF hbF hat
  go_wp2_with fail
  go_ret
  exact rebuilt_store RF.out HP.out hlt HBF.out HAT.out (-7) rfl 0 rfl 2 rfl
/-- What assignValue does. -/
theorem assign158 (k num : Int) (t : ByteArray) (hk : isKd k = true) (ht : t.size ≤ 1000000000000) (D : Option Addr) (dn dc : Nat) (u de rep ci : Int) (pb po : Nat) (cs : Array Value) (w : World) (hv : VR w 0 w.heap.size false k num t D dn dc u) (hr : RowB w pb 79 cs) (hp : po + 8 ≤ cs.size) :
    Calls Tryz.prog 158 #[.int .i8 k, .pointer (some ⟨pb, po, none⟩), vlV D dn dc u (kdOf false k) de rep ci] w (Rebuilt pb po cs (.mk 2 k num t []) w) := by
  by_cases h6 : k = 6
  · subst h6
    exact assign158_text num t ht D dn dc u de rep ci pb po cs w hv hr hp
  · exact assign158_num k num t (by have := kd_cases hk; omega) D dn dc u de rep ci pb po cs w hv hr hp
end Go.Proofs.YtglgclkgppomiaaGreat

namespace Go.Proofs.YtglgclkgppomiaaGreat
open Go Go.RowKit

theorem kind216 (k : Int) (w : World) : Calls Tryz.prog 216 #[.int .i8 k] w fun e w' => e = .returned (.int .i8 k) ∧ w = w' := by
  go_enter Tryz.func216, Tryz.ntmps216
  go_wp2_with fail
  go_ret
  exact ⟨rfl, rfl⟩
abbrev recArgs (pb po : Nat) (rd rl dl : Int) (cb co nl cc : Nat) : Array Value :=
  #[.pointer (some ⟨pb, po, none⟩), .agg #[.int .u8 rd, .int .u8 rl, .int .u8 dl], .slice (some ⟨cb, co, none⟩) nl cc]
theorem ent156 : Enters 156 := fun args W => by kernel_rfl
theorem ent142 : Enters 142 := fun args W => by kernel_rfl
theorem ent143 : Enters 143 := fun args W => by kernel_rfl
theorem ent159 : Enters 159 := fun args W => by kernel_rfl

set_option maxRecDepth 100000 in
set_option maxHeartbeats 2000000 in
theorem leaf156 (a pb po : Nat) (cs : Array Value) (lo B cb co cc : Nat) (X : Nat → List Cl) (rd rl dl : Int) (k num : Int) (t : ByteArray) (x : Cl) (W : World) (hk : isKd k = true) (ht : t.size ≤ 1000000000000) (hc : W.cell? ⟨a, 0, none⟩ = some (.iface 173 (.int .i8 k))) (ha : a < W.heap.size) (hane : a ≠ pb)
    (hp : RecPre W pb po cs lo B cb co 1 X) (hX : X 0 = [x]) (hx : x.null = false ∧ x.kind = k ∧ x.num = num ∧ x.text = t) (hcc : 1 ≤ cc) :
    Calls Tryz.prog 156 #[.pointer (some ⟨pb, po, none⟩), .agg #[.int .u8 rd, .int .u8 rl, .int .u8 dl], .slice (some ⟨cb, co, none⟩) 1 cc, .pointer (some ⟨a, 0, none⟩)] W (Rebuilt pb po cs (.mk 2 k num t []) W) := by
  obtain ⟨n0, n1, n2, n3⟩ := hx
  obtain ⟨b, o, c, h1, h2, h3, h4⟩ := hp.cols 0 (by omega)
  rw [hX] at h1 h2 h4
  obtain ⟨D, dn, dc, u, hv, g0, g1, g2, g3, g4, g5⟩ := h4 0 x rfl
  rw [n0, n1] at g2
  rw [n0, n1, n2, n3] at hv
  simp only [List.length_cons, List.length_nil, Nat.zero_add, Nat.zero_mul, Nat.add_zero] at h1 h2 g0 g1 g2 g3 g4 g5
  have hbne : b ≠ pb := by have := hp.pout; omega
  have hlt : b < W.heap.size := Nat.lt_of_lt_of_le h3.2 hp.BW
  have hrow := hp.row
  have hfit := hp.fit
  have hcb := hp.cblt
  have hpl := hrow.lt
  have HV := Lib.hid (hv.frame (w' := W) (fun _ _ _ => rfl) (Nat.zero_le _) hp.BW)
  have HROW := Lib.hid hrow
  have HFIT := Lib.hid hfit
  have HK := Lib.hid hk
  have HT := Lib.hid ht
  have hm := fun w => m173_Kind 336 .i8 k w
  have hcf := cf216
  generalize x.de = de at *
  generalize x.rep = rep at *
  generalize 65535 - x.col = ci at *
  clear hp hX hv h4 hrow hfit hk ht n0 n1 n2 n3 h3
  go_enter Tryz.func156, Tryz.ntmps156
  go_wp2_with fail
  have x1 : Below W.heap.size W (W.alloc (.cells #[.int .u8 rd, .int .u8 rl, .int .u8 dl] 124)) := (Below.refl _ _).alloc (Nat.le_refl _) _
  have x2 := HROW.out.alloc (.cells #[.int .u8 rd, .int .u8 rl, .int .u8 dl] 124)
  have hc' : (W.alloc (.cells #[.int .u8 rd, .int .u8 rl, .int .u8 dl] 124)).cell? ⟨a, 0, none⟩ = _ := (cold ha).trans hc
  have g0' : (W.alloc (.cells #[.int .u8 rd, .int .u8 rl, .int .u8 dl] 124)).cell? ⟨b, o, none⟩ = _ := (cold hlt).trans g0
  have g1' : (W.alloc (.cells #[.int .u8 rd, .int .u8 rl, .int .u8 dl] 124)).cell? ⟨b, o + 1, none⟩ = _ := (cold hlt).trans g1
  have g2' : (W.alloc (.cells #[.int .u8 rd, .int .u8 rl, .int .u8 dl] 124)).cell? ⟨b, o + 2, none⟩ = _ := (cold hlt).trans g2
  have g3' : (W.alloc (.cells #[.int .u8 rd, .int .u8 rl, .int .u8 dl] 124)).cell? ⟨b, o + 3, none⟩ = _ := (cold hlt).trans g3
  have g4' : (W.alloc (.cells #[.int .u8 rd, .int .u8 rl, .int .u8 dl] 124)).cell? ⟨b, o + 4, none⟩ = _ := (cold hlt).trans g4
  have g5' : (W.alloc (.cells #[.int .u8 rd, .int .u8 rl, .int .u8 dl] 124)).cell? ⟨b, o + 5, none⟩ = _ := (cold hlt).trans g5
  have X1 := Lib.hid x1
  have X2 := Lib.hid x2
  clear hc g0 g1 g2 g3 g4 g5 x1 x2 h1
  generalize (W.alloc (.cells #[.int .u8 rd, .int .u8 rl, .int .u8 dl] 124)) = W1 at *
  go_region_held3 (fun w' => w'.cell? ⟨a, 0, none⟩ = some (.iface 173 (.int .i8 k)) ∧ w'.cell? ⟨b, o, none⟩ = some (.slice D dn dc) ∧ w'.cell? ⟨b, o + 1, none⟩ = some (.int .u64 u) ∧ w'.cell? ⟨b, o + 2, none⟩ = some (.int .i8 (kdOf false k)) ∧ w'.cell? ⟨b, o + 3, none⟩ = some (.int .u8 de) ∧ w'.cell? ⟨b, o + 4, none⟩ = some (.int .u8 rep) ∧ w'.cell? ⟨b, o + 5, none⟩ = some (.int .u16 ci))
    (first
      | (exact ⟨hc', g0', g1', g2', g3', g4', g5'⟩)
      | (exact ⟨(hW2 _ _ ha hane).trans hc', (hW2 _ _ hlt hbne).trans g0', (hW2 _ _ hlt hbne).trans g1', (hW2 _ _ hlt hbne).trans g2', (hW2 _ _ hlt hbne).trans g3', (hW2 _ _ hlt hbne).trans g4', (hW2 _ _ hlt hbne).trans g5'⟩))
    (first
      | (go_at_call 216
         refine (kind216 k _).mono ?_
         rintro e w2 ⟨rfl, rfl⟩)
      | (go_at_call 158
         refine (assign158 k num t HK.out HT.out D dn dc u de rep ci pb po cs W1.drew (HV.out.frame (fun b _ h => X1.out.drew.block b h) (Nat.zero_le _) X1.out.drew.size) X2.out HFIT.out).mono ?_
         intro e w2 h2
         have hW2 : ∀ g i, g < W.heap.size → g ≠ pb → w2.cell? ⟨g, i, none⟩ = W1.cell? ⟨g, i, none⟩ := fun g i h1 h3 => by
           obtain ⟨_, cs', _, _, _, _, h5⟩ := h2
           exact World.cell?_of_block (a := ⟨g, i, none⟩) (h5.block g (Nat.lt_of_lt_of_le h1 X1.out.size) (fun he => h3 (by injection he)))
         have H2 := Lib.hid h2
         obtain ⟨rfl, h2'⟩ := h2))
  all_goals
    go_wp2_with fail
    go_ret
    exact H2.out.before X1.out.drew
end Go.Proofs.YtglgclkgppomiaaGreat

namespace Go.Proofs.YtglgclkgppomiaaGreat
open Go Go.RowKit

set_option maxRecDepth 100000 in
set_option maxHeartbeats 2000000 in
theorem opt142_null (a pb po : Nat) (cs : Array Value) (lo B cb co nl cc : Nat) (X : Nat → List Cl) (rd rl dl : Nat) (hdl : dl ≤ 253) (x : Cl) (xs : List Cl) (cap0 : Array Value) (f : FuncId) (W : World) (hc : W.cell? ⟨a, 0, none⟩ = some (.func (.func f) #[] cap0)) (ha : a < W.heap.size)
    (hp : RecPre W pb po cs lo B cb co nl X) (hnl : 1 ≤ nl) (hX : X 0 = x :: xs) (hlen : xs.length ≤ 1000000000) (hx : 0 ≤ x.de ∧ x.de < ((dl + 1 : Nat) : Int)) (hcc : nl ≤ cc) (hcc2 : cc ≤ 100000) :
    Calls Tryz.prog 142 (recArgs pb po rd rl dl cb co nl cc ++ #[.pointer (some ⟨a, 0, none⟩)]) W (Rebuilt pb po cs (.mk 1 0 0 .empty []) W) := by
  obtain ⟨b, o, c, h1, h2, h3, h4⟩ := hp.cols 0 (by omega)
  rw [hX] at h1 h2 h4
  obtain ⟨D, dn, dc, u, hv, g0, g1, g2, g3, g4, g5⟩ := h4 0 x rfl
  obtain ⟨de, hde⟩ := Int.eq_ofNat_of_zero_le hx.1
  rw [hde] at hx g3
  simp only [List.length_cons, Nat.zero_mul, Nat.add_zero] at h1 h2 g0 g1 g2 g3 g4 g5
  have hlt : b < W.heap.size := Nat.lt_of_lt_of_le h3.2 hp.BW
  have hcb := hp.cblt
  have hpl := hp.row.lt
  have HROW := Lib.hid hp.row
  have HFIT := Lib.hid hp.fit
  have hlt1 : (de : Int) < ((dl : Int) + 1) := by have := hx.2; omega
  have hn0 : (0 : Int) < (nl : Int) := by omega
  have hl0 : (0 : Int) < ((xs.length + 1 : Nat) : Int) := by omega
  obtain ⟨v0, v1, v2, v3, v4, v5, v6, v7, ⟨c0, c1, c2, c3, c4, c5, c6, c7⟩, ⟨f0, f1, f2, f3, f4, f5, f6, f7⟩⟩ := hp.row.c8at po hp.fit
  generalize hN : xs.length + 1 = N at *
  clear hp hX hv h4 h3 hx
  show Calls Tryz.prog 142 #[.pointer (some ⟨pb, po, none⟩), .agg #[.int .u8 (rd : Int), .int .u8 (rl : Int), .int .u8 (dl : Int)], .slice (some ⟨cb, co, none⟩) nl cc, .pointer (some ⟨a, 0, none⟩)] W _
  go_enter Tryz.func142, Tryz.ntmps142
  go_wp2_with fail
  refine still_tail 8 (by kernel_rfl) (by kernel_rfl) ?_
  simp only [List.take_succ_cons, List.take_zero, List.drop_succ_cons, List.drop_zero]
  repeat still_step
  refine wpStill_nil ?_
  go_wp2_with fail
  go_ret
  have hat : TrAt W W.heap.size W.heap.size (.mk 1 0 0 .empty []) none 0 0 0 none 0 := ⟨.null _ _ _, .nil _ _⟩
  exact ((rebuilt_store HROW.out HFIT.out hpl (Below.refl W.heap.size W) hat 0 rfl 0 rfl 1 rfl).alloc _).drew

set_option maxRecDepth 100000 in
set_option maxHeartbeats 2000000 in
theorem opt142_some (a pb po : Nat) (cs : Array Value) (lo B cb co nl cc : Nat) (X : Nat → List Cl) (rd rl dl : Nat) (hdl : dl ≤ 253) (x : Cl) (xs : List Cl) (cap0 : Array Value) (f : FuncId) (W : World) (hc : W.cell? ⟨a, 0, none⟩ = some (.func (.func f) #[] cap0)) (ha : a < W.heap.size)
    (hp : RecPre W pb po cs lo B cb co nl X) (hnl : 1 ≤ nl) (hX : X 0 = x :: xs) (hlen : xs.length ≤ 1000000000) (hx : ((dl + 1 : Nat) : Int) ≤ x.de ∧ x.de ≤ 255) (hcc : nl ≤ cc) (hcc2 : cc ≤ 100000) (hent : Enters f) (t : Tr)
    (hin : ∀ W', Below W.heap.size W W' → Calls Tryz.prog f (recArgs pb po rd rl (dl + 1) cb co nl cc ++ cap0) W' (Rebuilt pb po cs t W')) :
    Calls Tryz.prog 142 (recArgs pb po rd rl dl cb co nl cc ++ #[.pointer (some ⟨a, 0, none⟩)]) W (Rebuilt pb po cs t W) := by
  obtain ⟨b, o, c, h1, h2, h3, h4⟩ := hp.cols 0 (by omega)
  rw [hX] at h1 h2 h4
  obtain ⟨D, dn, dc, u, hv, g0, g1, g2, g3, g4, g5⟩ := h4 0 x rfl
  obtain ⟨de, hde⟩ := Int.eq_ofNat_of_zero_le (show 0 ≤ x.de by have := hx.1; omega)
  rw [hde] at hx g3
  simp only [List.length_cons, Nat.zero_mul, Nat.add_zero] at h1 h2 g0 g1 g2 g3 g4 g5
  have hlt : b < W.heap.size := Nat.lt_of_lt_of_le h3.2 hp.BW
  have hcb := hp.cblt
  have hpl := hp.row.lt
  have HROW := Lib.hid hp.row
  have HFIT := Lib.hid hp.fit
  have hlt1 : ¬ ((de : Int) < ((dl : Int) + 1)) := by have := hx.1; omega
  have HIN := Lib.hid hin
  have hent1 : ∀ args W, (callFunc f args).run Tryz.prog W = .ok (.enter f args) W := hent
  have hn0 : (0 : Int) < (nl : Int) := by omega
  have hl0 : (0 : Int) < ((xs.length + 1 : Nat) : Int) := by omega
  obtain ⟨v0, v1, v2, v3, v4, v5, v6, v7, ⟨c0, c1, c2, c3, c4, c5, c6, c7⟩, ⟨f0, f1, f2, f3, f4, f5, f6, f7⟩⟩ := hp.row.c8at po hp.fit
  generalize hN : xs.length + 1 = N at *
  clear hp hX hv h4 h3 hx hin
  show Calls Tryz.prog 142 #[.pointer (some ⟨pb, po, none⟩), .agg #[.int .u8 (rd : Int), .int .u8 (rl : Int), .int .u8 (dl : Int)], .slice (some ⟨cb, co, none⟩) nl cc, .pointer (some ⟨a, 0, none⟩)] W _
  go_enter Tryz.func142, Tryz.ntmps142
  go_wp2_with fail
  refine still_tail 8 (by kernel_rfl) (by kernel_rfl) ?_
  simp only [List.take_succ_cons, List.take_zero, List.drop_succ_cons, List.drop_zero]
  repeat still_step
  refine wpStill_nil ?_
  go_wp2_with fail
  have hbW : Below W.heap.size W (W.alloc (.cells #[.int .u8 (rd : Int), .int .u8 (rl : Int), .int .u8 ((dl : Int) + 1)] 124)).drew := ((Below.refl _ _).alloc (Nat.le_refl _) _).drew
  refine (HIN.out _ hbW).mono ?_
  intro e w2 h2
  have H2 := Lib.hid (h2.before hbW)
  obtain ⟨rfl, _⟩ := h2
  go_wp2_with fail
  go_ret
  exact H2.out
end Go.Proofs.YtglgclkgppomiaaGreat

namespace Go.Proofs.YtglgclkgppomiaaGreat
open Go Go.RowKit

set_option maxRecDepth 100000 in
set_option maxHeartbeats 2000000 in
theorem grp159 (a a2 fb ob pb po n : Nat) (cs : Array Value) (lo B cb co nl cc : Nat) (X : Nat → List Cl) (rd rl dl : Nat) (kids : List Fd) (ts : List Tr) (F : Nat → FuncId) (C : Nat → Array Value) (W : World)
    (hn : kids.length = n) (hts : ts.length = n) (hn6 : n ≤ 1000000) (hc : W.cell? ⟨a, 0, none⟩ = some (.slice (some ⟨fb, 0, none⟩) n n)) (hc2 : W.cell? ⟨a2, 0, none⟩ = some (.slice (some ⟨ob, 0, none⟩) n n)) (ha : a < W.heap.size ∧ a ≠ pb) (ha2 : a2 < W.heap.size ∧ a2 ≠ pb) (hfb : fb < W.heap.size ∧ fb ≠ pb) (hob : ob < W.heap.size ∧ ob ≠ pb)
    (hk : ∀ i f, kids[i]? = some f → W.cell? ⟨fb, i, none⟩ = some (.func (.func (F i)) #[] (C i))) (hk2 : ∀ i f, kids[i]? = some f → W.cell? ⟨ob, i, none⟩ = some (.int .u16 ((leaves (kids.take (i + 1)) : Nat) : Int)))
    (hp : RecPre W pb po cs lo B cb co nl X) (hnl : leaves kids = nl) (hnl2 : nl ≤ 65534) (hcc : nl ≤ cc) (hent : ∀ i f, kids[i]? = some f → Enters (F i))
    (hin : ∀ (i : Nat) (f : Fd) (t : Tr) (W' : World) (g : Nat) (csG : Array Value), kids[i]? = some f → ts[i]? = some t → W.grownBy W' (some pb) → W.heap.size ≤ g → RecPre W' g (i * 8) csG lo B cb (co + leaves (kids.take i)) (leavesOf f) (fun j => X (leaves (kids.take i) + j)) →
      Calls Tryz.prog (F i) (recArgs g (i * 8) rd rl dl cb (co + leaves (kids.take i)) (leavesOf f) (leavesOf f) ++ C i) W' (Rebuilt g (i * 8) csG t W')) :
    Calls Tryz.prog 159 (recArgs pb po rd rl dl cb co nl cc ++ #[.pointer (some ⟨a, 0, none⟩), .pointer (some ⟨a2, 0, none⟩)]) W (Rebuilt pb po cs (.mk 4 0 0 .empty ts) W) := by
  have HIN := Lib.hid hin
  have HENT := Lib.hid hent
  have HF := Lib.hid hk
  have HO := Lib.hid hk2
  have HP := Lib.hid hp
  have HN := Lib.hid hn
  have HTS := Lib.hid hts
  have HNL := Lib.hid hnl
  have hpl := hp.row.lt
  have hmk := make_n Tryz.underlying77 info79 n (by omega) (by omega)
  obtain ⟨M, hM⟩ : ∃ M, M = madeCells (Value.agg (trCells 0 none 0 0 0 0 none 0 0)).cells (n * 8) := ⟨_, rfl⟩
  have hMs : M.size = n * 8 := by rw [hM]; simp [madeCells]
  rw [← hM] at hmk
  have HMS := Lib.hid hMs
  obtain ⟨v0, v1, v2, v3, v4, v5, v6, v7, ⟨c0, c1, c2, c3, c4, c5, c6, c7⟩, ⟨f0, f1, f2, f3, f4, f5, f6, f7⟩⟩ := hp.row.c8at po hp.fit
  obtain ⟨ha, hane⟩ := ha
  obtain ⟨ha2, ha2ne⟩ := ha2
  clear hin hent hk hk2 hp hn hts hM hMs hnl
  show Calls Tryz.prog 159 #[.pointer (some ⟨pb, po, none⟩), .agg #[.int .u8 (rd : Int), .int .u8 (rl : Int), .int .u8 (dl : Int)], .slice (some ⟨cb, co, none⟩) nl cc, .pointer (some ⟨a, 0, none⟩), .pointer (some ⟨a2, 0, none⟩)] W _
  go_enter Tryz.func159, Tryz.ntmps159
  go_wp2_with fail
  obtain ⟨csP, hP⟩ : ∃ csP, csP = set8a cs po (.int .i8 4) (.slice none 0 0) (.int .u64 0) (.int .i8 0) (.int .u8 0) (.int .u8 0) (.int .u16 0) (.slice (some ⟨W.heap.size + 1, 0, none⟩) n n) := ⟨_, rfl⟩
  have HPP := Lib.hid hP
  go_loopw [9, 22] (fun c9 i wr => ∃ (j : Nat) (csG : Array Value), j ≤ n ∧ i = .int .i64 j ∧ c9 = .int .u16 ((leaves (kids.take j) : Nat) : Int) ∧ RowB wr W.heap.size 124 #[.int .u8 rd, .int .u8 rl, .int .u8 dl] ∧ RowB wr pb 79 csP ∧ RowB wr (W.heap.size + 1) 79 csG ∧ csG.size = n * 8 ∧
      (∀ i t, i < j → ts[i]? = some t → TrPut wr (W.heap.size + 2) wr.heap.size csG (i * 8) t) ∧ W.grownBy wr (some pb) ∧ W.heap.size + 2 ≤ wr.heap.size) (fun _ i _ => n - (intOf i).toNat)
  case atStart =>
    obtain ⟨V, hV, hR, hS, hG⟩ := put8 HP.out.row po (.int .i8 4) (.slice none 0 0) (.int .u64 0) (.int .i8 0) (.int .u8 0) (.int .u8 0) (.int .u16 0) (.slice (some ⟨W.heap.size + 1, 0, none⟩) n n)
    rw [← HPP.out] at hR
    rw [← hV]
    have hsz : ((V.alloc (.cells #[.int .u8 rd, .int .u8 rl, .int .u8 dl] 124)).alloc (.cells M 79)).heap.size = W.heap.size + 2 := by simp only [size_alloc1, hS]
    refine ⟨0, M, Nat.zero_le _, rfl, by simp [leaves], (rowB_new hS.symm).alloc _, (hR.alloc _).alloc _, rowB_new (by rw [size_alloc1, hS]), HMS.out, fun i t h => absurd h (by omega), grown_alloc (grown_alloc hG _) _, by rw [hsz]; exact Nat.le_refl _⟩
  case round =>
    obtain ⟨j, csG, hj, rfl, rfl, hr1, hr2, hr3, hgs, hput, hgr, hsz⟩ := hrel
    have HR1 := Lib.hid hr1
    have HR2 := Lib.hid hr2
    have HR3 := Lib.hid hr3
    have HGS := Lib.hid hgs
    have HPUT := Lib.hid hput
    have HGR := Lib.hid hgr
    have h7 : wr.cell? ⟨pb, po + 7, none⟩ = some (.slice (some ⟨W.heap.size + 1, 0, none⟩) n n) := (hr2.cell _).trans (by rw [HPP.out]; exact set8a_get cs po _ _ _ _ _ _ _ _ HP.out.fit 7 _ rfl)
    by_cases hlt : j < n
    · have hnn := HN.out
      have htn := HTS.out
      have hkf : kids[j]? = some (kids[j]'(by omega)) := List.getElem?_eq_getElem _
      have htf : ts[j]? = some (ts[j]'(by omega)) := List.getElem?_eq_getElem _
      have hsn := leaves_snoc kids j _ hkf
      have hle : leaves (kids.take (j + 1)) ≤ nl := by
        have := leaves_append (kids.take (j + 1)) (kids.drop (j + 1))
        rw [List.take_append_drop] at this
        have := HNL.out
        omega
      have hlv := leaves_pos _ kids (Nat.le_refl _) (by intro he; rw [he] at hnn; simp at hnn; omega)
      have hfp : 1 ≤ leavesOf (kids[j]'(by omega)) := leavesOf_pos _ (fun hne => leaves_pos _ _ (Nat.le_refl _) hne)
      have g1 := (hgr.cell_far ⟨fb, j, none⟩ hfb.1 (fun he => hfb.2 (by injection he))).trans (HF.out j _ hkf)
      have g2 := (hgr.cell_far ⟨ob, j, none⟩ hob.1 (fun he => hob.2 (by injection he))).trans (HO.out j _ hkf)
      have g3 := (hgr.cell_far ⟨a2, 0, none⟩ ha2 (fun he => ha2ne (by injection he))).trans hc2
      have hent1 : ∀ args W, (callFunc (F j) args).run Tryz.prog W = .ok (.enter (F j) args) W := HENT.out j _ hkf
      have hcall := fun W' g csG => HIN.out j _ _ W' g csG hkf htf
      generalize kids[j]'(by omega) = f at *
      generalize ts[j]'(by omega) = t at *
      have HKF := Lib.hid hkf
      have HTF := Lib.hid htf
      obtain ⟨l0, l1, l2⟩ := hr1.c3
      have HCALL := Lib.hid hcall
      have HSN := Lib.hid hsn
      generalize hp0 : leaves (kids.take j) = p0 at *
      generalize hp1 : leaves (kids.take (j + 1)) = p1 at *
      have hj0 : (0 : Int) ≤ (j : Int) := Int.natCast_nonneg _
      have hj1 : (j : Int) < (n : Int) := by omega
      have hq1 : (p0 : Int) ≤ (p1 : Int) := by omega
      have hq3 : ¬ (p1 = p0) := by omega
      have hq2 : (p1 : Int) ≤ (cc : Int) := by omega
      have hq0 : (0 : Int) ≤ (p0 : Int) := Int.natCast_nonneg _
      have HP0 := Lib.hid hp0
      have HP1 := Lib.hid hp1
      clear hr1 hr2 hr3 hgs hput hgr hkf htf hcall hsn hp0 hp1
      have hpre : RecPre wr.drew (W.heap.size + 1) (j * 8) csG lo B cb (co + p0) (leavesOf f) (fun i => X (p0 + i)) := by
        have hb2 : ∀ b, b < W.heap.size → b ≠ pb → wr.drew.heap[b]? = W.heap[b]? := fun b h1 h2 => HGR.out.block b h1 (fun he => h2 (by injection he))
        have hpo := HP.out.pout
        have hBW := HP.out.BW
        have hcl := HP.out.cblt
        refine ⟨HR3.out, by have := HGS.out; omega, fun i hi => ?_, by omega, Nat.lt_of_lt_of_le hcl (HGR.out.size), .inr (by omega), Nat.le_trans hBW HGR.out.size⟩
        obtain ⟨b, o, c, q1, q2, q3, q4⟩ := HP.out.cols (p0 + i) (by have := HSN.out; omega)
        refine ⟨b, o, c, ?_, q2, q3, fun i' x hx => (q4 i' x hx).frame (fun b h1 h2 => hb2 b (by omega) (by omega)) (Nat.le_refl _) (Nat.le_refl _) q3⟩
        rw [Nat.add_assoc]
        exact (World.cell?_of_block (a := ⟨cb, co + (p0 + i), none⟩) (hb2 cb hcl HP.out.cbne)).trans q1
      have HPRE := Lib.hid hpre
      have e1 : p1 - p0 = leavesOf f := by have := HSN.out; omega
      have E1 := Lib.hid e1
      clear hpre e1
      go_wp2_with fail
      go_region_held3 (fun w' => w'.cell? ⟨W.heap.size, 0, none⟩ = some (.int .u8 rd) ∧ w'.cell? ⟨W.heap.size, 1, none⟩ = some (.int .u8 rl) ∧ w'.cell? ⟨W.heap.size, 2, none⟩ = some (.int .u8 dl) ∧ w'.cell? ⟨pb, po + 7, none⟩ = some (.slice (some ⟨W.heap.size + 1, 0, none⟩) n n))
        (first
          | (exact ⟨l0, l1, l2, h7⟩)
          | (exact ⟨(hW2 _ _ (by omega) (by omega)).trans l0, (hW2 _ _ (by omega) (by omega)).trans l1, (hW2 _ _ (by omega) (by omega)).trans l2, (hW2 _ _ (by omega) (by omega)).trans h7⟩))
        ((first
          | (rw [E1.out]
             refine (HCALL.out _ (W.heap.size + 1) csG (grown_drew HGR.out) (by omega) HPRE.out).mono ?_
             intro e w7 h2
             have hW2 : ∀ g i, g < wr.heap.size → g ≠ W.heap.size + 1 → w7.cell? ⟨g, i, none⟩ = wr.cell? ⟨g, i, none⟩ := fun g i h1 h3 => by
               obtain ⟨_, cs', _, _, _, _, h5⟩ := h2
               exact World.cell?_of_block (a := ⟨g, i, none⟩) (h5.block g h1 (fun he => h3 (by injection he)))
             have H2 := Lib.hid h2
             obtain ⟨rfl, h2'⟩ := h2)))
      obtain ⟨cs', r1, s1, tp, out, gr⟩ := h2'
      have hgb : ∀ b, b < wr.heap.size → b ≠ W.heap.size + 1 → w7.heap[b]? = wr.heap[b]? := fun b h1 h3 => gr.block b h1 (fun he => h3 (by injection he))
      have K1 := Lib.hid (HR1.out.of_eq (hgb _ (by omega) (by omega)))
      have K2 := Lib.hid (HR2.out.of_eq (hgb _ (by omega) (by omega)))
      have K3 := Lib.hid r1
      have K4 : Hid (cs'.size = n * 8) := Lib.hid (s1.trans HGS.out)
      have K5 := Lib.hid (grown_trans HGR.out (grown_trans (grown_drew (w' := wr) ⟨rfl, rfl, rfl, Nat.le_refl _, fun _ _ _ => rfl⟩) gr (fun k hk => .inl hk)) (fun k hk => by injection hk with hk; exact .inr (by omega)))
      have hszw : wr.heap.size ≤ w7.heap.size := gr.size
      have K6 : Hid (∀ i t', i < j + 1 → ts[i]? = some t' → TrPut w7 (W.heap.size + 2) w7.heap.size cs' (i * 8) t') := Lib.hid fun i t' hi ht' => by
        by_cases hij : i = j
        · subst hij
          rw [HTF.out] at ht'
          injection ht' with ht'
          subst ht'
          exact tp.frame (fun _ _ _ => rfl) (show W.heap.size + 2 ≤ wr.heap.size from hsz) (Nat.le_refl _) (fun _ _ => rfl)
        · exact (HPUT.out i t' (by omega) ht').frame (fun b h1 h3 => hgb b h3 (by omega)) (Nat.le_refl _) hszw (fun r hr => out _ (.inl (by omega)))
      clear r1 tp out gr hgb hW2
      go_wp2_with fail
      go_roundw
      case rel => exact ⟨j + 1, cs', by omega, by go_num, by rw [HP1.out], K1.out, K2.out, K3.out, K4.out, K6.out, K5.out, by omega⟩
      case measure => simp [intOf]; omega
    · obtain rfl : j = n := by omega
      clear hr1 hr2 hr3 hgs hput hgr
      go_wp2_with fail
      go_ret
      have hfit := HP.out.fit
      have htn := HTS.out
      refine ⟨rfl, csP, HR2.out, by rw [HPP.out]; exact set8a_size _ _ _ _ _ _ _ _ _ _, ⟨none, 0, 0, 0, some ⟨W.heap.size + 1, 0, none⟩, j, fun r v hv => ?_, .null _ _ _, ?_⟩, fun i hi => by rw [HPP.out]; exact set8a_out _ _ _ _ _ _ _ _ _ _ _ hi, HGR.out⟩
      · have hlen : (Tr.mk 4 0 0 .empty ts).items.length = j := htn
        rw [hlen] at hv
        rw [HPP.out]
        exact set8a_get cs po (.int .i8 4) (.slice none 0 0) (.int .u64 0) (.int .i8 0) (.int .u8 0) (.int .u8 0) (.int .u16 0) (.slice (some ⟨W.heap.size + 1, 0, none⟩) j j) hfit r v hv
      · have hlen : (Tr.mk 4 0 0 .empty ts).items.length = j := htn
        rw [hlen]
        exact trsAt_arr HR3.out htn (by omega) (by omega) (fun i t ht => HPUT.out i t (by have := (List.getElem?_eq_some_iff.1 ht).1; omega) ht)
end Go.Proofs.YtglgclkgppomiaaGreat

namespace Go.Proofs.YtglgclkgppomiaaGreat
open Go Go.RowKit

/-- The columns of m items: item i has the cells bl i j in column j. -/
structure Items (rd m nl : Nat) (bl : Nat → Nat → List Cl) (X : Nat → List Cl) : Prop where
  eq : ∀ j, j < nl → X j = parts (fun i => bl i j) m
  blk : ∀ i j, i < m → j < nl → ∃ rep, Blk (rd + 1) rep (bl i j) ∧ (0 < i → rep = rd + 1)
def upTo (bl : Nat → Nat → List Cl) (i j : Nat) : Nat := (parts (fun i => bl i j) i).length
theorem upTo_zero (bl : Nat → Nat → List Cl) (j : Nat) : upTo bl 0 j = 0 := rfl
theorem upTo_succ (bl : Nat → Nat → List Cl) (i j : Nat) : upTo bl (i + 1) j = upTo bl i j + (bl i j).length := by
  unfold upTo; rw [parts_succ, List.length_append]
theorem upTo_le (bl : Nat → Nat → List Cl) {i i' : Nat} (h : i ≤ i') (j : Nat) : upTo bl i j ≤ upTo bl i' j := parts_length_le _ h
theorem Items.pos {rd m nl : Nat} {bl : Nat → Nat → List Cl} {X : Nat → List Cl} (h : Items rd m nl bl X) {i j : Nat} (hi : i < m) (hj : j < nl) : 1 ≤ (bl i j).length := by
  obtain ⟨rep, ⟨a, t, e, _, _⟩, _⟩ := h.blk i j hi hj
  rw [e]; simp
theorem Items.all {rd m nl : Nat} {bl : Nat → Nat → List Cl} {X : Nat → List Cl} (h : Items rd m nl bl X) {j : Nat} (hj : j < nl) : (X j).length = upTo bl m j := by rw [h.eq j hj]; rfl
theorem Items.sub {rd m nl : Nat} {bl : Nat → Nat → List Cl} {X : Nat → List Cl} (h : Items rd m nl bl X) {i j r : Nat} {x : Cl} (hi : i < m) (hj : j < nl) (hx : (bl i j)[r]? = some x) : (X j)[upTo bl i j + r]? = some x := by
  have hr : r < (bl i j).length := (List.getElem?_eq_some_iff.1 hx).1
  have key : ∀ n, i < n → (parts (fun i => bl i j) n)[upTo bl i j + r]? = some x := fun n => by
    induction n with
    | zero => intro h; omega
    | succ n ih =>
      intro hn
      rw [parts_succ]
      by_cases he : i = n
      · subst he
        rw [List.getElem?_append_right (by unfold upTo; omega)]
        rw [show upTo bl i j + r - (parts (fun i => bl i j) i).length = r by unfold upTo; omega]
        exact hx
      · have h1 := ih (by omega)
        rw [List.getElem?_append_left ((List.getElem?_eq_some_iff.1 h1).1)]
        exact h1
  rw [h.eq j hj]
  exact key m hi
theorem Items.inside {rd m nl : Nat} {bl : Nat → Nat → List Cl} {X : Nat → List Cl} (h : Items rd m nl bl X) {i j k : Nat} (hi : i < m) (hj : j < nl) (h1 : upTo bl i j < k) (h2 : k < upTo bl (i + 1) j) : ∃ x, (X j)[k]? = some x ∧ ((rd + 1 : Nat) : Int) < x.rep := by
  obtain ⟨rep, ⟨a, t, e, _, ht⟩, _⟩ := h.blk i j hi hj
  rw [upTo_succ] at h2
  obtain ⟨r, rfl⟩ : ∃ r, k = upTo bl i j + (r + 1) := ⟨k - upTo bl i j - 1, by omega⟩
  have hr : r < t.length := by rw [e] at h2; simp at h2; omega
  have hx : (bl i j)[r + 1]? = some (t[r]) := by rw [e, List.getElem?_cons_succ]; exact List.getElem?_eq_getElem hr
  exact ⟨t[r], h.sub hi hj hx, ht _ (List.getElem_mem hr)⟩
theorem Items.edge {rd m nl : Nat} {bl : Nat → Nat → List Cl} {X : Nat → List Cl} (h : Items rd m nl bl X) {i j : Nat} (hi : i + 1 < m) (hj : j < nl) : ∃ x, (X j)[upTo bl (i + 1) j]? = some x ∧ x.rep = ((rd + 1 : Nat) : Int) := by
  obtain ⟨rep, ⟨a, t, e, ha, _⟩, hr⟩ := h.blk (i + 1) j hi hj
  have hx : (bl (i + 1) j)[0]? = some a := by rw [e]; rfl
  refine ⟨a, h.sub hi hj hx, ?_⟩
  rw [ha, hr (by omega)]
/-- Columns behind a slice, with the places named. -/
theorem ColsIn.places {w : World} {lo B cb co nl : Nat} {X : Nat → List Cl} (h : ColsIn w lo B cb co nl X) :
    ∃ b o c : Nat → Nat, ∀ j, j < nl → w.cell? ⟨cb, co + j, none⟩ = some (.slice (some ⟨b j, o j, none⟩) (X j).length (c j)) ∧ (X j).length ≤ c j ∧ (lo ≤ b j ∧ b j < B) ∧ ∀ i x, (X j)[i]? = some x → VlIn w lo B (b j) (o j + i * 6) x := by
  have key : ∀ j, ∃ p : Nat × Nat × Nat, j < nl → w.cell? ⟨cb, co + j, none⟩ = some (.slice (some ⟨p.1, p.2.1, none⟩) (X j).length p.2.2) ∧ (X j).length ≤ p.2.2 ∧ (lo ≤ p.1 ∧ p.1 < B) ∧ ∀ i x, (X j)[i]? = some x → VlIn w lo B p.1 (p.2.1 + i * 6) x := fun j => by
    by_cases hj : j < nl
    · obtain ⟨b, o, c, h'⟩ := h j hj
      exact ⟨(b, o, c), fun _ => h'⟩
    · exact ⟨(0, 0, 0), fun h => absurd h hj⟩
  obtain ⟨p, hp⟩ := Classical.axiomOfChoice key
  exact ⟨fun j => (p j).1, fun j => (p j).2.1, fun j => (p j).2.2, hp⟩

set_option maxRecDepth 100000 in
set_option maxHeartbeats 2000000 in
theorem make144 (pb po n : Nat) (cs : Array Value) (w : World) (hr : RowB w pb 79 cs) (hp : po + 8 ≤ cs.size) (hn : n ≤ 1000000000) :
    Calls Tryz.prog 144 #[.pointer (some ⟨pb, po, none⟩), .int .i64 n] w fun e w' => e = .returned (.pointer (some ⟨pb, po, none⟩)) ∧
      RowB w' pb 79 (set8a cs po (.int .i8 3) (.slice none 0 0) (.int .u64 0) (.int .i8 0) (.int .u8 0) (.int .u8 0) (.int .u16 0) (.slice (some ⟨w.heap.size, 0, none⟩) n n)) ∧ (∃ csG, RowB w' w.heap.size 79 csG ∧ csG.size = n * 8) ∧ w.grownBy w' (some pb) ∧ w'.heap.size = w.heap.size + 1 := by
  have HR := Lib.hid hr
  have hpl := hr.lt
  have hmk := make_n Tryz.underlying77 info79 n (by omega) (by omega)
  obtain ⟨M, hM⟩ : ∃ M, M = madeCells (Value.agg (trCells 0 none 0 0 0 0 none 0 0)).cells (n * 8) := ⟨_, rfl⟩
  have hMs : M.size = n * 8 := by rw [hM]; simp [madeCells]
  rw [← hM] at hmk
  have HMS := Lib.hid hMs
  obtain ⟨v0, v1, v2, v3, v4, v5, v6, v7, ⟨c0, c1, c2, c3, c4, c5, c6, c7⟩, ⟨f0, f1, f2, f3, f4, f5, f6, f7⟩⟩ := hr.c8at po hp
  clear hr hp hM hMs
  go_enter Tryz.func144, Tryz.ntmps144
  go_wp2_with fail
  go_ret
  obtain ⟨V, hV, hR, hS, hG⟩ := put8 HR.out po (.int .i8 3) (.slice none 0 0) (.int .u64 0) (.int .i8 0) (.int .u8 0) (.int .u8 0) (.int .u16 0) (.slice (some ⟨w.heap.size, 0, none⟩) n n)
  rw [← hV]
  exact ⟨rfl, hR.alloc _, ⟨M, rowB_new hS.symm, HMS.out⟩, grown_alloc hG _, by rw [size_alloc1, hS]⟩
end Go.Proofs.YtglgclkgppomiaaGreat

namespace Go.Proofs.YtglgclkgppomiaaGreat
open Go Go.RowKit

set_option maxRecDepth 100000 in
set_option maxHeartbeats 2000000 in
theorem rep143_none (a pb po : Nat) (cs : Array Value) (lo B cb co nl cc : Nat) (X : Nat → List Cl) (rd rl dl : Nat) (hdl : dl ≤ 253) (hrd : rd ≤ 253) (x : Cl) (xs : List Cl) (cap0 : Array Value) (f : FuncId) (W : World) (hc : W.cell? ⟨a, 0, none⟩ = some (.func (.func f) #[] cap0)) (ha : a < W.heap.size)
    (hp : RecPre W pb po cs lo B cb co nl X) (hnl : 1 ≤ nl) (hX : X 0 = x :: xs) (hlen : xs.length ≤ 1000000000) (hx : 0 ≤ x.de ∧ x.de < ((dl + 1 : Nat) : Int)) (hcc : nl ≤ cc) (hcc2 : cc ≤ 100000) :
    Calls Tryz.prog 143 (recArgs pb po rd rl dl cb co nl cc ++ #[.pointer (some ⟨a, 0, none⟩)]) W (Rebuilt pb po cs (.mk 3 0 0 .empty []) W) := by
  obtain ⟨b, o, c, h1, h2, h3, h4⟩ := hp.cols 0 (by omega)
  rw [hX] at h1 h2 h4
  obtain ⟨D, dn, dc, u, hv, g0, g1, g2, g3, g4, g5⟩ := h4 0 x rfl
  obtain ⟨de, hde⟩ := Int.eq_ofNat_of_zero_le hx.1
  rw [hde] at hx g3
  simp only [List.length_cons, Nat.zero_mul, Nat.add_zero] at h1 h2 g0 g1 g2 g3 g4 g5
  have hlt : b < W.heap.size := Nat.lt_of_lt_of_le h3.2 hp.BW
  have hcb := hp.cblt
  have hpl := hp.row.lt
  have HROW := Lib.hid hp.row
  have HFIT := Lib.hid hp.fit
  have hlt1 : (de : Int) < ((dl : Int) + 1) := by have := hx.2; omega
  have hn0 : (0 : Int) < (nl : Int) := by omega
  have hn1 : ¬ ((nl : Int) = 0) := by omega
  have hl1 : ¬ (((xs.length + 1 : Nat) : Int) = 0) := by omega
  have hl2 : ¬ (xs.length + 1 = 0) := by omega
  generalize hN : xs.length + 1 = N at *
  have hl0 : (0 : Int) < (N : Int) := by omega
  have hb1 : ((nl : Int) == 0) = false := by simp; omega
  have hb2 : ((N : Int) == 0) = false := by simp; omega
  clear hp hX hv h4 h3 hx
  show Calls Tryz.prog 143 #[.pointer (some ⟨pb, po, none⟩), .agg #[.int .u8 (rd : Int), .int .u8 (rl : Int), .int .u8 (dl : Int)], .slice (some ⟨cb, co, none⟩) nl cc, .pointer (some ⟨a, 0, none⟩)] W _
  go_enter Tryz.func143, Tryz.ntmps143
  go_wp2_with fail
  clear hn1 hb1 hb2 hl1 hl2
  have hnat : 0 < nl := by omega
  have hnat2 : 0 < N := by omega
  refine still_tail 8 (by kernel_rfl) (by kernel_rfl) ?_
  simp only [List.take_succ_cons, List.take_zero, List.drop_succ_cons, List.drop_zero]
  repeat still_step
  refine wpStill_nil ?_
  go_wp2_with fail
  have hbW : Below W.heap.size W (W.alloc (.cells #[.int .u8 ((rd : Int) + 1), .int .u8 (rl : Int), .int .u8 ((dl : Int) + 1)] 124)).drew := ((Below.refl _ _).alloc (Nat.le_refl _) _).drew
  refine (make144 pb po 0 cs _ (HROW.out.keep hbW hpl) HFIT.out (by omega)).mono ?_
  rintro e w2 ⟨rfl, hr2, ⟨csG, hg1, hg2⟩, hgr, hsz⟩
  go_wp2_with fail
  go_ret
  have hsW : (W.alloc (.cells #[.int .u8 ((rd : Int) + 1), .int .u8 (rl : Int), .int .u8 ((dl : Int) + 1)] 124)).drew.heap.size = W.heap.size + 1 := size_alloc1 _ _
  exact ⟨rfl, _, hr2, set8a_size _ _ _ _ _ _ _ _ _ _, ⟨none, 0, 0, 0, _, 0, fun r v hv => set8a_get cs po _ _ _ _ _ _ _ _ HFIT.out r v hv, .null _ _ _, .nil _ _⟩, fun i hi => set8a_out _ _ _ _ _ _ _ _ _ _ _ hi, grown_trans ⟨hbW.os, hbW.tape, hbW.output, hbW.size, fun k hk _ => hbW.block k hk⟩ hgr (fun k hk => .inl hk)⟩
end Go.Proofs.YtglgclkgppomiaaGreat
