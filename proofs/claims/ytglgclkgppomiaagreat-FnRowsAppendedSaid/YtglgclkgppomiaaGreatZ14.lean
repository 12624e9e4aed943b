/- The walk of impl.inner. The walk of impl.tree: a field that is missing, or that is there once. Cells that are those of trees, one behind the other. The walk of impl.fields. The walk of impl.tree: a field that is repeated. The walk of impl.fields, impl.tree and impl.inner, by induction. -/
import Derived.Test.YtglgclkgppomiaaGreatZ02
import Derived.Test.YtglgclkgppomiaaGreatZ03
import Derived.Test.YtglgclkgppomiaaGreatZ11
import Derived.Test.YtglgclkgppomiaaGreatZ13
set_option linter.unusedVariables false
set_option linter.unusedSimpArgs false
namespace Go.Proofs.YtglgclkgppomiaaGreat
open Go Go.RowKit

theorem RowB.set8 {w : World} {g : Nat} {t : TypeId} {a0 a1 a2 a3 a4 a5 a6 a7 : Value} (h : RowB w g t #[a0, a1, a2, a3, a4, a5, a6, a7]) (b0 b1 b2 b3 b4 b5 b6 b7 : Value) :
    RowB ((((((((w.setCell ⟨g, 0, none⟩ b0).setCell ⟨g, 1, none⟩ b1).setCell ⟨g, 2, none⟩ b2).setCell ⟨g, 3, none⟩ b3).setCell ⟨g, 4, none⟩ b4).setCell ⟨g, 5, none⟩ b5).setCell ⟨g, 6, none⟩ b6).setCell ⟨g, 7, none⟩ b7) g t #[b0, b1, b2, b3, b4, b5, b6, b7] := by
  have h0 : RowB _ g t #[b0, a1, a2, a3, a4, a5, a6, a7] := h.set 0 b0
  have h1 : RowB _ g t #[b0, b1, a2, a3, a4, a5, a6, a7] := h0.set 1 b1
  have h2 : RowB _ g t #[b0, b1, b2, a3, a4, a5, a6, a7] := h1.set 2 b2
  have h3 : RowB _ g t #[b0, b1, b2, b3, a4, a5, a6, a7] := h2.set 3 b3
  have h4 : RowB _ g t #[b0, b1, b2, b3, b4, a5, a6, a7] := h3.set 4 b4
  have h5 : RowB _ g t #[b0, b1, b2, b3, b4, b5, a6, a7] := h4.set 5 b5
  have h6 : RowB _ g t #[b0, b1, b2, b3, b4, b5, b6, a7] := h5.set 6 b6
  exact h6.set 7 b7
/-- The call makes the tree t. -/
def MakesTr (t : Tr) (w : World) (e : Ending) (w' : World) : Prop :=
  ∃ D dn dc u A c, e = .returned (trVal t.k D dn dc u (kdOf (t.k != 2) t.lk) A t.items.length c) ∧ TrAt w' w.heap.size w'.heap.size t D dn dc u A c ∧ Below w.heap.size w w'
/-- A field by value. -/
abbrev fldVal (f : Fd) (A : Option Addr) (n c : Nat) : Value := .agg #[.string f.name, .int .i64 f.way, .int .i64 f.kind, .slice A n c]

set_option maxRecDepth 100000 in
set_option maxHeartbeats 2000000 in
theorem inner120_leaf (name : ByteArray) (way k : Int) (d : Dt) (A : Option Addr) (c : Nat) (A2 : Option Addr) (n2 c2 : Nat) (hk : isKd k = true) (hn : numOk k d.num) (ht : d.text.size ≤ 1000000000000) (w : World) :
    Calls Tryz.prog 120 #[.agg #[.string name, .int .i64 way, .int .i64 k, .slice A 0 c], .agg #[.bool d.none, .int .i64 d.num, .string d.text, .slice A2 n2 c2]] w (MakesTr (.mk 2 k d.num d.text []) w) := by
  have HK := Lib.hid hk
  have HN := Lib.hid hn
  have HT := Lib.hid ht
  generalize d.num = num at *
  generalize d.text = txt at *
  generalize d.none = nn at *
  clear hk hn ht
  go_enter Tryz.func120, Tryz.ntmps120
  go_wp2_with fail
  refine (value85 k num txt HK.out HN.out HT.out _).mono ?_
  rintro e w1 ⟨D, dn, dc, u, rfl, hv, hb⟩
  simp only [size_alloc1] at hv
  have r2 : RowB w1 (w.heap.size + 1 + 1) 79 (trCells 0 none 0 0 0 0 none 0 0) := (rowB_new (by simp)).keep hb (by simp)
  have hb2 : Below w.heap.size w w1 := ((((Below.refl _ _).alloc (Nat.le_refl _) _).alloc (by simp) _).alloc (by simp; omega) _).trans (hb.mono (by simp; omega))
  have HV := Lib.hid hv
  have hsz := hb2.size
  have hg := r2.lt
  clear hb hv
  obtain ⟨t0, t1, t2, t3, t4, t5, t6, t7⟩ := r2.c8
  have y0 := r2.free 0
  have y1 := r2.free 1
  have y2 := r2.free 2
  have y3 := r2.free 3
  have y4 := r2.free 4
  have y5 := r2.free 5
  have y6 := r2.free 6
  have y7 := r2.free 7
  go_wp2_with fail
  (try simp only [Exit.inBlock, Exit.then])
  refine bodyPost_ret (results_cell_row rfl _ _ _ 79 _ (0, 0) _ rfl (r2.set8 _ _ _ _ _ _ _ _) Tryz.underlying79 rfl size79) rfl ?_
  refine ⟨D, dn, dc, u, none, 0, rfl, ⟨?_, .nil _ _⟩, below_set8 hb2 (g := w.heap.size + 1 + 1) (by omega) _ _ _ _ _ _ _ _⟩
  refine HV.out.frame (fun b h3 _ => ?_) (by omega) (by simp only [setCell_size]; exact Nat.le_refl _)
  have hne : b ≠ w.heap.size + 1 + 1 := by omega
  rw [setCell_other (b := b) _ ⟨w.heap.size + 1 + 1, 7, none⟩ _ hne, setCell_other (b := b) _ ⟨w.heap.size + 1 + 1, 6, none⟩ _ hne, setCell_other (b := b) _ ⟨w.heap.size + 1 + 1, 5, none⟩ _ hne, setCell_other (b := b) _ ⟨w.heap.size + 1 + 1, 4, none⟩ _ hne, setCell_other (b := b) _ ⟨w.heap.size + 1 + 1, 3, none⟩ _ hne, setCell_other (b := b) _ ⟨w.heap.size + 1 + 1, 2, none⟩ _ hne, setCell_other (b := b) _ ⟨w.heap.size + 1 + 1, 1, none⟩ _ hne, setCell_other (b := b) _ ⟨w.heap.size + 1 + 1, 0, none⟩ _ hne]

theorem set8_frame (w : World) (g : Nat) (b0 b1 b2 b3 b4 b5 b6 b7 : Value) {b : Nat} (hne : b ≠ g) :
    ((((((((w.setCell ⟨g, 0, none⟩ b0).setCell ⟨g, 1, none⟩ b1).setCell ⟨g, 2, none⟩ b2).setCell ⟨g, 3, none⟩ b3).setCell ⟨g, 4, none⟩ b4).setCell ⟨g, 5, none⟩ b5).setCell ⟨g, 6, none⟩ b6).setCell ⟨g, 7, none⟩ b7).heap[b]? = w.heap[b]? := by
  rw [setCell_other (b := b) _ ⟨g, 7, none⟩ _ hne, setCell_other (b := b) _ ⟨g, 6, none⟩ _ hne, setCell_other (b := b) _ ⟨g, 5, none⟩ _ hne, setCell_other (b := b) _ ⟨g, 4, none⟩ _ hne, setCell_other (b := b) _ ⟨g, 3, none⟩ _ hne, setCell_other (b := b) _ ⟨g, 2, none⟩ _ hne, setCell_other (b := b) _ ⟨g, 1, none⟩ _ hne, setCell_other (b := b) _ ⟨g, 0, none⟩ _ hne]

set_option maxRecDepth 100000 in
set_option maxHeartbeats 2000000 in
theorem inner120_group (name : ByteArray) (way k : Int) (nn : Bool) (num : Int) (txt : ByteArray) (A : Option Addr) (n c : Nat) (A2 : Option Addr) (n2 c2 : Nat) (hn : n ≠ 0) (t : Tr) (w : World)
    (hin : ∀ W, Below w.heap.size w W → Calls Tryz.prog 51 #[.slice A n c, .slice A2 n2 c2] W (MakesTr t W)) :
    Calls Tryz.prog 120 #[.agg #[.string name, .int .i64 way, .int .i64 k, .slice A n c], .agg #[.bool nn, .int .i64 num, .string txt, .slice A2 n2 c2]] w (MakesTr t w) := by
  have HIN := Lib.hid hin
  have hn0 : ((n : Int) == 0) = false := by simp; omega
  have hn1 : ¬ ((n : Int) = 0) := by omega
  have hb0 : Below w.heap.size w (((w.alloc (.cells #[.string name, .int .i64 way, .int .i64 k, .slice A n c] 41)).alloc (.cells #[.bool nn, .int .i64 num, .string txt, .slice A2 n2 c2] 43)).alloc (.cells (trCells 0 none 0 0 0 0 none 0 0) 79)) :=
    (((Below.refl _ _).alloc (Nat.le_refl _) _).alloc (by simp) _).alloc (by simp; omega) _
  have HB0 := Lib.hid hb0
  clear hin hb0 hn
  go_enter Tryz.func120, Tryz.ntmps120
  go_wp2_with fail
  refine (HIN.out _ HB0.out).mono ?_
  rintro e w1 ⟨D, dn, dc, u, A', c', rfl, htr, hb⟩
  have r2 : RowB w1 (w.heap.size + 1 + 1) 79 (trCells 0 none 0 0 0 0 none 0 0) := (rowB_new (by simp)).keep hb (by simp)
  have hb2 : Below w.heap.size w w1 := HB0.out.trans (hb.mono (by simp; omega))
  simp only [size_alloc1] at htr
  have HV := Lib.hid htr
  have hsz := hb2.size
  have hg := r2.lt
  clear hb htr
  obtain ⟨t0, t1, t2, t3, t4, t5, t6, t7⟩ := r2.c8
  have y0 := r2.free 0
  have y1 := r2.free 1
  have y2 := r2.free 2
  have y3 := r2.free 3
  have y4 := r2.free 4
  have y5 := r2.free 5
  have y6 := r2.free 6
  have y7 := r2.free 7
  go_wp2_with fail
  (try simp only [Exit.inBlock, Exit.then])
  refine bodyPost_ret (results_cell_row rfl _ _ _ 79 _ (0, 0) _ rfl (r2.set8 _ _ _ _ _ _ _ _) Tryz.underlying79 rfl size79) rfl ?_
  refine ⟨D, dn, dc, u, A', c', rfl, ?_, below_set8 hb2 (g := w.heap.size + 1 + 1) (by omega) _ _ _ _ _ _ _ _⟩
  exact HV.out.frame (fun b h3 _ => set8_frame _ _ _ _ _ _ _ _ _ _ (by omega)) (by omega) (by simp only [setCell_size]; exact Nat.le_refl _)
end Go.Proofs.YtglgclkgppomiaaGreat

namespace Go.Proofs.YtglgclkgppomiaaGreat
open Go Go.RowKit

set_option maxRecDepth 100000 in
set_option maxHeartbeats 2000000 in
theorem tree82_req (name : ByteArray) (k : Int) (nn : Bool) (num : Int) (txt : ByteArray) (A : Option Addr) (n c : Nat) (A2 : Option Addr) (n2 c2 : Nat) (t : Tr) (w : World)
    (hin : ∀ W, Below w.heap.size w W → Calls Tryz.prog 120 #[.agg #[.string name, .int .i64 0, .int .i64 k, .slice A n c], .agg #[.bool nn, .int .i64 num, .string txt, .slice A2 n2 c2]] W (MakesTr t W)) :
    Calls Tryz.prog 82 #[.agg #[.string name, .int .i64 0, .int .i64 k, .slice A n c], .agg #[.bool nn, .int .i64 num, .string txt, .slice A2 n2 c2]] w (MakesTr t w) := by
  have HIN := Lib.hid hin
  have hb0 : Below w.heap.size w (((w.alloc (.cells #[.string name, .int .i64 0, .int .i64 k, .slice A n c] 41)).alloc (.cells #[.bool nn, .int .i64 num, .string txt, .slice A2 n2 c2] 43)).alloc (.cells (trCells 0 none 0 0 0 0 none 0 0) 79)) :=
    (((Below.refl _ _).alloc (Nat.le_refl _) _).alloc (by simp) _).alloc (by simp; omega) _
  have HB0 := Lib.hid hb0
  clear hin hb0
  go_enter Tryz.func82, Tryz.ntmps82
  go_wp2_with fail
  refine (HIN.out _ HB0.out).mono ?_
  rintro e w1 ⟨D, dn, dc, u, A', c', rfl, htr, hb⟩
  have r2 : RowB w1 (w.heap.size + 1 + 1) 79 (trCells 0 none 0 0 0 0 none 0 0) := (rowB_new (by simp)).keep hb (by simp)
  have hb2 : Below w.heap.size w w1 := HB0.out.trans (hb.mono (by simp; omega))
  simp only [size_alloc1] at htr
  have HV := Lib.hid htr
  have hsz := hb2.size
  have hg := r2.lt
  clear hb htr
  obtain ⟨t0, t1, t2, t3, t4, t5, t6, t7⟩ := r2.c8
  have y0 := r2.free 0
  have y1 := r2.free 1
  have y2 := r2.free 2
  have y3 := r2.free 3
  have y4 := r2.free 4
  have y5 := r2.free 5
  have y6 := r2.free 6
  have y7 := r2.free 7
  go_wp2_with fail
  (try simp only [Exit.inBlock, Exit.then])
  refine bodyPost_ret (results_cell_row rfl _ _ _ 79 _ (0, 0) _ rfl (r2.set8 _ _ _ _ _ _ _ _) Tryz.underlying79 rfl size79) rfl ?_
  refine ⟨D, dn, dc, u, A', c', rfl, ?_, below_set8 hb2 (g := w.heap.size + 1 + 1) (by omega) _ _ _ _ _ _ _ _⟩
  exact HV.out.frame (fun b h3 _ => set8_frame _ _ _ _ _ _ _ _ _ _ (by omega)) (by omega) (by simp only [setCell_size]; exact Nat.le_refl _)

set_option maxRecDepth 100000 in
set_option maxHeartbeats 2000000 in
theorem tree82_there (name : ByteArray) (k : Int) (num : Int) (txt : ByteArray) (A : Option Addr) (n c : Nat) (A2 : Option Addr) (n2 c2 : Nat) (t : Tr) (w : World)
    (hin : ∀ W, Below w.heap.size w W → Calls Tryz.prog 120 #[.agg #[.string name, .int .i64 1, .int .i64 k, .slice A n c], .agg #[.bool false, .int .i64 num, .string txt, .slice A2 n2 c2]] W (MakesTr t W)) :
    Calls Tryz.prog 82 #[.agg #[.string name, .int .i64 1, .int .i64 k, .slice A n c], .agg #[.bool false, .int .i64 num, .string txt, .slice A2 n2 c2]] w (MakesTr t w) := by
  have HIN := Lib.hid hin
  have hb0 : Below w.heap.size w (((w.alloc (.cells #[.string name, .int .i64 1, .int .i64 k, .slice A n c] 41)).alloc (.cells #[.bool false, .int .i64 num, .string txt, .slice A2 n2 c2] 43)).alloc (.cells (trCells 0 none 0 0 0 0 none 0 0) 79)) :=
    (((Below.refl _ _).alloc (Nat.le_refl _) _).alloc (by simp) _).alloc (by simp; omega) _
  have HB0 := Lib.hid hb0
  clear hin hb0
  go_enter Tryz.func82, Tryz.ntmps82
  go_wp2_with fail
  refine (HIN.out _ HB0.out).mono ?_
  rintro e w1 ⟨D, dn, dc, u, A', c', rfl, htr, hb⟩
  have r2 : RowB w1 (w.heap.size + 1 + 1) 79 (trCells 0 none 0 0 0 0 none 0 0) := (rowB_new (by simp)).keep hb (by simp)
  have hb2 : Below w.heap.size w w1 := HB0.out.trans (hb.mono (by simp; omega))
  simp only [size_alloc1] at htr
  have HV := Lib.hid htr
  have hsz := hb2.size
  have hg := r2.lt
  clear hb htr
  obtain ⟨t0, t1, t2, t3, t4, t5, t6, t7⟩ := r2.c8
  have y0 := r2.free 0
  have y1 := r2.free 1
  have y2 := r2.free 2
  have y3 := r2.free 3
  have y4 := r2.free 4
  have y5 := r2.free 5
  have y6 := r2.free 6
  have y7 := r2.free 7
  go_wp2_with fail
  (try simp only [Exit.inBlock, Exit.then])
  refine bodyPost_ret (results_cell_row rfl _ _ _ 79 _ (0, 0) _ rfl (r2.set8 _ _ _ _ _ _ _ _) Tryz.underlying79 rfl size79) rfl ?_
  refine ⟨D, dn, dc, u, A', c', rfl, ?_, below_set8 hb2 (g := w.heap.size + 1 + 1) (by omega) _ _ _ _ _ _ _ _⟩
  exact HV.out.frame (fun b h3 _ => set8_frame _ _ _ _ _ _ _ _ _ _ (by omega)) (by omega) (by simp only [setCell_size]; exact Nat.le_refl _)

set_option maxRecDepth 100000 in
set_option maxHeartbeats 2000000 in
theorem tree82_null (name : ByteArray) (k : Int) (num : Int) (txt : ByteArray) (A : Option Addr) (n c : Nat) (A2 : Option Addr) (n2 c2 : Nat) (w : World) :
    Calls Tryz.prog 82 #[.agg #[.string name, .int .i64 1, .int .i64 k, .slice A n c], .agg #[.bool true, .int .i64 num, .string txt, .slice A2 n2 c2]] w (MakesTr (.mk 1 0 0 .empty []) w) := by
  have hb0 : Below w.heap.size w (((w.alloc (.cells #[.string name, .int .i64 1, .int .i64 k, .slice A n c] 41)).alloc (.cells #[.bool true, .int .i64 num, .string txt, .slice A2 n2 c2] 43)).alloc (.cells (trCells 1 none 0 0 0 0 none 0 0) 79)) :=
    (((Below.refl _ _).alloc (Nat.le_refl _) _).alloc (by simp) _).alloc (by simp; omega) _
  have hr : RowB (((w.alloc (.cells #[.string name, .int .i64 1, .int .i64 k, .slice A n c] 41)).alloc (.cells #[.bool true, .int .i64 num, .string txt, .slice A2 n2 c2] 43)).alloc (.cells (trCells 1 none 0 0 0 0 none 0 0) 79)) (w.heap.size + 1 + 1) 79 (trCells 1 none 0 0 0 0 none 0 0) := rowB_new (by simp)
  go_enter Tryz.func82, Tryz.ntmps82
  go_wp2_with fail
  (try simp only [Exit.inBlock, Exit.then])
  refine bodyPost_ret (results_cell_row rfl _ _ _ 79 _ (0, 0) _ rfl hr Tryz.underlying79 rfl size79) rfl ?_
  exact ⟨none, 0, 0, 0, none, 0, rfl, ⟨.null _ _ _, .nil _ _⟩, hb0⟩
end Go.Proofs.YtglgclkgppomiaaGreat

namespace Go.Proofs.YtglgclkgppomiaaGreat
open Go Go.RowKit

structure FlatT (w : World) (lo B : Nat) (row : Value) (xs : List Value) (ts : List Tr) (D : Nat → Option Addr) (dn dc : Nat → Nat) (u : Nat → Int) (A : Nat → Option Addr) (c l e : Nat → Nat) : Prop where
  len : xs.length = ts.length * 8
  at_ : ∀ i t, ts[i]? = some t → TrAt w (l i) (e i) t (D i) (dn i) (dc i) (u i) (A i) (c i)
  bnd : ∀ i t, ts[i]? = some t → lo ≤ l i ∧ e i ≤ B ∧ ∀ g, row.ownBlock = some g → g < l i ∨ e i ≤ g
  get : ∀ i t, ts[i]? = some t → ∀ r v, (trCells t.k (D i) (dn i) (dc i) (u i) (kdOf (t.k != 2) t.lk) (A i) t.items.length (c i))[r]? = some v → xs[i * 8 + r]? = some v
/-- The cells of trees, each made by a call of its own, none of which wrote in the row's block. -/
def FlatTr (w : World) (lo B : Nat) (row : Value) (xs : List Value) (ts : List Tr) : Prop := ∃ D dn dc u A c l e, FlatT w lo B row xs ts D dn dc u A c l e
theorem FlatTr.nil (w : World) (lo B : Nat) (row : Value) : FlatTr w lo B row [] [] := ⟨fun _ => none, fun _ => 0, fun _ => 0, fun _ => 0, fun _ => none, fun _ => 0, fun _ => 0, fun _ => 0, ⟨rfl, fun i t h => by simp at h, fun i t h => by simp at h, fun i t h => by simp at h⟩⟩
theorem FlatTr.frame {w w' : World} {lo B lo' B' : Nat} {row row' : Value} (hf : ∀ b, lo ≤ b → b < B → row.ownBlock ≠ some b → w'.heap[b]? = w.heap[b]?) (hr : ∀ g, row'.ownBlock = some g → row.ownBlock = some g ∨ B ≤ g) (hlo : lo' ≤ lo) (hB : B ≤ B') {xs : List Value} {ts : List Tr} (h : FlatTr w lo B row xs ts) : FlatTr w' lo' B' row' xs ts := by
  obtain ⟨D, dn, dc, u, A, c, l, e, h⟩ := h
  refine ⟨D, dn, dc, u, A, c, l, e, ⟨h.len, fun i t ht => ?_, fun i t ht => ?_, h.get⟩⟩
  · obtain ⟨b1, b2, b3⟩ := h.bnd i t ht
    refine (h.at_ i t ht).frame (fun b k1 k2 => hf b (Nat.le_trans b1 k1) (Nat.lt_of_lt_of_le k2 b2) fun hb => ?_) (Nat.le_refl _) (Nat.le_refl _)
    have := b3 b hb
    omega
  · obtain ⟨b1, b2, b3⟩ := h.bnd i t ht
    refine ⟨Nat.le_trans hlo b1, Nat.le_trans b2 hB, fun g hg => ?_⟩
    rcases hr g hg with h1 | h1
    · exact b3 g h1
    · exact .inr (Nat.le_trans b2 h1)
theorem FlatTr.snoc {w : World} {lo B l0 e0 : Nat} {row : Value} {xs : List Value} {ts : List Tr} (h : FlatTr w lo B row xs ts) {t : Tr} {D0 : Option Addr} {dn0 dc0 : Nat} {u0 : Int} {A0 : Option Addr} {c0 : Nat} (ht : TrAt w l0 e0 t D0 dn0 dc0 u0 A0 c0)
    (hl : lo ≤ l0) (he : e0 ≤ B) (hg : ∀ g, row.ownBlock = some g → g < l0 ∨ e0 ≤ g) :
    FlatTr w lo B row (xs ++ (trCells t.k D0 dn0 dc0 u0 (kdOf (t.k != 2) t.lk) A0 t.items.length c0).toList) (ts ++ [t]) := by
  obtain ⟨D, dn, dc, u, A, c, l, e, h⟩ := h
  refine ⟨fun i => if i = ts.length then D0 else D i, fun i => if i = ts.length then dn0 else dn i, fun i => if i = ts.length then dc0 else dc i, fun i => if i = ts.length then u0 else u i, fun i => if i = ts.length then A0 else A i, fun i => if i = ts.length then c0 else c i, fun i => if i = ts.length then l0 else l i, fun i => if i = ts.length then e0 else e i, ⟨?_, fun i x hx => ?_, fun i x hx => ?_, fun i x hx r v hv => ?_⟩⟩
  · rw [List.length_append, List.length_append, h.len]
    simp
    omega
  · by_cases hi : i = ts.length
    · subst hi
      simp at hx
      subst hx
      simp only [if_pos]
      exact ht
    · have hlt : i < ts.length := by
        have := (List.getElem?_eq_some_iff.1 hx).1
        simp at this; omega
      rw [List.getElem?_append_left hlt] at hx
      simp only [hi, if_false]
      exact h.at_ i x hx
  · by_cases hi : i = ts.length
    · subst hi
      simp only [if_pos]
      exact ⟨hl, he, hg⟩
    · have hlt : i < ts.length := by
        have := (List.getElem?_eq_some_iff.1 hx).1
        simp at this; omega
      rw [List.getElem?_append_left hlt] at hx
      simp only [hi, if_false]
      exact h.bnd i x hx
  · by_cases hi : i = ts.length
    · subst hi
      simp at hx
      subst hx
      simp only [if_pos] at hv
      rw [List.getElem?_append_right (by rw [h.len]; omega), h.len, show ts.length * 8 + r - ts.length * 8 = r by omega]
      simpa using hv
    · have hlt : i < ts.length := by
        have := (List.getElem?_eq_some_iff.1 hx).1
        simp at this; omega
      rw [List.getElem?_append_left hlt] at hx
      simp only [hi, if_false] at hv
      have hr : r < 8 := by
        have := (Array.getElem?_eq_some_iff.1 hv).1
        simpa using this
      rw [List.getElem?_append_left (by rw [h.len]; omega)]
      exact h.get i x hx r v hv
theorem trsAt_owns {w : World} {lo B base : Nat} {v : Value} {N : Nat} {xs : List Value} {ts : List Tr} (h : w.ownsRow base 79 8 v N xs) (hN : ts.length = N) (hf : FlatTr w lo B v xs ts) (hlo : lo ≤ base) (hB : B ≤ w.heap.size) : ∃ A c, v = .slice A N c ∧ TrsAt w lo w.heap.size A N c ts := by
  have hcells := fun g hg => h.cells (g := g) hg
  have hlt := h.lt
  rcases h.2 with ⟨rfl, rfl⟩ | ⟨g, cap, cur, rfl, hb, hcur, hle, hmax, hsz, htk⟩
  · obtain rfl := List.eq_nil_of_length_eq_zero hN
    exact ⟨none, 0, rfl, .nil _ _⟩
  · obtain ⟨D, dn, dc, u, A, c, l, e, hF⟩ := hf
    have hg : ∀ k u, xs[k]? = some u → w.cell? ⟨g, k, none⟩ = some u := fun k u hu => by
      have := hcells g rfl k u hu
      rw [Addr.add_lit, Nat.zero_add] at this
      exact this
    refine ⟨_, cap, rfl, .mk g 0 N cap ts D dn dc u A c ⟨Nat.le_trans hlo (hlt g rfl).1, (hlt g rfl).2⟩ hN hle (fun i t ht => (hF.at_ i t ht).1.frame (fun _ _ _ => rfl) (hF.bnd i t ht).1 (Nat.le_trans (hF.bnd i t ht).2.1 hB)) (fun i t ht => ?_) (fun i t ht => (hF.at_ i t ht).2.frame (fun _ _ _ => rfl) (hF.bnd i t ht).1 (Nat.le_trans (hF.bnd i t ht).2.1 hB))⟩
    rw [Nat.zero_add]
    exact ⟨hg _ _ (hF.get i t ht 0 _ rfl), hg _ _ (hF.get i t ht 1 _ rfl), hg _ _ (hF.get i t ht 2 _ rfl), hg _ _ (hF.get i t ht 3 _ rfl), hg _ _ (hF.get i t ht 4 _ rfl), hg _ _ (hF.get i t ht 5 _ rfl), hg _ _ (hF.get i t ht 6 _ rfl), hg _ _ (hF.get i t ht 7 _ rfl)⟩
/-- A round: a call made a tree in blocks of its own, its cells were laid in a block, appended to the row, and the row was stored in the local block L (below base). -/
theorem step_flat {w5 w6 w7 : World} {base L : Nat} {v : Value} {j g cap : Nat} {xs : List Value} {ts : List Tr} {B0 : Nat} {t : Tr} {D : Option Addr} {dn dc : Nat} {u : Int} {A : Option Addr} {c : Nat} {o : Obj}
    (hown : w5.ownsRow base 79 8 v j xs) (hflat : FlatTr w5 base B0 v xs ts) (hB0 : B0 ≤ w5.heap.size) (hbase : base ≤ w5.heap.size) (hL : L < base) (hbA : Below w5.heap.size w5 w6) (hat : TrAt w6 w5.heap.size w6.heap.size t D dn dc u A c)
    (hown7 : w7.ownsRow base 79 8 (.slice (some ⟨g, 0, none⟩) (j + 1) cap) (j + 1) (xs ++ (trCells t.k D dn dc u (kdOf (t.k != 2) t.lk) A t.items.length c).toList)) (hgrow : (w6.alloc o).grownBy w7 v.ownBlock) (hat7 : v.ownBlock = some g ∨ g = w6.heap.size + 1) (V : Value) :
    (w7.setCell ⟨L, 7, none⟩ V).ownsRow base 79 8 (.slice (some ⟨g, 0, none⟩) (j + 1) cap) (j + 1) (xs ++ (trCells t.k D dn dc u (kdOf (t.k != 2) t.lk) A t.items.length c).toList) ∧
    FlatTr (w7.setCell ⟨L, 7, none⟩ V) base (w7.setCell ⟨L, 7, none⟩ V).heap.size (.slice (some ⟨g, 0, none⟩) (j + 1) cap) (xs ++ (trCells t.k D dn dc u (kdOf (t.k != 2) t.lk) A t.items.length c).toList) (ts ++ [t]) := by
  have hlt := hown.lt
  have hlt7 := hown7.lt g rfl
  have hszA := hbA.size
  have hsz7 : w6.heap.size + 1 ≤ w7.heap.size := by have := hgrow.size; rwa [size_alloc1] at this
  have hgb : w7.grownBy (w7.setCell ⟨L, 7, none⟩ V) (some L) := ⟨rfl, rfl, rfl, by rw [setCell_size]; exact Nat.le_refl _, fun k _ hne => setCell_other _ _ _ fun he => hne (by rw [he])⟩
  refine ⟨hown7.kept hgb (.inr fun he => ?_), ?_⟩
  · have : g = L := by simpa [Value.ownBlock] using he
    omega
  · have hblk : ∀ b, base ≤ b → b < w6.heap.size → v.ownBlock ≠ some b → (w7.setCell ⟨L, 7, none⟩ V).heap[b]? = w6.heap[b]? := fun b h1 h2 h3 =>
      (setCell_other _ _ _ (show b ≠ L by omega)).trans ((hgrow.block b (by rw [size_alloc1]; omega) (fun he => h3 he.symm)).trans (Below.heap_alloc w6 _ b h2))
    refine FlatTr.snoc (l0 := w5.heap.size) (e0 := w6.heap.size) (hflat.frame (fun b h1 h2 h3 => (hblk b h1 (by omega) h3).trans (hbA.block b (by omega))) (fun g' hg' => ?_) (Nat.le_refl _) (by rw [setCell_size]; omega)) (hat.frame (fun b h1 h2 => hblk b (by omega) h2 fun he => ?_) (Nat.le_refl _) (Nat.le_refl _)) hbase (by rw [setCell_size]; omega) (fun g' hg' => ?_)
    · have : g = g' := by simpa [Value.ownBlock] using hg'
      subst this
      rcases hat7 with h | h
      · exact .inl h
      · exact .inr (by omega)
    · have := hlt b he
      omega
    · have : g = g' := by simpa [Value.ownBlock] using hg'
      subst this
      rcases hat7 with h | h
      · exact .inl (hlt g h).2
      · exact .inr (by omega)
end Go.Proofs.YtglgclkgppomiaaGreat

namespace Go.Proofs.YtglgclkgppomiaaGreat
open Go Go.RowKit

theorem info79 : (Tryz.prog.info? 79).map (fun i => (i.zero, i.size, i.bytes)) = some (some (.agg (trCells 0 none 0 0 0 0 none 0 0)), 8, 72) := by kernel_rfl

set_option maxRecDepth 100000 in
set_option maxHeartbeats 4000000 in
theorem fields51 (fs : List Fd) (ds : List Dt) (ts : List Tr) (A : Option Addr) (n c : Nat) (A2 : Option Addr) (c2 : Nat) (w : World) (hfs : FdsAt w w.heap.size A n c fs) (hds : DtsAt w w.heap.size A2 n c2 ds) (hts : ts.length = n) (hn : n ≤ 1000000)
    (hin : ∀ (W : World) (j : Nat) (f : Fd) (d : Dt) (t : Tr) (A : Option Addr) (c : Nat) (A2 : Option Addr) (c2 : Nat), fs[j]? = some f → ds[j]? = some d → ts[j]? = some t → Below w.heap.size w W → FdsAt W w.heap.size A f.kids.length c f.kids → DtsAt W w.heap.size A2 d.items.length c2 d.items →
      Calls Tryz.prog 82 #[fldVal f A f.kids.length c, dtVal d A2 d.items.length c2] W (MakesTr t W)) :
    Calls Tryz.prog 51 #[.slice A n c, .slice A2 n c2] w (MakesTr (.mk 4 0 0 .empty ts) w) := by
  have HIN := Lib.hid hin
  have HFS := Lib.hid hfs
  have HDS := Lib.hid hds
  obtain ⟨i79, j1, j2, j3, j4⟩ := info_parts info79
  have J1 := Lib.hid j1
  have J2 := Lib.hid j2
  have J3 := Lib.hid j3
  have J4 := Lib.hid j4
  clear hin hfs hds j1 j2 j3 j4
  go_enter Tryz.func51, Tryz.ntmps51
  go_wp2_with fail
  go_loopw [11] (fun i wr => ∃ (j : Nat) (v : Value) (xs : List Value), j ≤ n ∧ i = .int .i64 j ∧ RowB wr w.heap.size 79 (trCells 0 none 0 0 0 0 none 0 0) ∧ RowB wr (w.heap.size + 1) 79 #[.int .i8 4, .slice none 0 0, .int .u64 0, .int .i8 0, .int .u8 0, .int .u8 0, .int .u16 0, v] ∧
      wr.ownsRow (w.heap.size + 2) 79 8 v j xs ∧ FlatTr wr (w.heap.size + 2) wr.heap.size v xs (ts.take j) ∧ Below w.heap.size w wr) (fun i _ => n - (intOf i).toNat)
  case atStart =>
    refine ⟨0, _, [], Nat.zero_le _, rfl, (RowB.new _ _ _).alloc _, rowB_new (by simp), World.ownsRow_nil _ _ _ _, FlatTr.nil _ _ _ _, ((Below.refl _ _).alloc (Nat.le_refl _) _).alloc (by simp) _⟩
  case round =>
    obtain ⟨j, v, xs, hj, rfl, hr1, hr2, hown, hflat, hb5⟩ := hrel
    have HR1 := Lib.hid hr1
    have HR2 := Lib.hid hr2
    have HOWN := Lib.hid hown
    have HFLAT := Lib.hid hflat
    have HB5 := Lib.hid hb5
    clear hown hflat
    by_cases hlt : j < n
    · have hfl := HFS.out.len
      have hdl := HDS.out.len
      obtain ⟨b, o, f, A1, c1, rfl, hb, hf, f0, f1, f2, f3, hfk⟩ := HFS.out.at_ hlt
      obtain ⟨b', o', d, A3, c3, rfl, hb', hd, e0, e1, e2, e3, hdk⟩ := HDS.out.at_ hlt
      have ht : ts[j]? = some (ts[j]'(by omega)) := List.getElem?_eq_getElem _
      generalize ts[j]'(by omega) = t at ht
      have HFK := Lib.hid hfk
      have HDK := Lib.hid hdk
      have HF := Lib.hid hf
      have HD := Lib.hid hd
      have HT := Lib.hid ht
      have f0' := (bcell hb5 hb).trans f0
      have f1' := (bcell hb5 hb).trans f1
      have f2' := (bcell hb5 hb).trans f2
      have f3' := (bcell hb5 hb).trans f3
      have e0' := (bcell hb5 hb').trans e0
      have e1' := (bcell hb5 hb').trans e1
      have e2' := (bcell hb5 hb').trans e2
      have e3' := (bcell hb5 hb').trans e3
      have hj0 : (0 : Int) ≤ (j : Int) := Int.natCast_nonneg _
      have hj1 : (j : Int) < (n : Int) := by omega
      obtain ⟨t0, t1, t2, t3, t4, t5, t6, t7⟩ := hr2.c8
      have hsz5 := hb5.size
      have hr2l := hr2.lt
      clear f0 f1 f2 f3 e0 e1 e2 e3 hfk hdk hf hd ht hr1 hr2 hb5
      go_wp2_with fail
      have x0 : RowB (wr.alloc (.cells #[.string f.name, .int .i64 f.way, .int .i64 f.kind, .slice A1 f.kids.length c1] 41)) wr.heap.size 41 #[.string f.name, .int .i64 f.way, .int .i64 f.kind, .slice A1 f.kids.length c1] := RowB.new _ _ _
      have x1 := (HR1.out).alloc (.cells #[.string f.name, .int .i64 f.way, .int .i64 f.kind, .slice A1 f.kids.length c1] 41)
      have x2 := (HR2.out).alloc (.cells #[.string f.name, .int .i64 f.way, .int .i64 f.kind, .slice A1 f.kids.length c1] 41)
      have x3 := HOWN.out.alloc (.cells #[.string f.name, .int .i64 f.way, .int .i64 f.kind, .slice A1 f.kids.length c1] 41)
      have x4 : Below w.heap.size w (wr.alloc (.cells #[.string f.name, .int .i64 f.way, .int .i64 f.kind, .slice A1 f.kids.length c1] 41)) := HB5.out.alloc hsz5 _
      have x5 : FlatTr (wr.alloc (.cells #[.string f.name, .int .i64 f.way, .int .i64 f.kind, .slice A1 f.kids.length c1] 41)) (w.heap.size + 2) wr.heap.size v xs (ts.take j) := HFLAT.out.frame (fun b _ h2 _ => Below.heap_alloc wr _ b h2) (fun g hg => .inl hg) (Nat.le_refl _) (Nat.le_refl _)
      have e0 : (wr.alloc (.cells #[.string f.name, .int .i64 f.way, .int .i64 f.kind, .slice A1 f.kids.length c1] 41)).cell? ⟨b', o' + j * 4, none⟩ = _ := (cold (by omega)).trans e0'
      have e1 : (wr.alloc (.cells #[.string f.name, .int .i64 f.way, .int .i64 f.kind, .slice A1 f.kids.length c1] 41)).cell? ⟨b', o' + j * 4 + 1, none⟩ = _ := (cold (by omega)).trans e1'
      have e2 : (wr.alloc (.cells #[.string f.name, .int .i64 f.way, .int .i64 f.kind, .slice A1 f.kids.length c1] 41)).cell? ⟨b', o' + j * 4 + 2, none⟩ = _ := (cold (by omega)).trans e2'
      have e3 : (wr.alloc (.cells #[.string f.name, .int .i64 f.way, .int .i64 f.kind, .slice A1 f.kids.length c1] 41)).cell? ⟨b', o' + j * 4 + 3, none⟩ = _ := (cold (by omega)).trans e3'
      have x6 : (wr.alloc (.cells #[.string f.name, .int .i64 f.way, .int .i64 f.kind, .slice A1 f.kids.length c1] 41)).heap.size = wr.heap.size + 1 := size_alloc1 _ _
      have X1 := Lib.hid x1
      have X2 := Lib.hid x2
      have X3 := Lib.hid x3
      have X4 := Lib.hid x4
      have X5 := Lib.hid x5
      clear e0' e1' e2' e3' f0' f1' f2' f3' x1 x2 x3 x4 x5 t0 t1 t2 t3 t4 t5 t6 t7
      generalize (wr.alloc (.cells #[.string f.name, .int .i64 f.way, .int .i64 f.kind, .slice A1 f.kids.length c1] 41)) = w5 at *
      obtain ⟨k0, k1, k2, k3⟩ : w5.cell? ⟨wr.heap.size, 0, none⟩ = some (.string f.name) ∧ w5.cell? ⟨wr.heap.size, 1, none⟩ = some (.int .i64 f.way) ∧ w5.cell? ⟨wr.heap.size, 2, none⟩ = some (.int .i64 f.kind) ∧ w5.cell? ⟨wr.heap.size, 3, none⟩ = some (.slice A1 f.kids.length c1) := ⟨x0.cell 0, x0.cell 1, x0.cell 2, x0.cell 3⟩
      have m0 : w5.cell? ⟨w.heap.size + 1, 7, none⟩ = some v := X2.out.cell 7
      clear x0
      have hsz56 : w.heap.size + 1 < w5.heap.size := by omega
      refine Upto.region (m := 11) (S := (fun w' => w'.cell? ⟨wr.heap.size, 0, none⟩ = some (.string f.name) ∧ w'.cell? ⟨wr.heap.size, 1, none⟩ = some (.int .i64 f.way) ∧ w'.cell? ⟨wr.heap.size, 2, none⟩ = some (.int .i64 f.kind) ∧ w'.cell? ⟨wr.heap.size, 3, none⟩ = some (.slice A1 f.kids.length c1) ∧ w'.cell? ⟨b', o' + j * 4, none⟩ = some (.bool d.none) ∧ w'.cell? ⟨b', o' + j * 4 + 1, none⟩ = some (.int .i64 d.num) ∧ w'.cell? ⟨b', o' + j * 4 + 2, none⟩ = some (.string d.text) ∧ w'.cell? ⟨b', o' + j * 4 + 3, none⟩ = some (.slice A3 d.items.length c3) ∧ w'.cell? ⟨w.heap.size + 1, 7, none⟩ = some v)) (by kernel_rfl) ?_ (fun hHeld => ?_)
      · exact ⟨k0, k1, k2, k3, e0, e1, e2, e3, m0⟩
      refine Upto.take (i := 0) (v := ?_) at0 (by kernel_rfl) (by kernel_rfl) (by kernel_rfl) (by kernel_rfl) (fun _ _ _ h => h) (by rfl) ?_ hHeld ?_
      rotate_left
      · intro w hSw
        try dsimp only at hSw
        go_simp
        try with_reducible rfl
      try simp only [Act.put, List.setIfInBounds_toArray, List.set_cons_zero, List.set_cons_succ]
      refine Upto.take (i := 1) (v := ?_) at1 (by kernel_rfl) (by kernel_rfl) (by kernel_rfl) (by kernel_rfl) (fun _ _ _ h => h) (by rfl) ?_ hHeld ?_
      rotate_left
      · intro w hSw
        try dsimp only at hSw
        go_simp
        try with_reducible rfl
      try simp only [Act.put, List.setIfInBounds_toArray, List.set_cons_zero, List.set_cons_succ]
      refine Upto.take (i := 2) (v := ?_) at2 (by kernel_rfl) (by kernel_rfl) (by kernel_rfl) (by kernel_rfl) (fun _ _ _ h => h) (by rfl) ?_ hHeld ?_
      rotate_left
      · intro w hSw
        try dsimp only at hSw
        go_simp
        try with_reducible rfl
      try simp only [Act.put, List.setIfInBounds_toArray, List.set_cons_zero, List.set_cons_succ]
      refine Upto.take (i := 3) (v := ?_) at3 (by kernel_rfl) (by kernel_rfl) (by kernel_rfl) (by kernel_rfl) (fun _ _ _ h => h) (by rfl) ?_ hHeld ?_
      rotate_left
      · intro w hSw
        try dsimp only at hSw
        go_simp
        try with_reducible rfl
      try simp only [Act.put, List.setIfInBounds_toArray, List.set_cons_zero, List.set_cons_succ]
      refine Upto.take (i := 4) (v := ?_) at4 (by kernel_rfl) (by kernel_rfl) (by kernel_rfl) (by kernel_rfl) (fun _ _ _ h => h) (by rfl) ?_ hHeld ?_
      rotate_left
      · intro w hSw
        try dsimp only at hSw
        go_simp
        try with_reducible rfl
      try simp only [Act.put, List.setIfInBounds_toArray, List.set_cons_zero, List.set_cons_succ]
      refine Upto.take (i := 5) (v := ?_) at5 (by kernel_rfl) (by kernel_rfl) (by kernel_rfl) (by kernel_rfl) (fun _ _ _ h => h) (by rfl) ?_ hHeld ?_
      rotate_left
      · intro w hSw
        try dsimp only at hSw
        go_simp
        try with_reducible rfl
      try simp only [Act.put, List.setIfInBounds_toArray, List.set_cons_zero, List.set_cons_succ]
      refine Upto.take (i := 6) (v := ?_) at6 (by kernel_rfl) (by kernel_rfl) (by kernel_rfl) (by kernel_rfl) (fun _ _ _ h => h) (by rfl) ?_ hHeld ?_
      rotate_left
      · intro w hSw
        try dsimp only at hSw
        go_simp
        try with_reducible rfl
      try simp only [Act.put, List.setIfInBounds_toArray, List.set_cons_zero, List.set_cons_succ]
      refine Upto.step (i := 7) (by kernel_rfl) at7 (fun K' hK => ?_)
      go_simp
      go_at_call 82
      refine (HIN.out _ j f d t A1 c1 A3 c3 HF.out HD.out HT.out X4.out.drew (HFK.out.mono X4.out.drew (Nat.le_refl _)) (HDK.out.mono X4.out.drew (Nat.le_refl _))).mono ?_
      rintro e w6 ⟨D6, dn6, dc6, u6, A6, c6, rfl, hat6, hb6⟩
      have hbA : Below w5.heap.size w5 w6 := below_of_drew hb6
      have hszA : w5.heap.size ≤ w6.heap.size := hbA.size
      have m1 : w6.cell? ⟨w.heap.size + 1, 7, none⟩ = some v := (bcell hbA (by omega)).trans m0
      have m2 : (w6.alloc (.cells (trCells t.k D6 dn6 dc6 u6 (kdOf (t.k != 2) t.lk) A6 t.items.length c6) 79)).cell? ⟨w.heap.size + 1, 7, none⟩ = some v := (cold (by omega)).trans m1
      have HOWN6 := Lib.hid ((X3.out.kept (row := none) ⟨hbA.os, hbA.tape, hbA.output, hbA.size, fun k hk _ => hbA.block k hk⟩ (by cases v.ownBlock <;> simp)).alloc (.cells (trCells t.k D6 dn6 dc6 u6 (kdOf (t.k != 2) t.lk) A6 t.items.length c6) 79))
      try go_wp2_with fail
      refine hK.out _ _ (.inr ?_) (fun hHeld1 => ?_)
      · exact ⟨(bcell hbA (by omega)).trans k0, (bcell hbA (by omega)).trans k1, (bcell hbA (by omega)).trans k2, (bcell hbA (by omega)).trans k3, (bcell hbA (by omega)).trans e0, (bcell hbA (by omega)).trans e1, (bcell hbA (by omega)).trans e2, (bcell hbA (by omega)).trans e3, m1⟩
      clear hK K'
      replace hHeld := hHeld1.resolve_left (by decide)
      clear hHeld1
      try simp only [Act.put, List.setIfInBounds_toArray, List.set_cons_zero, List.set_cons_succ]
      refine Upto.step (i := 8) (by kernel_rfl) at8 (fun K' hK => ?_)
      go_simp
      refine hK.out _ _ (.inr ?_) (fun hHeld1 => ?_)
      · exact ⟨(cold (by omega)).trans ((bcell hbA (by omega)).trans k0), (cold (by omega)).trans ((bcell hbA (by omega)).trans k1), (cold (by omega)).trans ((bcell hbA (by omega)).trans k2), (cold (by omega)).trans ((bcell hbA (by omega)).trans k3), (cold (by omega)).trans ((bcell hbA (by omega)).trans e0), (cold (by omega)).trans ((bcell hbA (by omega)).trans e1), (cold (by omega)).trans ((bcell hbA (by omega)).trans e2), (cold (by omega)).trans ((bcell hbA (by omega)).trans e3), m2⟩
      clear hK K'
      replace hHeld := hHeld1.resolve_left (by decide)
      clear hHeld1
      try simp only [Act.put, List.setIfInBounds_toArray, List.set_cons_zero, List.set_cons_succ]
      refine Upto.step (i := 9) (by kernel_rfl) at9 (fun K' hK => ?_)
      refine step_append_lies _ (by rfl) _ _ 77 (by rfl) (w.heap.size + 2) 79 i79 _ 8 72 Tryz.underlying77 J1.out J2.out J3.out J4.out rfl (by decide) v j xs (by rfl) HOWN6.out ⟨w6.heap.size, 0, none⟩ 1 1 ((trCells t.k D6 dn6 dc6 u6 (kdOf (t.k != 2) t.lk) A6 t.items.length c6).toList) (by rfl) rfl (World.news_of_block (heap_alloc_new w6 _)) (by simp [Value.oneCell']) (by decide) (by simp only [maxLen]; omega) (by omega) (by simp only [size_alloc1]; omega) _ rfl ?_
      intro g cap w7 hown7 hgrow hat7 hlt7
      have hgr : ∀ b i, b < w5.heap.size → (b < w.heap.size + 2 ∨ wr.heap.size ≤ b) → w7.cell? ⟨b, i, none⟩ = w5.cell? ⟨b, i, none⟩ := fun b i h1 h2 =>
        (World.cell?_of_block (a := ⟨b, i, none⟩) (hgrow.block b (by simp only [size_alloc1]; omega) (fun he => by have := HOWN.out.lt b he.symm; omega))).trans ((cold (by omega)).trans (bcell hbA h1))
      have hst : ∀ v b i, b ≠ w.heap.size + 1 → (w7.setCell ⟨w.heap.size + 1, 7, none⟩ v).cell? ⟨b, i, none⟩ = w7.cell? ⟨b, i, none⟩ := fun v b i hne => World.cell?_of_block (a := ⟨b, i, none⟩) (setCell_other _ _ _ hne)
      have m3 : w7.cell? ⟨w.heap.size + 1, 7, none⟩ = some v := (hgr _ _ (by omega) (by omega)).trans m0
      have m4 : w7.frozen? ⟨w.heap.size + 1, 7, none⟩ = false := (World.frozen?_of_block (a := ⟨w.heap.size + 1, 7, none⟩) ((hgrow.block (w.heap.size + 1) (by simp only [size_alloc1]; omega) (fun he => by have := HOWN.out.lt _ he.symm; omega)).trans ((Below.heap_alloc w6 _ _ (by omega)).trans (hbA.block _ (by omega))))).trans (X2.out.free 7)
      refine hK.out _ _ (.inr ?_) (fun hHeld1 => ?_)
      · exact ⟨(hgr _ _ (by omega) (by omega)).trans k0, (hgr _ _ (by omega) (by omega)).trans k1, (hgr _ _ (by omega) (by omega)).trans k2, (hgr _ _ (by omega) (by omega)).trans k3, (hgr _ _ (by omega) (by omega)).trans e0, (hgr _ _ (by omega) (by omega)).trans e1, (hgr _ _ (by omega) (by omega)).trans e2, (hgr _ _ (by omega) (by omega)).trans e3, m3⟩
      clear hK K'
      replace hHeld := hHeld1.resolve_left (by decide)
      clear hHeld1
      try simp only [Act.put, List.setIfInBounds_toArray, List.set_cons_zero, List.set_cons_succ]
      refine Upto.take (i := 10) (v := ?_) at10 (by kernel_rfl) (by kernel_rfl) (by kernel_rfl) (by kernel_rfl) (fun _ _ _ h => h) (by rfl) ?_ hHeld ?_
      rotate_left
      · intro w hSw
        try dsimp only at hSw
        go_simp
        try with_reducible rfl
      try simp only [Act.put, List.setIfInBounds_toArray, List.set_cons_zero, List.set_cons_succ]
      refine Upto.step (i := 11) (by kernel_rfl) at11 (fun K' hK => ?_)
      go_simp
      refine hK.out _ _ (.inl rfl) (fun _ => ?_)
      clear hK K'
      try simp only [Act.put, List.setIfInBounds_toArray, List.set_cons_zero, List.set_cons_succ]
      refine Upto.done (by kernel_rfl) ?_ _
      all_goals
        go_wp2_with fail
        obtain ⟨hz1, hz2⟩ := step_flat (L := w.heap.size + 1) X3.out X5.out (by omega) (by omega) (by omega) hbA hat6 hown7 hgrow (hat7.imp_right fun h => h.trans (size_alloc1 _ _)) (.slice (some ⟨g, 0, none⟩) (j + 1) cap)
        have hblk : ∀ b, b < w.heap.size + 2 → w7.heap[b]? = w5.heap[b]? := fun b h1 => (hgrow.block b (by simp only [size_alloc1]; omega) (fun he => by have := HOWN.out.lt b he.symm; omega)).trans ((Below.heap_alloc w6 _ _ (by omega)).trans (hbA.block _ (by omega)))
        refine ⟨⟨j + 1, _, _, by omega, by go_num, (X1.out.of_eq (hblk _ (by omega))).of_eq (setCell_other _ _ _ (by simp)), (X2.out.of_eq (hblk _ (by omega))).set 7 _, hz1, ?_, below_setCell ⟨?_, ?_, ?_, ?_, fun b hb => (hblk b (by omega)).trans (X4.out.block b hb)⟩ (by simp) _⟩, by simp [intOf]; omega⟩
        · rw [List.take_add_one, HT.out]
          exact hz2
        · exact hgrow.os.trans (hbA.os.trans X4.out.os)
        · exact hgrow.tape.trans (hbA.tape.trans X4.out.tape)
        · exact hgrow.output.trans (hbA.output.trans X4.out.output)
        · have h1 := hgrow.size
          simp only [size_alloc1] at h1
          omega
    · obtain rfl : j = n := by omega
      obtain ⟨A', c', rfl, htr⟩ := trsAt_owns HOWN.out (by rw [List.length_take, hts, Nat.min_self]) HFLAT.out (Nat.le_refl _) (Nat.le_refl _)
      rw [List.take_of_length_le (by omega)] at htr
      have HTR := Lib.hid htr
      obtain ⟨t0, t1, t2, t3, t4, t5, t6, t7⟩ := hr2.c8
      obtain ⟨g0, g1, g2, g3, g4, g5, g6, g7⟩ := hr1.c8
      have y0 := hr1.free 0
      have y1 := hr1.free 1
      have y2 := hr1.free 2
      have y3 := hr1.free 3
      have y4 := hr1.free 4
      have y5 := hr1.free 5
      have y6 := hr1.free 6
      have y7 := hr1.free 7
      clear htr hr1 hr2 hb5
      go_wp2_with fail
      (try simp only [Exit.inBlock, Exit.then])
      refine bodyPost_ret (results_cell_row rfl _ _ _ 79 _ (0, 0) _ rfl (HR1.out.set8 _ _ _ _ _ _ _ _) Tryz.underlying79 rfl size79) rfl ?_
      have hlen : (Tr.mk 4 0 0 .empty ts).items.length = j := hts
      refine ⟨none, 0, 0, 0, A', c', by rw [hlen]; rfl, ⟨.null _ _ _, ?_⟩, below_set8 HB5.out (g := w.heap.size) (Nat.le_refl _) _ _ _ _ _ _ _ _⟩
      rw [hlen]
      exact HTR.out.frame (fun b h3 _ => set8_frame _ _ _ _ _ _ _ _ _ _ (by omega)) (by omega) (by simp only [setCell_size]; exact Nat.le_refl _)
end Go.Proofs.YtglgclkgppomiaaGreat

namespace Go.Proofs.YtglgclkgppomiaaGreat
open Go Go.RowKit

set_option maxRecDepth 100000 in
set_option maxHeartbeats 4000000 in
theorem tree82_rep (name : ByteArray) (k : Int) (nn : Bool) (num : Int) (txt : ByteArray) (ds : List Dt) (ts : List Tr) (A : Option Addr) (n c : Nat) (A2 : Option Addr) (n2 c2 : Nat) (w : World) (hds : DtsAt w w.heap.size A2 n2 c2 ds) (hts : ts.length = n2) (hn : n2 ≤ 1000000)
    (hin : ∀ (W : World) (j : Nat) (d : Dt) (t : Tr) (A2 : Option Addr) (c2 : Nat), ds[j]? = some d → ts[j]? = some t → Below w.heap.size w W → DtsAt W w.heap.size A2 d.items.length c2 d.items →
      Calls Tryz.prog 120 #[.agg #[.string name, .int .i64 2, .int .i64 k, .slice A n c], dtVal d A2 d.items.length c2] W (MakesTr t W)) :
    Calls Tryz.prog 82 #[.agg #[.string name, .int .i64 2, .int .i64 k, .slice A n c], .agg #[.bool nn, .int .i64 num, .string txt, .slice A2 n2 c2]] w (MakesTr (.mk 3 0 0 .empty ts) w) := by
  have HIN := Lib.hid hin
  have HDS := Lib.hid hds
  obtain ⟨i79, j1, j2, j3, j4⟩ := info_parts info79
  have J1 := Lib.hid j1
  have J2 := Lib.hid j2
  have J3 := Lib.hid j3
  have J4 := Lib.hid j4
  clear hin hds j1 j2 j3 j4
  go_enter Tryz.func82, Tryz.ntmps82
  go_wp2_with fail
  go_loopw [28] (fun i wr => ∃ (j : Nat) (v : Value) (xs : List Value), j ≤ n2 ∧ i = .int .i64 j ∧ RowB wr w.heap.size 41 #[.string name, .int .i64 2, .int .i64 k, .slice A n c] ∧ RowB wr (w.heap.size + 2) 79 (trCells 0 none 0 0 0 0 none 0 0) ∧ RowB wr (w.heap.size + 3) 79 #[.int .i8 3, .slice none 0 0, .int .u64 0, .int .i8 0, .int .u8 0, .int .u8 0, .int .u16 0, v] ∧
      wr.ownsRow (w.heap.size + 4) 79 8 v j xs ∧ FlatTr wr (w.heap.size + 4) wr.heap.size v xs (ts.take j) ∧ Below w.heap.size w wr) (fun i _ => n2 - (intOf i).toNat)
  case atStart =>
    have hS : (((w.alloc (.cells #[.string name, .int .i64 2, .int .i64 k, .slice A n c] 41)).alloc (.cells #[.bool nn, .int .i64 num, .string txt, .slice A2 n2 c2] 43)).alloc (.cells (trCells 0 none 0 0 0 0 none 0 0) 79)).heap.size = w.heap.size + 1 + 1 + 1 := by simp
    refine ⟨0, _, [], Nat.zero_le _, rfl, (((RowB.new _ _ _).alloc _).alloc _).alloc _, (rowB_new (by simp)).alloc _, rowB_new (by simp), World.ownsRow_nil _ _ _ _, FlatTr.nil _ _ _ _, ((((Below.refl _ _).alloc (Nat.le_refl _) _).alloc (by simp) _).alloc (by simp; omega) _).alloc (by rw [hS]; omega) _⟩
  case round =>
    obtain ⟨j, v, xs, hj, rfl, hr0, hr1, hr2, hown, hflat, hb5⟩ := hrel
    have HR0 := Lib.hid hr0
    have HR1 := Lib.hid hr1
    have HR2 := Lib.hid hr2
    have HOWN := Lib.hid hown
    have HFLAT := Lib.hid hflat
    have HB5 := Lib.hid hb5
    clear hown hflat
    by_cases hlt : j < n2
    · have hdl := HDS.out.len
      obtain ⟨b', o', d, A3, c3, rfl, hb', hd, e0, e1, e2, e3, hdk⟩ := HDS.out.at_ hlt
      have ht : ts[j]? = some (ts[j]'(by omega)) := List.getElem?_eq_getElem _
      generalize ts[j]'(by omega) = t at ht
      have HDK := Lib.hid hdk
      have HD := Lib.hid hd
      have HT := Lib.hid ht
      have e0' := (bcell hb5 hb').trans e0
      have e1' := (bcell hb5 hb').trans e1
      have e2' := (bcell hb5 hb').trans e2
      have e3' := (bcell hb5 hb').trans e3
      have hj0 : (0 : Int) ≤ (j : Int) := Int.natCast_nonneg _
      have hj1 : (j : Int) < (n2 : Int) := by omega
      obtain ⟨t0, t1, t2, t3, t4, t5, t6, t7⟩ := hr2.c8
      have hsz5 := hb5.size
      have hr2l := hr2.lt
      clear e0 e1 e2 e3 hdk hd ht hr0 hr1 hr2 hb5
      go_wp2_with fail
      have x0 : RowB (wr.alloc (.cells #[.bool d.none, .int .i64 d.num, .string d.text, .slice A3 d.items.length c3] 43)) wr.heap.size 43 #[.bool d.none, .int .i64 d.num, .string d.text, .slice A3 d.items.length c3] := RowB.new _ _ _
      have x7 := (HR0.out).alloc (.cells #[.bool d.none, .int .i64 d.num, .string d.text, .slice A3 d.items.length c3] 43)
      have x1 := (HR1.out).alloc (.cells #[.bool d.none, .int .i64 d.num, .string d.text, .slice A3 d.items.length c3] 43)
      have x2 := (HR2.out).alloc (.cells #[.bool d.none, .int .i64 d.num, .string d.text, .slice A3 d.items.length c3] 43)
      have x3 := HOWN.out.alloc (.cells #[.bool d.none, .int .i64 d.num, .string d.text, .slice A3 d.items.length c3] 43)
      have x4 : Below w.heap.size w (wr.alloc (.cells #[.bool d.none, .int .i64 d.num, .string d.text, .slice A3 d.items.length c3] 43)) := HB5.out.alloc hsz5 _
      have x5 : FlatTr (wr.alloc (.cells #[.bool d.none, .int .i64 d.num, .string d.text, .slice A3 d.items.length c3] 43)) (w.heap.size + 4) wr.heap.size v xs (ts.take j) := HFLAT.out.frame (fun b _ h2 _ => Below.heap_alloc wr _ b h2) (fun g hg => .inl hg) (Nat.le_refl _) (Nat.le_refl _)
      have x6 : (wr.alloc (.cells #[.bool d.none, .int .i64 d.num, .string d.text, .slice A3 d.items.length c3] 43)).heap.size = wr.heap.size + 1 := size_alloc1 _ _
      have X1 := Lib.hid x1
      have X2 := Lib.hid x2
      have X3 := Lib.hid x3
      have X4 := Lib.hid x4
      have X5 := Lib.hid x5
      have X7 := Lib.hid x7
      clear e0' e1' e2' e3' x1 x2 x3 x4 x5 x7 t0 t1 t2 t3 t4 t5 t6 t7
      generalize (wr.alloc (.cells #[.bool d.none, .int .i64 d.num, .string d.text, .slice A3 d.items.length c3] 43)) = w5 at *
      obtain ⟨k0, k1, k2, k3⟩ : w5.cell? ⟨wr.heap.size, 0, none⟩ = some (.bool d.none) ∧ w5.cell? ⟨wr.heap.size, 1, none⟩ = some (.int .i64 d.num) ∧ w5.cell? ⟨wr.heap.size, 2, none⟩ = some (.string d.text) ∧ w5.cell? ⟨wr.heap.size, 3, none⟩ = some (.slice A3 d.items.length c3) := ⟨x0.cell 0, x0.cell 1, x0.cell 2, x0.cell 3⟩
      obtain ⟨e0, e1, e2, e3⟩ : w5.cell? ⟨w.heap.size, 0, none⟩ = some (.string name) ∧ w5.cell? ⟨w.heap.size, 1, none⟩ = some (.int .i64 2) ∧ w5.cell? ⟨w.heap.size, 2, none⟩ = some (.int .i64 k) ∧ w5.cell? ⟨w.heap.size, 3, none⟩ = some (.slice A n c) := ⟨X7.out.cell 0, X7.out.cell 1, X7.out.cell 2, X7.out.cell 3⟩
      have m0 : w5.cell? ⟨w.heap.size + 3, 7, none⟩ = some v := X2.out.cell 7
      clear x0
      have hsz56 : w.heap.size + 3 < w5.heap.size := by omega
      refine Upto.region (m := 8) (S := (fun w' => w'.cell? ⟨wr.heap.size, 0, none⟩ = some (.bool d.none) ∧ w'.cell? ⟨wr.heap.size, 1, none⟩ = some (.int .i64 d.num) ∧ w'.cell? ⟨wr.heap.size, 2, none⟩ = some (.string d.text) ∧ w'.cell? ⟨wr.heap.size, 3, none⟩ = some (.slice A3 d.items.length c3) ∧ w'.cell? ⟨w.heap.size, 0, none⟩ = some (.string name) ∧ w'.cell? ⟨w.heap.size, 1, none⟩ = some (.int .i64 2) ∧ w'.cell? ⟨w.heap.size, 2, none⟩ = some (.int .i64 k) ∧ w'.cell? ⟨w.heap.size, 3, none⟩ = some (.slice A n c) ∧ w'.cell? ⟨w.heap.size + 3, 7, none⟩ = some v)) (by kernel_rfl) ?_ (fun hHeld => ?_)
      · exact ⟨k0, k1, k2, k3, e0, e1, e2, e3, m0⟩
      refine Upto.take (i := 0) (v := ?_) at0 (by kernel_rfl) (by kernel_rfl) (by kernel_rfl) (by kernel_rfl) (fun _ _ _ h => h) (by rfl) ?_ hHeld ?_
      rotate_left
      · intro w hSw
        try dsimp only at hSw
        go_simp
        try with_reducible rfl
      try simp only [Act.put, List.setIfInBounds_toArray, List.set_cons_zero, List.set_cons_succ]
      refine Upto.take (i := 1) (v := ?_) at1 (by kernel_rfl) (by kernel_rfl) (by kernel_rfl) (by kernel_rfl) (fun _ _ _ h => h) (by rfl) ?_ hHeld ?_
      rotate_left
      · intro w hSw
        try dsimp only at hSw
        go_simp
        try with_reducible rfl
      try simp only [Act.put, List.setIfInBounds_toArray, List.set_cons_zero, List.set_cons_succ]
      refine Upto.take (i := 2) (v := ?_) at2 (by kernel_rfl) (by kernel_rfl) (by kernel_rfl) (by kernel_rfl) (fun _ _ _ h => h) (by rfl) ?_ hHeld ?_
      rotate_left
      · intro w hSw
        try dsimp only at hSw
        go_simp
        try with_reducible rfl
      try simp only [Act.put, List.setIfInBounds_toArray, List.set_cons_zero, List.set_cons_succ]
      refine Upto.take (i := 3) (v := ?_) at3 (by kernel_rfl) (by kernel_rfl) (by kernel_rfl) (by kernel_rfl) (fun _ _ _ h => h) (by rfl) ?_ hHeld ?_
      rotate_left
      · intro w hSw
        try dsimp only at hSw
        go_simp
        try with_reducible rfl
      try simp only [Act.put, List.setIfInBounds_toArray, List.set_cons_zero, List.set_cons_succ]
      refine Upto.step (i := 4) (by kernel_rfl) at4 (fun K' hK => ?_)
      go_simp
      go_at_call 120
      refine (HIN.out _ j d t A3 c3 HD.out HT.out X4.out.drew (HDK.out.mono X4.out.drew (Nat.le_refl _))).mono ?_
      rintro e w6 ⟨D6, dn6, dc6, u6, A6, c6, rfl, hat6, hb6⟩
      have hbA : Below w5.heap.size w5 w6 := below_of_drew hb6
      have hszA : w5.heap.size ≤ w6.heap.size := hbA.size
      have m1 : w6.cell? ⟨w.heap.size + 3, 7, none⟩ = some v := (bcell hbA (by omega)).trans m0
      have m2 : (w6.alloc (.cells (trCells t.k D6 dn6 dc6 u6 (kdOf (t.k != 2) t.lk) A6 t.items.length c6) 79)).cell? ⟨w.heap.size + 3, 7, none⟩ = some v := (cold (by omega)).trans m1
      have HOWN6 := Lib.hid ((X3.out.kept (row := none) ⟨hbA.os, hbA.tape, hbA.output, hbA.size, fun k hk _ => hbA.block k hk⟩ (by cases v.ownBlock <;> simp)).alloc (.cells (trCells t.k D6 dn6 dc6 u6 (kdOf (t.k != 2) t.lk) A6 t.items.length c6) 79))
      try go_wp2_with fail
      refine hK.out _ _ (.inr ?_) (fun hHeld1 => ?_)
      · exact ⟨(bcell hbA (by omega)).trans k0, (bcell hbA (by omega)).trans k1, (bcell hbA (by omega)).trans k2, (bcell hbA (by omega)).trans k3, (bcell hbA (by omega)).trans e0, (bcell hbA (by omega)).trans e1, (bcell hbA (by omega)).trans e2, (bcell hbA (by omega)).trans e3, m1⟩
      clear hK K'
      replace hHeld := hHeld1.resolve_left (by decide)
      clear hHeld1
      try simp only [Act.put, List.setIfInBounds_toArray, List.set_cons_zero, List.set_cons_succ]
      refine Upto.step (i := 5) (by kernel_rfl) at5 (fun K' hK => ?_)
      go_simp
      refine hK.out _ _ (.inr ?_) (fun hHeld1 => ?_)
      · exact ⟨(cold (by omega)).trans ((bcell hbA (by omega)).trans k0), (cold (by omega)).trans ((bcell hbA (by omega)).trans k1), (cold (by omega)).trans ((bcell hbA (by omega)).trans k2), (cold (by omega)).trans ((bcell hbA (by omega)).trans k3), (cold (by omega)).trans ((bcell hbA (by omega)).trans e0), (cold (by omega)).trans ((bcell hbA (by omega)).trans e1), (cold (by omega)).trans ((bcell hbA (by omega)).trans e2), (cold (by omega)).trans ((bcell hbA (by omega)).trans e3), m2⟩
      clear hK K'
      replace hHeld := hHeld1.resolve_left (by decide)
      clear hHeld1
      try simp only [Act.put, List.setIfInBounds_toArray, List.set_cons_zero, List.set_cons_succ]
      refine Upto.step (i := 6) (by kernel_rfl) at6 (fun K' hK => ?_)
      refine step_append_lies _ (by rfl) _ _ 77 (by rfl) (w.heap.size + 4) 79 i79 _ 8 72 Tryz.underlying77 J1.out J2.out J3.out J4.out rfl (by decide) v j xs (by rfl) HOWN6.out ⟨w6.heap.size, 0, none⟩ 1 1 ((trCells t.k D6 dn6 dc6 u6 (kdOf (t.k != 2) t.lk) A6 t.items.length c6).toList) (by rfl) rfl (World.news_of_block (heap_alloc_new w6 _)) (by simp [Value.oneCell']) (by decide) (by simp only [maxLen]; omega) (by omega) (by simp only [size_alloc1]; omega) _ rfl ?_
      intro g cap w7 hown7 hgrow hat7 hlt7
      have hgr : ∀ b i, b < w5.heap.size → (b < w.heap.size + 4 ∨ wr.heap.size ≤ b) → w7.cell? ⟨b, i, none⟩ = w5.cell? ⟨b, i, none⟩ := fun b i h1 h2 =>
        (World.cell?_of_block (a := ⟨b, i, none⟩) (hgrow.block b (by simp only [size_alloc1]; omega) (fun he => by have := HOWN.out.lt b he.symm; omega))).trans ((cold (by omega)).trans (bcell hbA h1))
      have hst : ∀ v b i, b ≠ w.heap.size + 3 → (w7.setCell ⟨w.heap.size + 3, 7, none⟩ v).cell? ⟨b, i, none⟩ = w7.cell? ⟨b, i, none⟩ := fun v b i hne => World.cell?_of_block (a := ⟨b, i, none⟩) (setCell_other _ _ _ hne)
      have m3 : w7.cell? ⟨w.heap.size + 3, 7, none⟩ = some v := (hgr _ _ (by omega) (by omega)).trans m0
      have m4 : w7.frozen? ⟨w.heap.size + 3, 7, none⟩ = false := (World.frozen?_of_block (a := ⟨w.heap.size + 3, 7, none⟩) ((hgrow.block (w.heap.size + 3) (by simp only [size_alloc1]; omega) (fun he => by have := HOWN.out.lt _ he.symm; omega)).trans ((Below.heap_alloc w6 _ _ (by omega)).trans (hbA.block _ (by omega))))).trans (X2.out.free 7)
      refine hK.out _ _ (.inr ?_) (fun hHeld1 => ?_)
      · exact ⟨(hgr _ _ (by omega) (by omega)).trans k0, (hgr _ _ (by omega) (by omega)).trans k1, (hgr _ _ (by omega) (by omega)).trans k2, (hgr _ _ (by omega) (by omega)).trans k3, (hgr _ _ (by omega) (by omega)).trans e0, (hgr _ _ (by omega) (by omega)).trans e1, (hgr _ _ (by omega) (by omega)).trans e2, (hgr _ _ (by omega) (by omega)).trans e3, m3⟩
      clear hK K'
      replace hHeld := hHeld1.resolve_left (by decide)
      clear hHeld1
      try simp only [Act.put, List.setIfInBounds_toArray, List.set_cons_zero, List.set_cons_succ]
      refine Upto.take (i := 7) (v := ?_) at7 (by kernel_rfl) (by kernel_rfl) (by kernel_rfl) (by kernel_rfl) (fun _ _ _ h => h) (by rfl) ?_ hHeld ?_
      rotate_left
      · intro w hSw
        try dsimp only at hSw
        go_simp
        try with_reducible rfl
      try simp only [Act.put, List.setIfInBounds_toArray, List.set_cons_zero, List.set_cons_succ]
      refine Upto.step (i := 8) (by kernel_rfl) at8 (fun K' hK => ?_)
      go_simp
      refine hK.out _ _ (.inl rfl) (fun _ => ?_)
      clear hK K'
      try simp only [Act.put, List.setIfInBounds_toArray, List.set_cons_zero, List.set_cons_succ]
      refine Upto.done (by kernel_rfl) ?_ _
      all_goals
        go_wp2_with fail
        obtain ⟨hz1, hz2⟩ := step_flat (L := w.heap.size + 3) X3.out X5.out (by omega) (by omega) (by omega) hbA hat6 hown7 hgrow (hat7.imp_right fun h => h.trans (size_alloc1 _ _)) (.slice (some ⟨g, 0, none⟩) (j + 1) cap)
        have hblk : ∀ b, b < w.heap.size + 4 → w7.heap[b]? = w5.heap[b]? := fun b h1 => (hgrow.block b (by simp only [size_alloc1]; omega) (fun he => by have := HOWN.out.lt b he.symm; omega)).trans ((Below.heap_alloc w6 _ _ (by omega)).trans (hbA.block _ (by omega)))
        refine ⟨⟨j + 1, _, _, by omega, by go_num, (X7.out.of_eq (hblk _ (by omega))).of_eq (setCell_other _ _ _ (show w.heap.size ≠ w.heap.size + 3 by omega)), (X1.out.of_eq (hblk _ (by omega))).of_eq (setCell_other _ _ _ (show w.heap.size + 2 ≠ w.heap.size + 3 by omega)), (X2.out.of_eq (hblk _ (by omega))).set 7 _, hz1, ?_, below_setCell ⟨?_, ?_, ?_, ?_, fun b hb => (hblk b (by omega)).trans (X4.out.block b hb)⟩ (show w.heap.size ≤ w.heap.size + 3 by omega) _⟩, by simp [intOf]; omega⟩
        · rw [List.take_add_one, HT.out]
          exact hz2
        · exact hgrow.os.trans (hbA.os.trans X4.out.os)
        · exact hgrow.tape.trans (hbA.tape.trans X4.out.tape)
        · exact hgrow.output.trans (hbA.output.trans X4.out.output)
        · have h1 := hgrow.size
          simp only [size_alloc1] at h1
          omega
    · obtain rfl : j = n2 := by omega
      obtain ⟨A', c', rfl, htr⟩ := trsAt_owns HOWN.out (by rw [List.length_take, hts, Nat.min_self]) HFLAT.out (Nat.le_refl _) (Nat.le_refl _)
      rw [List.take_of_length_le (by omega)] at htr
      have HTR := Lib.hid htr
      obtain ⟨t0, t1, t2, t3, t4, t5, t6, t7⟩ := hr2.c8
      obtain ⟨g0, g1, g2, g3, g4, g5, g6, g7⟩ := hr1.c8
      have y0 := hr1.free 0
      have y1 := hr1.free 1
      have y2 := hr1.free 2
      have y3 := hr1.free 3
      have y4 := hr1.free 4
      have y5 := hr1.free 5
      have y6 := hr1.free 6
      have y7 := hr1.free 7
      clear htr hr0 hr1 hr2 hb5
      go_wp2_with fail
      (try simp only [Exit.inBlock, Exit.then])
      refine bodyPost_ret (results_cell_row rfl _ _ _ 79 _ (0, 0) _ rfl (HR1.out.set8 _ _ _ _ _ _ _ _) Tryz.underlying79 rfl size79) rfl ?_
      have hlen : (Tr.mk 3 0 0 .empty ts).items.length = j := hts
      refine ⟨none, 0, 0, 0, A', c', by rw [hlen]; rfl, ⟨.null _ _ _, ?_⟩, below_set8 HB5.out (g := w.heap.size + 2) (by omega) _ _ _ _ _ _ _ _⟩
      rw [hlen]
      exact HTR.out.frame (fun b h3 _ => set8_frame _ _ _ _ _ _ _ _ _ _ (by omega)) (by omega) (by simp only [setCell_size]; exact Nat.le_refl _)
end Go.Proofs.YtglgclkgppomiaaGreat

namespace Go.Proofs.YtglgclkgppomiaaGreat
open Go Go.RowKit

theorem rowGo_at {fs : List Fd} {ds : List Dt} {n m : Nat} (h : rowGo fs ds n = some m) {j : Nat} {f : Fd} {d : Dt} (hf : fs[j]? = some f) (hd : ds[j]? = some d) : ∃ k, dataC f d = some k := by
  rw [rowGo_split fs ds j f d n hf hd] at h
  split at h
  · cases h
  · split at h
    · cases h
    · exact ⟨_, by assumption⟩
theorem itemsGo_at {once : Dt → Option Nat} {ds : List Dt} {n m : Nat} (h : itemsGo once ds n = some m) {j : Nat} {d : Dt} (hd : ds[j]? = some d) : ∃ k, once d = some k := by
  rw [itemsGo_split once ds j d n hd] at h
  split at h
  · cases h
  · split at h
    · cases h
    · exact ⟨_, by assumption⟩
theorem itemsGo_len {once : Dt → Option Nat} (hp : ∀ x k, once x = some k → 1 ≤ k) : ∀ (ds : List Dt) (n m : Nat), itemsGo once ds n = some m → n + ds.length ≤ m
  | [], n, m, h => by simp [itemsGo] at h; simp [h]
  | d :: ds, n, m, h => by
    simp only [itemsGo] at h
    split at h
    · cases h
    · split at h
      · cases h
      · have h1 := itemsGo_len hp ds _ m h
        have h2 := hp d _ (by assumption)
        simp only [List.length_cons]; omega
theorem onceC_pos (f : Fd) (x : Dt) (k : Nat) (h : onceC f x = some k) : 1 ≤ k := by
  by_cases hk : f.kids = []
  · rw [onceC_leaf hk] at h
    split at h
    · injection h with h; omega
    · cases h
  · rw [onceC_group hk] at h
    split at h
    · split at h
      · cases h
      · injection h with h; omega
    · cases h
theorem plainOk_num {k : Int} {d : Dt} (h : plainOk k d = true) : numOk k d.num := by
  unfold plainOk at h
  split at h
  · cases h
  · refine ⟨fun hk => ?_, fun hk => ?_, fun hk => ?_⟩
    · subst hk; simp at h; exact h.2
    · subst hk; simp at h; omega
    · subst hk; simp at h; omega
theorem headDt_get {ds : List Dt} {j : Nat} {d : Dt} (h : ds[j]? = some d) : headDt (ds.drop j) = d := by
  obtain ⟨hl, h⟩ := List.getElem?_eq_some_iff.1 h
  rw [List.drop_eq_getElem_cons hl, h]; rfl

def FldsIn (N : Nat) : Prop := ∀ (fs : List Fd) (ds : List Dt) (dp : Int) (n0 m : Nat) (A : Option Addr) (n c : Nat) (A2 : Option Addr) (n2 c2 : Nat) (w : World), fdsSize fs ≤ N → OkL fs dp → rowGo fs ds n0 = some m → FdsAt w w.heap.size A n c fs → DtsAt w w.heap.size A2 n2 c2 ds →
  Calls Tryz.prog 51 #[.slice A n c, .slice A2 n2 c2] w (MakesTr (.mk 4 0 0 .empty (trFields fs ds)) w)

/-- What impl.inner makes of a field that is there. -/
theorem inner_any (N : Nat) (ih : FldsIn N) (f : Fd) (d : Dt) (dp : Int) (k : Nat) (way : Int) (A : Option Addr) (n c : Nat) (A2 : Option Addr) (n2 c2 : Nat) (w : World) (hs : fdSize f ≤ N + 1) (hl : f.kids = [] → isKd f.kind = true) (hg : f.kids ≠ [] → OkL f.kids dp) (hk : onceC f d = some k)
    (hfs : FdsAt w w.heap.size A n c f.kids) (hds : DtsAt w w.heap.size A2 n2 c2 d.items) :
    Calls Tryz.prog 120 #[.agg #[.string f.name, .int .i64 way, .int .i64 f.kind, .slice A n c], .agg #[.bool d.none, .int .i64 d.num, .string d.text, .slice A2 n2 c2]] w (MakesTr (trOnce f d) w) := by
  have hfl := hfs.len
  by_cases hkd : f.kids = []
  · rw [onceC_leaf hkd] at hk
    have hp : plainOk f.kind d = true := by
      by_cases hp : plainOk f.kind d = true
      · exact hp
      · rw [if_neg hp] at hk; cases hk
    have hn : n = 0 := by rw [hkd] at hfl; simp at hfl; omega
    subst hn
    have := inner120_leaf f.name way f.kind d A c A2 n2 c2 (hl hkd) (plainOk_num hp) (by have := plainOk_text hp; omega) w
    have e : trOnce f d = .mk 2 f.kind d.num d.text [] := by
      rw [← trOnce_bare, hkd, trOnce_leaf]
    rw [e]
    exact this
  · rw [onceC_group hkd] at hk
    have hr : ∃ m, rowGo f.kids d.items 0 = some m := by
      split at hk
      · split at hk
        · cases hk
        · exact ⟨_, by assumption⟩
      · cases hk
    obtain ⟨m, hr⟩ := hr
    have hn : n ≠ 0 := by
      have : 0 < f.kids.length := List.length_pos_iff.2 hkd
      omega
    have e : trOnce f d = .mk 4 0 0 .empty (trFields f.kids d.items) := by
      rw [← trOnce_bare, trOnce_group _ _ hkd]
    rw [e]
    exact inner120_group f.name way f.kind d.none d.num d.text A n c A2 n2 c2 hn _ w fun W hW => ih f.kids d.items dp 0 m A n c A2 n2 c2 W (by have := fdSize_kids f; omega) (hg hkd) hr (hfs.mono hW hW.size) (hds.mono hW hW.size)

/-- What impl.tree makes of a field. -/
theorem tree_any (N : Nat) (ih : FldsIn N) (f : Fd) (d : Dt) (dp : Int) (k : Nat) (A : Option Addr) (n c : Nat) (A2 : Option Addr) (n2 c2 : Nat) (w : World) (hs : fdSize f ≤ N + 1) (h0 : 0 ≤ f.way) (h2 : f.way ≤ 2) (hl : f.kids = [] → isKd f.kind = true) (hg : f.kids ≠ [] → OkL f.kids dp) (hk : dataC f d = some k)
    (hfs : FdsAt w w.heap.size A n c f.kids) (hds : DtsAt w w.heap.size A2 n2 c2 d.items) :
    Calls Tryz.prog 82 #[.agg #[.string f.name, .int .i64 f.way, .int .i64 f.kind, .slice A n c], .agg #[.bool d.none, .int .i64 d.num, .string d.text, .slice A2 n2 c2]] w (MakesTr (trField f.way (fun d => trOnce f d) d) w) := by
  have hw : f.way = 0 ∨ f.way = 1 ∨ f.way = 2 := by omega
  unfold dataC dataOf at hk
  unfold trField
  rcases hw with hw | hw | hw
  · simp only [hw] at hk ⊢
    rw [if_neg (by simp), if_neg (by simp)] at hk
    rw [if_neg (by simp), if_pos (by simp)]
    exact tree82_req f.name f.kind d.none d.num d.text A n c A2 n2 c2 _ w fun W hW => inner_any N ih f d dp k 0 A n c A2 n2 c2 W hs hl hg hk (hfs.mono hW hW.size) (hds.mono hW hW.size)
  · simp only [hw] at hk ⊢
    cases hdn : d.none with
    | true =>
      rw [if_pos (by simp)]
      exact tree82_null f.name f.kind d.num d.text A n c A2 n2 c2 w
    | false =>
      rw [hdn, if_neg (by simp), if_neg (by simp)] at hk
      rw [if_neg (by simp), if_pos (by simp)]
      refine tree82_there f.name f.kind d.num d.text A n c A2 n2 c2 _ w fun W hW => ?_
      have := inner_any N ih f d dp k 1 A n c A2 n2 c2 W hs hl hg hk (hfs.mono hW hW.size) (hds.mono hW hW.size)
      rwa [hdn] at this
  · simp only [hw] at hk ⊢
    rw [if_neg (by simp), if_pos (by simp)] at hk
    rw [if_neg (by simp), if_neg (by simp)]
    have hi : itemsGo (onceC f) d.items 1 = some k := by
      split at hk
      · exact hk
      · cases hk
    have hlen := itemsGo_len (onceC_pos f) _ _ _ hi
    have hle := itemsGo_le _ _ _ _ hi
    have hdl := hds.len
    refine tree82_rep f.name f.kind d.none d.num d.text d.items _ A n c A2 n2 c2 w hds (by simp; exact hdl.1) (by omega) fun W j x t A3 c3 hx ht hW hxs => ?_
    rw [List.getElem?_map, hx] at ht
    simp only [Option.map_some, Option.some.injEq] at ht
    subst ht
    obtain ⟨kx, hkx⟩ := itemsGo_at hi hx
    exact inner_any N ih f x dp kx 2 A n c A3 x.items.length c3 W hs hl hg hkx (hfs.mono hW hW.size) (hxs.mono (Below.refl _ _) hW.size)

theorem fldsIn_all : ∀ N, N ≤ 1000000 → FldsIn N
  | 0, _ => fun fs ds dp n0 m A n c A2 n2 c2 w hs hok hr hfs hds => by
    have h0 := fdsSize_length fs
    have hfs0 : fs = [] := List.eq_nil_of_length_eq_zero (by omega)
    have h1 := rowGo_len _ _ _ _ hr
    have hl := hfs.len
    have hl2 := hds.len
    obtain rfl : n2 = n := by omega
    refine fields51 fs ds _ A n2 c A2 c2 w hfs hds (by rw [trFields_length]; exact hl.1) (by subst hfs0; simp at hl; omega) fun W j f d t A c A2 c2 hf => ?_
    subst hfs0
    simp at hf
  | N + 1, hN => fun fs ds dp n0 m A n c A2 n2 c2 w hs hok hr hfs hds => by
    have ih := fldsIn_all N (by omega)
    have h0 := fdsSize_length fs
    have h1 := rowGo_len _ _ _ _ hr
    have hl := hfs.len
    have hl2 := hds.len
    obtain rfl : n2 = n := by omega
    refine fields51 fs ds _ A n2 c A2 c2 w hfs hds (by rw [trFields_length]; exact hl.1) (by omega) fun W j f d t A3 c3 A4 c4 hf hd ht hW hfk hdk => ?_
    have e := trFields_get fs ds j f hf
    rw [e, headDt_get hd] at ht
    injection ht with ht
    subst ht
    obtain ⟨kx, hkx⟩ := rowGo_at hr hf hd
    obtain ⟨a0, a1, _, a2, a3⟩ := hok.at_ hf
    exact tree_any N ih f d (dp + 1) kx A3 f.kids.length c3 A4 d.items.length c4 W (by have := fdsSize_get fs j f hf; omega) a0 a1 a2 (fun h => (a3 h).2) hkx (hfk.mono (Below.refl _ _) hW.size) (hdk.mono (Below.refl _ _) hW.size)
end Go.Proofs.YtglgclkgppomiaaGreat
