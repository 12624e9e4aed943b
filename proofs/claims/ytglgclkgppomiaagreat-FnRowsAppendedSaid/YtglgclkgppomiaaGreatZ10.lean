/- The walks of the small functions on trees: IsValid, isNullValue, Len, Index, Field. The walks of the makers of values (printed by tools/gen_w29.py). The walks of deconstructFuncOf and its kin: the closures that take a row apart are made. The walks of reconstructFuncOfLeaf and reconstructFuncOfGroup. The walks of reconstructFuncOf, OfRequired, OfOptional, OfRepeated: the closures that put a row together are made. The walks of deconstructFuncOf, OfRequired, OfOptional, OfRepeated: the closures that take a row apart are made. -/
import Derived.Test.YtglgclkgppomiaaGreatZ04
import Derived.Test.YtglgclkgppomiaaGreatZ05
import Derived.Test.YtglgclkgppomiaaGreatZ08
import Derived.Test.YtglgclkgppomiaaGreatZ09
set_option linter.unusedVariables false
set_option linter.unusedSimpArgs false
namespace Go.Proofs.YtglgclkgppomiaaGreat
open Go Go.RowKit
theorem RowB.c3 {w : World} {g : Nat} {t : TypeId} {a b c : Value} (h : RowB w g t #[a, b, c]) : w.cell? ⟨g, 0, none⟩ = some a ∧ w.cell? ⟨g, 1, none⟩ = some b ∧ w.cell? ⟨g, 2, none⟩ = some c := ⟨h.cell 0, h.cell 1, h.cell 2⟩
theorem RowB.c6 {w : World} {g : Nat} {t : TypeId} {a b c d e f : Value} (h : RowB w g t #[a, b, c, d, e, f]) : w.cell? ⟨g, 0, none⟩ = some a ∧ w.cell? ⟨g, 1, none⟩ = some b ∧ w.cell? ⟨g, 2, none⟩ = some c ∧ w.cell? ⟨g, 3, none⟩ = some d ∧
    w.cell? ⟨g, 4, none⟩ = some e ∧ w.cell? ⟨g, 5, none⟩ = some f := ⟨h.cell 0, h.cell 1, h.cell 2, h.cell 3, h.cell 4, h.cell 5⟩
theorem RowB.c8 {w : World} {g : Nat} {t : TypeId} {a b c d e f i j : Value} (h : RowB w g t #[a, b, c, d, e, f, i, j]) : w.cell? ⟨g, 0, none⟩ = some a ∧ w.cell? ⟨g, 1, none⟩ = some b ∧ w.cell? ⟨g, 2, none⟩ = some c ∧ w.cell? ⟨g, 3, none⟩ = some d ∧
    w.cell? ⟨g, 4, none⟩ = some e ∧ w.cell? ⟨g, 5, none⟩ = some f ∧ w.cell? ⟨g, 6, none⟩ = some i ∧ w.cell? ⟨g, 7, none⟩ = some j := ⟨h.cell 0, h.cell 1, h.cell 2, h.cell 3, h.cell 4, h.cell 5, h.cell 6, h.cell 7⟩
theorem RowB.set6 {w : World} {g : Nat} {t : TypeId} {a0 a1 a2 a3 a4 a5 : Value} (h : RowB w g t #[a0, a1, a2, a3, a4, a5]) (b0 b1 b2 b3 b4 b5 : Value) :
    RowB ((((((w.setCell ⟨g, 0, none⟩ b0).setCell ⟨g, 1, none⟩ b1).setCell ⟨g, 2, none⟩ b2).setCell ⟨g, 3, none⟩ b3).setCell ⟨g, 4, none⟩ b4).setCell ⟨g, 5, none⟩ b5) g t #[b0, b1, b2, b3, b4, b5] := by
  have h0 : RowB _ g t #[b0, a1, a2, a3, a4, a5] := h.set 0 b0
  have h1 : RowB _ g t #[b0, b1, a2, a3, a4, a5] := h0.set 1 b1
  have h2 : RowB _ g t #[b0, b1, b2, a3, a4, a5] := h1.set 2 b2
  have h3 : RowB _ g t #[b0, b1, b2, b3, a4, a5] := h2.set 3 b3
  have h4 : RowB _ g t #[b0, b1, b2, b3, b4, a5] := h3.set 4 b4
  exact h4.set 5 b5
theorem below_set6 {B : Nat} {w w' : World} (h : Below B w w') {g : Nat} (hg : B ≤ g) (b0 b1 b2 b3 b4 b5 : Value) :
    Below B w ((((((w'.setCell ⟨g, 0, none⟩ b0).setCell ⟨g, 1, none⟩ b1).setCell ⟨g, 2, none⟩ b2).setCell ⟨g, 3, none⟩ b3).setCell ⟨g, 4, none⟩ b4).setCell ⟨g, 5, none⟩ b5) :=
  below_setCell (below_setCell (below_setCell (below_setCell (below_setCell (below_setCell h hg _) hg _) hg _) hg _) hg _) hg _
/-- The cells of a tree. -/
abbrev trCells (k : Int) (D : Option Addr) (dn dc : Nat) (u kd : Int) (A : Option Addr) (n c : Nat) : Array Value :=
  #[.int .i8 k, .slice D dn dc, .int .u64 u, .int .i8 kd, .int .u8 0, .int .u8 0, .int .u16 0, .slice A n c]

set_option maxHeartbeats 1000000 in
theorem valid137 (k : Int) (D : Option Addr) (dn dc : Nat) (u kd : Int) (A : Option Addr) (n c : Nat) (w : World) :
    Calls Tryz.prog 137 #[trVal k D dn dc u kd A n c] w fun e w' => e = .returned (.bool (k != 0)) ∧ Below w.heap.size w w' := by
  have hb : Below w.heap.size w (w.alloc (.cells (trCells k D dn dc u kd A n c) 79)) := (Below.refl _ _).alloc (Nat.le_refl _) _
  unfold trVal
  go_enter Tryz.func137, Tryz.ntmps137
  go_wp2_with fail
  go_ret
  exact ⟨rfl, hb⟩

set_option maxHeartbeats 1000000 in
theorem null138 (k : Int) (hk : k ≠ 0) (D : Option Addr) (dn dc : Nat) (u kd : Int) (A : Option Addr) (n c : Nat) (w : World) :
    Calls Tryz.prog 138 #[trVal k D dn dc u kd A n c] w fun e w' => e = .returned (.bool (k == 1)) ∧ Below w.heap.size w w' := by
  have hb : Below w.heap.size w (w.alloc (.cells (trCells k D dn dc u kd A n c) 79)) := (Below.refl _ _).alloc (Nat.le_refl _) _
  have h0 : (k == 0) = false := by simpa using hk
  clear hk
  unfold trVal
  go_enter Tryz.func138, Tryz.ntmps138
  go_wp2_with fail
  go_ret
  exact ⟨rfl, hb⟩

set_option maxHeartbeats 1000000 in
theorem len132 (k : Int) (D : Option Addr) (dn dc : Nat) (u kd : Int) (A : Option Addr) (n c : Nat) (w : World) :
    Calls Tryz.prog 132 #[trVal k D dn dc u kd A n c] w fun e w' => e = .returned (.int .i64 n) ∧ Below w.heap.size w w' := by
  have hb : Below w.heap.size w (w.alloc (.cells (trCells k D dn dc u kd A n c) 79)) := (Below.refl _ _).alloc (Nat.le_refl _) _
  unfold trVal
  go_enter Tryz.func132, Tryz.ntmps132
  go_wp2_with fail
  go_ret
  exact ⟨rfl, hb⟩
theorem TrsAt.at_ {w : World} {B : Nat} {A : Option Addr} {n c : Nat} {ts : List Tr} (h : TrsAt w 0 B A n c ts) {i : Nat} (hi : i < n) :
    ∃ b o t D dn dc u A' c', A = some ⟨b, o, none⟩ ∧ b < B ∧ ts[i]? = some t ∧ TrAt w 0 B t D dn dc u A' c' ∧
      w.cell? ⟨b, o + i * 8, none⟩ = some (.int .i8 t.k) ∧ w.cell? ⟨b, o + i * 8 + 1, none⟩ = some (.slice D dn dc) ∧ w.cell? ⟨b, o + i * 8 + 2, none⟩ = some (.int .u64 u) ∧
        w.cell? ⟨b, o + i * 8 + 3, none⟩ = some (.int .i8 (kdOf (t.k != 2) t.lk)) ∧ w.cell? ⟨b, o + i * 8 + 4, none⟩ = some (.int .u8 0) ∧ w.cell? ⟨b, o + i * 8 + 5, none⟩ = some (.int .u8 0) ∧ w.cell? ⟨b, o + i * 8 + 6, none⟩ = some (.int .u16 0) ∧
        w.cell? ⟨b, o + i * 8 + 7, none⟩ = some (.slice A' t.items.length c') := by
  cases h with
  | nil => omega
  | mk b o n c ts D dn dc u A c' hb hn hnc hv h hr =>
    have hl : i < ts.length := by omega
    exact ⟨b, o, ts[i], D i, dn i, dc i, u i, A i, c' i, rfl, hb.2, List.getElem?_eq_getElem hl, ⟨hv i _ (List.getElem?_eq_getElem hl), hr i _ (List.getElem?_eq_getElem hl)⟩, h i _ (List.getElem?_eq_getElem hl)⟩
theorem rowB_new {w : World} {t : TypeId} {cs : Array Value} {g : Nat} (h : g = w.heap.size) : RowB (w.alloc (.cells cs t)) g t cs := by subst h; exact RowB.new w t cs
theorem size79 : (Tryz.prog.info? 79).map (·.size) = some 8 := by kernel_rfl
theorem size76 : (Tryz.prog.info? 76).map (·.size) = some 6 := by kernel_rfl
/-- The call hands back the tree t. -/
def GivesTr (B : Nat) (t : Tr) (w : World) (e : Ending) (w' : World) : Prop :=
  ∃ D dn dc u A c, e = .returned (trVal t.k D dn dc u (kdOf (t.k != 2) t.lk) A t.items.length c) ∧ TrAt w 0 B t D dn dc u A c ∧ Below w.heap.size w w'

set_option maxHeartbeats 1000000 in
theorem index133 (k : Int) (D : Option Addr) (dn dc : Nat) (u kd : Int) (A : Option Addr) (n c : Nat) (B : Nat) (ts : List Tr) (i : Nat) (t : Tr) (w : World) (h : TrsAt w 0 B A n c ts) (hB : B ≤ w.heap.size) (hi : i < n) (ht : ts[i]? = some t) :
    Calls Tryz.prog 133 #[trVal k D dn dc u kd A n c, .int .i64 i] w (GivesTr B t w) := by
  obtain ⟨b, o, t', D', dn', dc', u', A', c', rfl, hb, ht', hat, c0, c1, c2, c3, c4, c5, c6, c7⟩ := h.at_ hi
  obtain rfl : t' = t := by rw [ht] at ht'; injection ht' with h; exact h.symm
  have HAT := Lib.hid hat
  have hlt : b < w.heap.size := by omega
  have hi0 : (0 : Int) ≤ (i : Int) := Int.natCast_nonneg _
  have hi1 : (i : Int) < (n : Int) := by omega
  have HB := Lib.hid hB
  clear h ht ht' hat hb hB
  unfold trVal
  go_enter Tryz.func133, Tryz.ntmps133
  go_wp2_with fail
  have hb2 : Below w.heap.size w ((w.alloc (.cells (trCells k D dn dc u kd (some ⟨b, o, none⟩) n c) 79)).alloc (.cells (trCells t'.k D' dn' dc' u' (kdOf (t'.k != 2) t'.lk) A' t'.items.length c') 79)) :=
    ((Below.refl _ _).alloc (Nat.le_refl _) _).alloc (by simp) _
  have hrw : RowB ((w.alloc (.cells (trCells k D dn dc u kd (some ⟨b, o, none⟩) n c) 79)).alloc (.cells (trCells t'.k D' dn' dc' u' (kdOf (t'.k != 2) t'.lk) A' t'.items.length c') 79)) (w.heap.size + 1) 79 (trCells t'.k D' dn' dc' u' (kdOf (t'.k != 2) t'.lk) A' t'.items.length c') := rowB_new (by simp)
  (try simp only [Exit.inBlock, Exit.then])
  refine bodyPost_ret (results_cell_row rfl _ _ _ 79 _ (0, 0) _ rfl hrw Tryz.underlying79 rfl size79) rfl ?_
  exact ⟨D', dn', dc', u', A', c', rfl, HAT.out, hb2⟩

set_option maxHeartbeats 1000000 in
theorem field88 (D : Option Addr) (dn dc : Nat) (u kd : Int) (A : Option Addr) (n c : Nat) (B : Nat) (ts : List Tr) (i : Nat) (t : Tr) (w : World) (h : TrsAt w 0 B A n c ts) (hB : B ≤ w.heap.size) (hi : i < n) (ht : ts[i]? = some t) :
    Calls Tryz.prog 88 #[trVal 4 D dn dc u kd A n c, .int .i64 i] w (GivesTr B t w) := by
  obtain ⟨b, o, t', D', dn', dc', u', A', c', rfl, hb, ht', hat, c0, c1, c2, c3, c4, c5, c6, c7⟩ := h.at_ hi
  obtain rfl : t' = t := by rw [ht] at ht'; injection ht' with h; exact h.symm
  have HAT := Lib.hid hat
  have hlt : b < w.heap.size := by omega
  have hi0 : (0 : Int) ≤ (i : Int) := Int.natCast_nonneg _
  have hi1 : (i : Int) < (n : Int) := by omega
  have HB := Lib.hid hB
  clear h ht ht' hat hb hB
  unfold trVal
  go_enter Tryz.func88, Tryz.ntmps88
  go_wp2_with fail
  have hb2 : Below w.heap.size w ((w.alloc (.cells (trCells 4 D dn dc u kd (some ⟨b, o, none⟩) n c) 79)).alloc (.cells (trCells t'.k D' dn' dc' u' (kdOf (t'.k != 2) t'.lk) A' t'.items.length c') 79)) :=
    ((Below.refl _ _).alloc (Nat.le_refl _) _).alloc (by simp) _
  have hrw : RowB ((w.alloc (.cells (trCells 4 D dn dc u kd (some ⟨b, o, none⟩) n c) 79)).alloc (.cells (trCells t'.k D' dn' dc' u' (kdOf (t'.k != 2) t'.lk) A' t'.items.length c') 79)) (w.heap.size + 1) 79 (trCells t'.k D' dn' dc' u' (kdOf (t'.k != 2) t'.lk) A' t'.items.length c') := rowB_new (by simp)
  (try simp only [Exit.inBlock, Exit.then])
  refine bodyPost_ret (results_cell_row rfl _ _ _ 79 _ (0, 0) _ rfl hrw Tryz.underlying79 rfl size79) rfl ?_
  exact ⟨D', dn', dc', u', A', c', rfl, HAT.out, hb2⟩

set_option maxHeartbeats 1000000 in
theorem kind75 (D : Option Addr) (dn dc : Nat) (u k de rep col : Int) (w : World) (hk : 0 ≤ k ∧ k ≤ 7) :
    Calls Tryz.prog 75 #[.agg #[.slice D dn dc, .int .u64 u, .int .i8 (-(k + 1)), .int .u8 de, .int .u8 rep, .int .u16 col]] w fun e w' => e = .returned (.int .i8 k) ∧ Below w.heap.size w w' := by
  have hb : Below w.heap.size w (w.alloc (.cells #[.slice D dn dc, .int .u64 u, .int .i8 (-(k + 1)), .int .u8 de, .int .u8 rep, .int .u16 col] 76)) := (Below.refl _ _).alloc (Nat.le_refl _) _
  have hx : bits BinOp.xor IntKind.i8 (-1) (-(k + 1)) = k := by
    obtain ⟨n, rfl⟩ := Int.eq_ofNat_of_zero_le hk.1
    have hn : n < 8 := by omega
    have : ∀ m : Fin 8, bits BinOp.xor IntKind.i8 (-1) (-((m.val : Int) + 1)) = (m.val : Int) := by decide
    exact this ⟨n, hn⟩
  have HX := Lib.hid hx
  clear hk hx
  go_enter Tryz.func75, Tryz.ntmps75
  go_wp2_with fail
  go_ret
  exact ⟨ret_int HX.out, hb⟩

set_option maxHeartbeats 1000000 in
theorem make154 (k : Int) (hk : 0 ≤ k ∧ k ≤ 7) (D : Option Addr) (dn dc : Nat) (u : Int) (A : Option Addr) (n c : Nat) (w : World) :
    Calls Tryz.prog 154 #[.int .i8 k, trVal 2 D dn dc u (-(k + 1)) A n c] w fun e w' => e = .returned (.agg #[.slice D dn dc, .int .u64 u, .int .i8 (-(k + 1)), .int .u8 0, .int .u8 0, .int .u16 0]) ∧ Below w.heap.size w w' := by
  have HK := Lib.hid hk
  clear hk
  unfold trVal
  go_enter Tryz.func154, Tryz.ntmps154
  go_wp2_with fail
  refine (kind75 _ _ _ _ _ _ _ _ _ HK.out).mono ?_
  rintro e w1 ⟨rfl, hb⟩
  have r1 : RowB w1 w.heap.size 79 (trCells 2 D dn dc u (-(k + 1)) A n c) := ((RowB.new w 79 _).alloc _).keep hb (by simp; omega)
  obtain ⟨t0, t1, t2, t3, t4, t5, t6, t7⟩ := r1.c8
  have r2 : RowB w1 (w.heap.size + 1) 76 #[.slice none 0 0, .int .u64 0, .int .i8 0, .int .u8 0, .int .u8 0, .int .u16 0] := (rowB_new (by simp)).keep hb (by simp)
  obtain ⟨z0, z1, z2, z3, z4, z5⟩ := r2.c6
  have y0 := r2.free 0
  have y1 := r2.free 1
  have y2 := r2.free 2
  have y3 := r2.free 3
  have y4 := r2.free 4
  have y5 := r2.free 5
  have hb2 : Below w.heap.size w w1 := (((Below.refl _ _).alloc (Nat.le_refl _) _).alloc (by simp) _).trans (hb.mono (by simp; omega))
  clear hb
  go_wp2_with fail
  (try simp only [Exit.inBlock, Exit.then])
  refine bodyPost_ret (results_cell_row rfl _ _ _ 76 _ (0, 0) _ rfl ((((((r2.set 0 _).set 1 _).set 2 _).set 3 _).set 4 _).set 5 _) Tryz.underlying76 rfl size76) rfl ?_
  refine ⟨rfl, ?_⟩
  exact below_setCell (below_setCell (below_setCell (below_setCell (below_setCell (below_setCell hb2 (by simp) _) (by simp) _) (by simp) _) (by simp) _) (by simp) _) (by simp) _
end Go.Proofs.YtglgclkgppomiaaGreat

namespace Go.Proofs.YtglgclkgppomiaaGreat
open Go Go.RowKit

/-- A value by value. -/
abbrev vlVal (D : Option Addr) (dn dc : Nat) (u kd : Int) : Value := .agg #[.slice D dn dc, .int .u64 u, .int .i8 kd, .int .u8 0, .int .u8 0, .int .u16 0]
/-- The call hands back that value. -/
def GivesVl (D : Option Addr) (dn dc : Nat) (u kd : Int) (w : World) (e : Ending) (w' : World) : Prop := e = .returned (vlVal D dn dc u kd) ∧ Below w.heap.size w w'
theorem u64_wrap (v : Int) : IntKind.u64.wrap v = encU v := by
  unfold encU
  rfl

set_option maxRecDepth 100000 in
set_option maxHeartbeats 1000000 in
theorem mk148 (v : Int) (w : World) : Calls Tryz.prog 148 #[.int .i32 v] w (GivesVl none 0 0 (encU v) (-2) w) := by
  have hw := u64_wrap v
  have hb : Below w.heap.size w (w.alloc (.cells #[.slice none 0 0, .int .u64 (encU v), .int .i8 (-2), .int .u8 0, .int .u8 0, .int .u16 0] 76)) := (Below.refl _ _).alloc (Nat.le_refl _) _
  have hr : RowB (w.alloc (.cells #[.slice none 0 0, .int .u64 (encU v), .int .i8 (-2), .int .u8 0, .int .u8 0, .int .u16 0] 76)) w.heap.size 76 #[.slice none 0 0, .int .u64 (encU v), .int .i8 (-2), .int .u8 0, .int .u8 0, .int .u16 0] := RowB.new _ _ _
  go_enter Tryz.func148, Tryz.ntmps148
  go_wp2_with fail
  (try simp only [Exit.inBlock, Exit.then])
  refine bodyPost_ret (results_cell_row rfl _ _ _ 76 _ (0, 0) _ rfl hr Tryz.underlying76 rfl size76) rfl ?_
  exact ⟨rfl, hb⟩

set_option maxRecDepth 100000 in
set_option maxHeartbeats 1000000 in
theorem mk149 (v : Int) (w : World) : Calls Tryz.prog 149 #[.int .i64 v] w (GivesVl none 0 0 (encU v) (-3) w) := by
  have hw := u64_wrap v
  have hb : Below w.heap.size w (w.alloc (.cells #[.slice none 0 0, .int .u64 (encU v), .int .i8 (-3), .int .u8 0, .int .u8 0, .int .u16 0] 76)) := (Below.refl _ _).alloc (Nat.le_refl _) _
  have hr : RowB (w.alloc (.cells #[.slice none 0 0, .int .u64 (encU v), .int .i8 (-3), .int .u8 0, .int .u8 0, .int .u16 0] 76)) w.heap.size 76 #[.slice none 0 0, .int .u64 (encU v), .int .i8 (-3), .int .u8 0, .int .u8 0, .int .u16 0] := RowB.new _ _ _
  go_enter Tryz.func149, Tryz.ntmps149
  go_wp2_with fail
  (try simp only [Exit.inBlock, Exit.then])
  refine bodyPost_ret (results_cell_row rfl _ _ _ 76 _ (0, 0) _ rfl hr Tryz.underlying76 rfl size76) rfl ?_
  exact ⟨rfl, hb⟩

set_option maxRecDepth 100000 in
set_option maxHeartbeats 1000000 in
theorem mk122 (v : Int) (w : World) : Calls Tryz.prog 122 #[.int .i32 v] w (GivesVl none 0 0 (encU v) (-2) w) := by
  go_enter Tryz.func122, Tryz.ntmps122
  go_wp2_with fail
  refine (mk148 v _).mono ?_
  rintro e w1 ⟨rfl, hb⟩
  have r2 : RowB w1 w.heap.size 76 #[.slice none 0 0, .int .u64 0, .int .i8 0, .int .u8 0, .int .u8 0, .int .u16 0] := (RowB.new w 76 _).keep hb (by simp)
  obtain ⟨z0, z1, z2, z3, z4, z5⟩ := r2.c6
  have y0 := r2.free 0
  have y1 := r2.free 1
  have y2 := r2.free 2
  have y3 := r2.free 3
  have y4 := r2.free 4
  have y5 := r2.free 5
  have hb2 : Below w.heap.size w w1 := ((Below.refl _ _).alloc (Nat.le_refl _) _).trans (hb.mono (by simp))
  clear hb
  go_wp2_with fail
  (try simp only [Exit.inBlock, Exit.then])
  refine bodyPost_ret (results_cell_row rfl _ _ _ 76 _ (0, 0) _ rfl (r2.set6 _ _ _ _ _ _) Tryz.underlying76 rfl size76) rfl ?_
  exact ⟨rfl, below_set6 hb2 (Nat.le_refl _) _ _ _ _ _ _⟩

set_option maxRecDepth 100000 in
set_option maxHeartbeats 1000000 in
theorem mk123 (v : Int) (w : World) : Calls Tryz.prog 123 #[.int .i64 v] w (GivesVl none 0 0 (encU v) (-3) w) := by
  go_enter Tryz.func123, Tryz.ntmps123
  go_wp2_with fail
  refine (mk149 v _).mono ?_
  rintro e w1 ⟨rfl, hb⟩
  have r2 : RowB w1 w.heap.size 76 #[.slice none 0 0, .int .u64 0, .int .i8 0, .int .u8 0, .int .u8 0, .int .u16 0] := (RowB.new w 76 _).keep hb (by simp)
  obtain ⟨z0, z1, z2, z3, z4, z5⟩ := r2.c6
  have y0 := r2.free 0
  have y1 := r2.free 1
  have y2 := r2.free 2
  have y3 := r2.free 3
  have y4 := r2.free 4
  have y5 := r2.free 5
  have hb2 : Below w.heap.size w w1 := ((Below.refl _ _).alloc (Nat.le_refl _) _).trans (hb.mono (by simp))
  clear hb
  go_wp2_with fail
  (try simp only [Exit.inBlock, Exit.then])
  refine bodyPost_ret (results_cell_row rfl _ _ _ 76 _ (0, 0) _ rfl (r2.set6 _ _ _ _ _ _) Tryz.underlying76 rfl size76) rfl ?_
  exact ⟨rfl, below_set6 hb2 (Nat.le_refl _) _ _ _ _ _ _⟩

theorem ext104 (b : Nat) (W : World) : (callFunc 104 #[.float .f32 b]).run Tryz.prog W = .ok (.value (.int .u32 b)) W := by kernel_rfl
theorem ext106 (b : Nat) (W : World) : (callFunc 106 #[.float .f64 b]).run Tryz.prog W = .ok (.value (.int .u64 b)) W := by kernel_rfl
theorem ext125 (v : Int) (W : World) : (callFunc 125 #[.int .u32 v]).run Tryz.prog W = .ok (.value (.float .f32 v.toNat)) W := by kernel_rfl
theorem ext127 (v : Int) (W : World) : (callFunc 127 #[.int .u64 v]).run Tryz.prog W = .ok (.value (.float .f64 v.toNat)) W := by kernel_rfl

set_option maxRecDepth 100000 in
set_option maxHeartbeats 1000000 in
theorem mk150 (b : Nat) (hb32 : b < 4294967296) (w : World) : Calls Tryz.prog 150 #[.float .f32 b] w (GivesVl none 0 0 ((b : Int)) (-5) w) := by
  have hd := ext104 b
  have hw : IntKind.u64.wrap (b : Int) = b := by rw [u64_wrap]; unfold encU; omega
  have hb : Below w.heap.size w (w.alloc (.cells #[.slice none 0 0, .int .u64 ((b : Int)), .int .i8 (-5), .int .u8 0, .int .u8 0, .int .u16 0] 76)) := (Below.refl _ _).alloc (Nat.le_refl _) _
  have hr : RowB (w.alloc (.cells #[.slice none 0 0, .int .u64 ((b : Int)), .int .i8 (-5), .int .u8 0, .int .u8 0, .int .u16 0] 76)) w.heap.size 76 #[.slice none 0 0, .int .u64 ((b : Int)), .int .i8 (-5), .int .u8 0, .int .u8 0, .int .u16 0] := RowB.new _ _ _
  go_enter Tryz.func150, Tryz.ntmps150
  go_wp2_with fail
  (try simp only [Exit.inBlock, Exit.then])
  refine bodyPost_ret (results_cell_row rfl _ _ _ 76 _ (0, 0) _ rfl hr Tryz.underlying76 rfl size76) rfl ?_
  exact ⟨rfl, hb⟩

set_option maxRecDepth 100000 in
set_option maxHeartbeats 1000000 in
theorem mk151 (b : Nat) (w : World) : Calls Tryz.prog 151 #[.float .f64 b] w (GivesVl none 0 0 ((b : Int)) (-6) w) := by
  have hd := ext106 b
  have hb : Below w.heap.size w (w.alloc (.cells #[.slice none 0 0, .int .u64 ((b : Int)), .int .i8 (-6), .int .u8 0, .int .u8 0, .int .u16 0] 76)) := (Below.refl _ _).alloc (Nat.le_refl _) _
  have hr : RowB (w.alloc (.cells #[.slice none 0 0, .int .u64 ((b : Int)), .int .i8 (-6), .int .u8 0, .int .u8 0, .int .u16 0] 76)) w.heap.size 76 #[.slice none 0 0, .int .u64 ((b : Int)), .int .i8 (-6), .int .u8 0, .int .u8 0, .int .u16 0] := RowB.new _ _ _
  go_enter Tryz.func151, Tryz.ntmps151
  go_wp2_with fail
  (try simp only [Exit.inBlock, Exit.then])
  refine bodyPost_ret (results_cell_row rfl _ _ _ 76 _ (0, 0) _ rfl hr Tryz.underlying76 rfl size76) rfl ?_
  exact ⟨rfl, hb⟩

set_option maxRecDepth 100000 in
set_option maxHeartbeats 1000000 in
theorem mk124 (b : Nat) (hb32 : b < 4294967296) (w : World) : Calls Tryz.prog 124 #[.float .f32 b] w (GivesVl none 0 0 ((b : Int)) (-5) w) := by
  go_enter Tryz.func124, Tryz.ntmps124
  go_wp2_with fail
  refine (mk150 b hb32 _).mono ?_
  rintro e w1 ⟨rfl, hb⟩
  have r2 : RowB w1 w.heap.size 76 #[.slice none 0 0, .int .u64 0, .int .i8 0, .int .u8 0, .int .u8 0, .int .u16 0] := (RowB.new w 76 _).keep hb (by simp)
  obtain ⟨z0, z1, z2, z3, z4, z5⟩ := r2.c6
  have y0 := r2.free 0
  have y1 := r2.free 1
  have y2 := r2.free 2
  have y3 := r2.free 3
  have y4 := r2.free 4
  have y5 := r2.free 5
  have hb2 : Below w.heap.size w w1 := ((Below.refl _ _).alloc (Nat.le_refl _) _).trans (hb.mono (by simp))
  clear hb
  go_wp2_with fail
  (try simp only [Exit.inBlock, Exit.then])
  refine bodyPost_ret (results_cell_row rfl _ _ _ 76 _ (0, 0) _ rfl (r2.set6 _ _ _ _ _ _) Tryz.underlying76 rfl size76) rfl ?_
  exact ⟨rfl, below_set6 hb2 (Nat.le_refl _) _ _ _ _ _ _⟩

set_option maxRecDepth 100000 in
set_option maxHeartbeats 1000000 in
theorem mk126 (b : Nat) (w : World) : Calls Tryz.prog 126 #[.float .f64 b] w (GivesVl none 0 0 ((b : Int)) (-6) w) := by
  go_enter Tryz.func126, Tryz.ntmps126
  go_wp2_with fail
  refine (mk151 b _).mono ?_
  rintro e w1 ⟨rfl, hb⟩
  have r2 : RowB w1 w.heap.size 76 #[.slice none 0 0, .int .u64 0, .int .i8 0, .int .u8 0, .int .u8 0, .int .u16 0] := (RowB.new w 76 _).keep hb (by simp)
  obtain ⟨z0, z1, z2, z3, z4, z5⟩ := r2.c6
  have y0 := r2.free 0
  have y1 := r2.free 1
  have y2 := r2.free 2
  have y3 := r2.free 3
  have y4 := r2.free 4
  have y5 := r2.free 5
  have hb2 : Below w.heap.size w w1 := ((Below.refl _ _).alloc (Nat.le_refl _) _).trans (hb.mono (by simp))
  clear hb
  go_wp2_with fail
  (try simp only [Exit.inBlock, Exit.then])
  refine bodyPost_ret (results_cell_row rfl _ _ _ 76 _ (0, 0) _ rfl (r2.set6 _ _ _ _ _ _) Tryz.underlying76 rfl size76) rfl ?_
  exact ⟨rfl, below_set6 hb2 (Nat.le_refl _) _ _ _ _ _ _⟩

set_option maxRecDepth 100000 in
set_option maxHeartbeats 1000000 in
theorem mk152 (A : Option Addr) (n c : Nat) (hn : n ≤ 1000000000000) (w : World) : Calls Tryz.prog 152 #[.int .i8 6, .slice A n c] w (GivesVl A n c ((n : Int)) (-7) w) := by
  have hw : IntKind.u64.wrap (n : Int) = n := by rw [u64_wrap]; unfold encU; omega
  have hb : Below w.heap.size w (w.alloc (.cells #[.slice A n c, .int .u64 ((n : Int)), .int .i8 (-7), .int .u8 0, .int .u8 0, .int .u16 0] 76)) := (Below.refl _ _).alloc (Nat.le_refl _) _
  have hr : RowB (w.alloc (.cells #[.slice A n c, .int .u64 ((n : Int)), .int .i8 (-7), .int .u8 0, .int .u8 0, .int .u16 0] 76)) w.heap.size 76 #[.slice A n c, .int .u64 ((n : Int)), .int .i8 (-7), .int .u8 0, .int .u8 0, .int .u16 0] := RowB.new _ _ _
  go_enter Tryz.func152, Tryz.ntmps152
  go_wp2_with fail
  (try simp only [Exit.inBlock, Exit.then])
  refine bodyPost_ret (results_cell_row rfl _ _ _ 76 _ (0, 0) _ rfl hr Tryz.underlying76 rfl size76) rfl ?_
  exact ⟨rfl, hb⟩

set_option maxRecDepth 100000 in
set_option maxHeartbeats 1000000 in
theorem mk129 (A : Option Addr) (n c : Nat) (hn : n ≤ 1000000000000) (w : World) : Calls Tryz.prog 129 #[.slice A n c] w (GivesVl A n c ((n : Int)) (-7) w) := by
  go_enter Tryz.func129, Tryz.ntmps129
  go_wp2_with fail
  refine (mk152 A n c hn _).mono ?_
  rintro e w1 ⟨rfl, hb⟩
  have r2 : RowB w1 w.heap.size 76 #[.slice none 0 0, .int .u64 0, .int .i8 0, .int .u8 0, .int .u8 0, .int .u16 0] := (RowB.new w 76 _).keep hb (by simp)
  obtain ⟨z0, z1, z2, z3, z4, z5⟩ := r2.c6
  have y0 := r2.free 0
  have y1 := r2.free 1
  have y2 := r2.free 2
  have y3 := r2.free 3
  have y4 := r2.free 4
  have y5 := r2.free 5
  have hb2 : Below w.heap.size w w1 := ((Below.refl _ _).alloc (Nat.le_refl _) _).trans (hb.mono (by simp))
  clear hb
  go_wp2_with fail
  (try simp only [Exit.inBlock, Exit.then])
  refine bodyPost_ret (results_cell_row rfl _ _ _ 76 _ (0, 0) _ rfl (r2.set6 _ _ _ _ _ _) Tryz.underlying76 rfl size76) rfl ?_
  exact ⟨rfl, below_set6 hb2 (Nat.le_refl _) _ _ _ _ _ _⟩

set_option maxRecDepth 100000 in
set_option maxHeartbeats 1000000 in
theorem mk147 (b : Bool) (w : World) : Calls Tryz.prog 147 #[.bool b] w (GivesVl none 0 0 (if b then 1 else 0) (-1) w) := by
  cases b with
  | false =>
    have hb : Below w.heap.size w ((w.alloc (.cells #[.slice none 0 0, .int .u64 0, .int .i8 (-1), .int .u8 0, .int .u8 0, .int .u16 0] 76)).alloc (.cells #[.slice none 0 0, .int .u64 0, .int .i8 (-1), .int .u8 0, .int .u8 0, .int .u16 0] 76)) := ((Below.refl _ _).alloc (Nat.le_refl _) _).alloc (by simp) _
    have hr : RowB ((w.alloc (.cells #[.slice none 0 0, .int .u64 0, .int .i8 (-1), .int .u8 0, .int .u8 0, .int .u16 0] 76)).alloc (.cells #[.slice none 0 0, .int .u64 0, .int .i8 (-1), .int .u8 0, .int .u8 0, .int .u16 0] 76)) w.heap.size 76 #[.slice none 0 0, .int .u64 0, .int .i8 (-1), .int .u8 0, .int .u8 0, .int .u16 0] := (RowB.new _ _ _).alloc _
    go_enter Tryz.func147, Tryz.ntmps147
    go_wp2_with fail
    (try simp only [Exit.inBlock, Exit.then])
    refine bodyPost_ret (results_cell_row rfl _ _ _ 76 _ (0, 0) _ rfl hr Tryz.underlying76 rfl size76) rfl ?_
    exact ⟨rfl, hb⟩
  | true =>
    have hb : Below w.heap.size w ((w.alloc (.cells #[.slice none 0 0, .int .u64 1, .int .i8 (-1), .int .u8 0, .int .u8 0, .int .u16 0] 76)).alloc (.cells #[.slice none 0 0, .int .u64 1, .int .i8 (-1), .int .u8 0, .int .u8 0, .int .u16 0] 76)) := ((Below.refl _ _).alloc (Nat.le_refl _) _).alloc (by simp) _
    have hr : RowB ((w.alloc (.cells #[.slice none 0 0, .int .u64 1, .int .i8 (-1), .int .u8 0, .int .u8 0, .int .u16 0] 76)).alloc (.cells #[.slice none 0 0, .int .u64 1, .int .i8 (-1), .int .u8 0, .int .u8 0, .int .u16 0] 76)) w.heap.size 76 #[.slice none 0 0, .int .u64 1, .int .i8 (-1), .int .u8 0, .int .u8 0, .int .u16 0] := (RowB.new _ _ _).alloc _
    go_enter Tryz.func147, Tryz.ntmps147
    go_wp2_with fail
    (try simp only [Exit.inBlock, Exit.then])
    refine bodyPost_ret (results_cell_row rfl _ _ _ 76 _ (0, 0) _ rfl hr Tryz.underlying76 rfl size76) rfl ?_
    exact ⟨rfl, hb⟩

theorem mk147' (b : Bool) (u : Int) (hu : (if b then (1 : Int) else 0) = u) (w : World) : Calls Tryz.prog 147 #[.bool b] w (GivesVl none 0 0 u (-1) w) := hu ▸ mk147 b w

set_option maxRecDepth 100000 in
set_option maxHeartbeats 1000000 in
theorem mk121 (b : Bool) (u : Int) (hu : (if b then (1 : Int) else 0) = u) (w : World) : Calls Tryz.prog 121 #[.bool b] w (GivesVl none 0 0 (u) (-1) w) := by
  have HU := Lib.hid hu
  clear hu
  go_enter Tryz.func121, Tryz.ntmps121
  go_wp2_with fail
  refine (mk147' b u HU.out _).mono ?_
  rintro e w1 ⟨rfl, hb⟩
  have r2 : RowB w1 w.heap.size 76 #[.slice none 0 0, .int .u64 0, .int .i8 0, .int .u8 0, .int .u8 0, .int .u16 0] := (RowB.new w 76 _).keep hb (by simp)
  obtain ⟨z0, z1, z2, z3, z4, z5⟩ := r2.c6
  have y0 := r2.free 0
  have y1 := r2.free 1
  have y2 := r2.free 2
  have y3 := r2.free 3
  have y4 := r2.free 4
  have y5 := r2.free 5
  have hb2 : Below w.heap.size w w1 := ((Below.refl _ _).alloc (Nat.le_refl _) _).trans (hb.mono (by simp))
  clear hb
  go_wp2_with fail
  (try simp only [Exit.inBlock, Exit.then])
  refine bodyPost_ret (results_cell_row rfl _ _ _ 76 _ (0, 0) _ rfl (r2.set6 _ _ _ _ _ _) Tryz.underlying76 rfl size76) rfl ?_
  exact ⟨rfl, below_set6 hb2 (Nat.le_refl _) _ _ _ _ _ _⟩
end Go.Proofs.YtglgclkgppomiaaGreat

namespace Go.Proofs.YtglgclkgppomiaaGreat
open Go Go.RowKit

theorem not_u16 (n : Nat) (h : n ≤ 65535) : bits BinOp.xor IntKind.u16 IntKind.u16.max (n : Int) = 65535 - (n : Int) := by
  have hm : IntKind.u16.max = 65535 := rfl
  rw [hm]
  show IntKind.u16.wrap ((BitVec.ofInt 16 (65535 : Int) ^^^ BitVec.ofInt 16 (n : Int)).toNat : Int) = _
  have e : (BitVec.ofInt 16 (65535 : Int) ^^^ BitVec.ofInt 16 (n : Int)) = ~~~ (BitVec.ofNat 16 n) := by
    rw [BitVec.ofInt_natCast, show BitVec.ofInt 16 (65535 : Int) = BitVec.allOnes 16 from rfl, BitVec.allOnes_xor]
  rw [e, BitVec.toNat_not, BitVec.toNat_ofNat]
  have : n % 2 ^ 16 = n := Nat.mod_eq_of_lt (by omega)
  rw [this, IntKind.wrap_u16]
  omega
set_option maxHeartbeats 1000000 in
theorem dec140 (d lo : Nat) (T : TypeId) (x : Value) (o r : Bool) (k : Int) (col : Nat) (w : World) (hnd : IsNd w lo w.heap.size d T x o r k []) (hd : d ≤ 20) (hcol : col ≤ 65533) :
    Calls Tryz.prog 140 #[.int .u16 col, .iface T x] w (MakesDec col false false k [] w) := by
  have hnd2 := hnd.keep (lo' := lo) (B' := (w.alloc (.cells #[.int .u16 col] 74)).heap.size) ((Below.refl _ _).alloc (Nat.le_refl _) (.cells #[.int .u16 col] 74)) (Nat.le_refl _) (by simp)
  obtain ⟨f, recv, hm, hcf, hcall⟩ := hnd2.typeAns (by omega)
  have HC := Lib.hid hcall
  clear hcall hnd hnd2
  have hgt : decide ((65534 : Int) < (col : Int)) = false := by simp; omega
  go_enter Tryz.func140, Tryz.ntmps140
  go_wp2_with fail
  refine HC.out.mono ?_
  rintro e w1 ⟨rfl, rfl⟩
  obtain ⟨f2, recv2, hm2, hcf2, hcall2⟩ := kindAns k (w.alloc (.cells #[.int .u16 col] 74))
  have HC2 := Lib.hid hcall2
  clear hcall2 hm hcf
  go_wp2_with fail
  refine HC2.out.mono ?_
  rintro e w1 ⟨rfl, rfl⟩
  clear hm2 hcf2
  go_wp2_with fail
  go_ret2
  refine ⟨_, _, rfl, ?_, (((Below.refl _ _).alloc (Nat.le_refl _) _).alloc (by simp) _).alloc (by simp; omega) _⟩
  refine .leaf _ _ _ col k ⟨?_, ?_⟩ ⟨?_, ?_⟩ ⟨?_, ?_⟩ ?_ ?_ ?_
  all_goals try simp only [size_alloc1]
  all_goals first
    | omega
    | (exact (cold (by simp only [size_alloc1]; omega)).trans (cnew (by simp only [size_alloc1])))
    | (exact (cnew (by simp only [size_alloc1])).trans (by rw [not_u16 col (by omega)]; rfl))
    | (exact (cold (by simp only [size_alloc1]; omega)).trans ((cold (by simp only [size_alloc1]; omega)).trans (cnew rfl)))
    | (exact (cold (by simp only [size_alloc1]; omega)).trans ((cold (by simp only [size_alloc1]; omega)).trans ((cold (by simp only [size_alloc1]; omega)).trans (cnew rfl))))

theorem info111 : (Tryz.prog.info? 111).map (fun i => (i.zero, i.size, i.bytes)) = some (some .nilFunc, 1, 8) := by kernel_rfl
/-- Whoever makes the closures of fields of at most so many fields. -/
def DecIn (N : Nat) : Prop := ∀ (kids : List Fd) (k dp : Int) (d lo : Nat) (T : TypeId) (x : Value) (o r : Bool) (col : Nat) (w : World), fdsSize kids < N → IsNd w lo w.heap.size d T x o r k kids → d ≤ 10 → OkN kids k dp → col + nodeLeaves kids ≤ 65534 → 
    Calls Tryz.prog 78 #[.int .u16 col, .iface T x] w (MakesDec col o r k kids w)

/-- The first j closures of a group stand in block fb. -/
structure Decs (wr : World) (lo fb : Nat) (col : Nat) (kids : List Fd) (j : Nat) (cs : Array Value) (F : Nat → FuncId) (C : Nat → Array Value) : Prop where
  row : RowB wr fb 111 cs
  size : cs.size = kids.length
  hk : ∀ i f, i < j → kids[i]? = some f → cs[i]? = some (.func (.func (F i)) #[] (C i))
  hr : ∀ i f, i < j → kids[i]? = some f → IsDec wr lo wr.heap.size (.func (.func (F i)) #[] (C i)) (col + leaves (kids.take i)) (f.way == 1) (f.way == 2) f.kind f.kids
def SomeDecs (wr : World) (lo fb : Nat) (col : Nat) (kids : List Fd) (j : Nat) : Prop := ∃ cs F C, Decs wr lo fb col kids j cs F C

set_option maxRecDepth 100000 in
set_option maxHeartbeats 2000000 in
theorem dec141 (N : Nat) (ih : DecIn N) (kids : List Fd) (dp : Int) (d lo : Nat) (T : TypeId) (x : Value) (o r : Bool) (col : Nat) (w : World) (hs : fdsSize kids ≤ N) (_hN1 : N + 1 ≤ 1000000000) (hnd : IsNd w lo w.heap.size d T x o r 0 kids) (hd : d ≤ 20) (hne : kids ≠ []) (hok : OkL kids dp) (hcol : col + leaves kids ≤ 65534) :
    Calls Tryz.prog 141 #[.int .u16 col, .iface T x] w (MakesDec col false false 0 kids w) := by
  have IH := Lib.hid ih
  clear ih
  have HOK := Lib.hid hok
  have HNE := Lib.hid hne
  have HNL : Hid (nodeLeaves kids = leaves kids) := by show _ = _; unfold nodeLeaves; rw [if_neg hne]
  have hlen := fdsSize_length kids
  obtain ⟨f2, recv2, hm2, hcf2, hcall2⟩ := fieldsAns hnd (by omega) hne hok (by omega)
  have HC2 := Lib.hid hcall2
  clear hcall2 hok hne
  have hmk := make_n (t := 181) (e := 111) Tryz.underlying181 info111 kids.length (by omega) (by omega)
  go_enter Tryz.func141, Tryz.ntmps141
  go_wp2_with fail
  refine HC2.out.mono ?_
  rintro e w1 ⟨fb, X, rfl, hfb, hfb2, hX, hb⟩
  have HX := Lib.hid hX
  clear hX hm2 hcf2
  go_wp2_with fail
  have hW : Below w.heap.size w ((w1.alloc (.cells (madeCells #[.nilFunc] kids.length) 111)).alloc (.cells #[.slice (some ⟨w1.heap.size, 0, none⟩) kids.length kids.length] 181)) :=
    (hb.alloc hb.size _).alloc (by have := hb.size; simp only [size_alloc1]; omega) _
  have hfl := hb.size
  have HW1 : Hid (∃ q : Nat, q = w1.heap.size) := ⟨_, rfl⟩
  have hrow0 : RowB ((w1.alloc (.cells (madeCells #[.nilFunc] kids.length) 111)).alloc (.cells #[.slice (some ⟨w1.heap.size, 0, none⟩) kids.length kids.length] 181)) w1.heap.size 111 (madeCells #[.nilFunc] kids.length) := (RowB.new w1 111 _).alloc _
  have hbox0 := cnew (w := w1.alloc (.cells (madeCells #[.nilFunc] kids.length) 111)) (cs := #[.slice (some ⟨w1.heap.size, 0, none⟩) kids.length kids.length]) (t := 181) (b := w1.heap.size + 1) (i := 0) (by simp only [size_alloc1])
  have hX2 : ∀ i f, kids[i]? = some f → ((w1.alloc (.cells (madeCells #[.nilFunc] kids.length) 111)).alloc (.cells #[.slice (some ⟨w1.heap.size, 0, none⟩) kids.length kids.length] 181)).cell? ⟨fb, i, none⟩ = some (.iface 212 (X i)) := fun i f hf =>
    (cold (by simp only [size_alloc1]; omega)).trans ((cold (by omega)).trans (HX.out i f hf).1)
  have HROW := Lib.hid hrow0
  have HX2 := Lib.hid hX2
  have HBOX := Lib.hid hbox0
  have HHW := Lib.hid hW
  have hszW : ((w1.alloc (.cells (madeCells #[.nilFunc] kids.length) 111)).alloc (.cells #[.slice (some ⟨w1.heap.size, 0, none⟩) kids.length kids.length] 181)).heap.size = w1.heap.size + 2 := by simp only [size_alloc1]
  have HSZ := Lib.hid hszW
  have HB1 := Lib.hid hb
  clear hrow0 hX2 hbox0 hW hszW hmk HW1 hb
  go_loopw [0, 17] (fun c i wr => ∃ j cc : Nat, j ≤ kids.length ∧ i = .int .i64 j ∧ c = .int .u16 (cc : Int) ∧ cc = col + leaves (kids.take j) ∧ SomeDecs wr (w1.heap.size + 2) w1.heap.size col kids j ∧
      wr.cell? ⟨w1.heap.size + 1, 0, none⟩ = some (.slice (some ⟨w1.heap.size, 0, none⟩) kids.length kids.length) ∧ Below w1.heap.size w1 wr ∧ w1.heap.size + 2 ≤ wr.heap.size) (fun _ i _ => kids.length - (intOf i).toNat)
  case atStart =>
    refine ⟨0, col, Nat.zero_le _, rfl, rfl, by simp [leaves], ⟨_, fun _ => 0, fun _ => #[], ⟨HROW.out, by rw [size_madeCells], fun i f hi _ => absurd hi (by omega), fun i f hi _ => absurd hi (by omega)⟩⟩, HBOX.out, ?_, by rw [HSZ.out]; omega⟩
    exact ((Below.refl _ _).alloc (Nat.le_refl _) _).alloc (by simp only [size_alloc1]; omega) _
  case round =>
    obtain ⟨j, cc, hj, rfl, rfl, hcc, hdecs, hbox, hb2, hsz⟩ := hrel
    have HCC := Lib.hid hcc
    have HD := Lib.hid hdecs
    clear hdecs
    have hle := leaves_take_le kids j
    by_cases hlt : j < kids.length
    · have hkj : kids[j]? = some (kids[j]'hlt) := List.getElem?_eq_getElem hlt
      obtain ⟨hc, hndj⟩ := HX.out j _ hkj
      have hkid := Lib.hid (HOK.out.kid hkj)
      have hsn := leaves_snoc kids j _ hkj
      rw [leavesOf_eq] at hsn
      have Hsn := Lib.hid hsn
      have hfs := fdsSize_get kids j _ hkj
      have hki := fdSize_kids (kids[j]'hlt)
      have HKJ := Lib.hid hkj
      have hle8 : leaves (kids.take (j + 1)) ≤ leaves kids := by
        have := leaves_append (kids.take (j + 1)) (kids.drop (j + 1))
        rw [List.take_append_drop] at this
        omega
      generalize hg : kids[j]'hlt = g at *
      have c0 := (bcell hb2 hfb2).trans hc
      have hnd2 : IsNd wr.drew lo wr.drew.heap.size 2 212 (X j) (g.way == 1) (g.way == 2) g.kind g.kids := hndj.keep (lo' := lo) (B' := wr.heap.size) hb2.drew (Nat.le_refl _) hb2.size
      have HND := Lib.hid hnd2
      obtain ⟨cs, F, C, D⟩ := HD.out
      have HDD := Lib.hid D
      have hst : ∃ v, wr.cell? ⟨w1.heap.size, j, none⟩ = some v := ⟨cs[j]'(by rw [D.size]; exact hlt), by rw [D.row.cell]; exact Array.getElem?_eq_getElem _⟩
      obtain ⟨v0, hv0⟩ := hst
      have hfr := D.row.free j
      have hj0 : (0 : Int) ≤ (j : Int) := Int.natCast_nonneg _
      have hnl : cc + nodeLeaves g.kids ≤ 65534 := by have := Hsn.out; omega
      clear hcc hkj hc hndj hsn hg hnd2 D
      go_wp2_with fail
      go_region_held3 (fun w' => w'.cell? ⟨w1.heap.size + 1, 0, none⟩ = some (.slice (some ⟨w1.heap.size, 0, none⟩) kids.length kids.length))
        (first
          | (simp [*]; done)
          | (exact (bcell hb3 (by simp; omega)).trans (by simp [*]))
          | (exact (World.cell?_setCell_other _ _ _ _ (by simp)).trans ((bcell hb3 (by simp; omega)).trans (by simp [*]))))
        ((go_at_call 78
          refine (IH.out g.kids g.kind _ 2 lo 212 (X j) _ _ cc _ (by omega) HND.out (by omega) hkid.out hnl).mono ?_
          rintro e w2 ⟨f3, cap3, rfl, hdec3, hb3⟩
          have hv1 := (bcell hb3 (b := w1.heap.size) (o := j) (by simp; omega)).trans hv0
          have hfr1 : w2.frozen? ⟨w1.heap.size, j, none⟩ = false := (hb3.frozen (p := ⟨w1.heap.size, j, none⟩) (by simp; omega)).trans hfr))
      have hb3' := below_of_drew hb3
      have hsz3 : wr.heap.size ≤ w2.heap.size := hb3.size
      have hfin : SomeDecs (w2.setCell ⟨w1.heap.size, j, none⟩ (.func (.func f3) #[] cap3)) (w1.heap.size + 2) w1.heap.size col kids (j + 1) := by
        refine ⟨_, fun i => if i = j then f3 else F i, fun i => if i = j then cap3 else C i, ⟨((HDD.out.row.keep hb3' (by omega)).set j _), by simp [HDD.out.size], fun i q hi hq => ?_, fun i q hi hq => ?_⟩⟩
        · by_cases hij : i = j
          · subst hij
            rw [if_pos rfl, if_pos rfl, Array.getElem?_setIfInBounds_self_of_lt (by rw [HDD.out.size]; exact hlt)]
          · simp only [hij, if_false]
            rw [Array.getElem?_setIfInBounds_ne (Ne.symm hij)]
            exact HDD.out.hk i q (by omega) hq
        · by_cases hij : i = j
          · subst hij
            rw [HKJ.out] at hq
            injection hq with hq
            subst hq
            rw [if_pos rfl, if_pos rfl, ← HCC.out]
            exact hdec3.frame (fun b h1 _ => setCell_other _ _ _ (by have h1' : wr.heap.size ≤ b := h1; show b ≠ w1.heap.size; omega)) (by show _ ≤ wr.heap.size; omega) (by rw [setCell_size]; exact Nat.le_refl _)
          · simp only [hij, if_false]
            exact (HDD.out.hr i q (by omega) hq).frame (fun b h1 h2 => (setCell_other _ _ _ (by show b ≠ w1.heap.size; omega)).trans (hb3'.block b h2)) (Nat.le_refl _) (by rw [setCell_size]; exact hsz3)
      have HFIN := Lib.hid hfin
      have hbox3 : (w2.setCell ⟨w1.heap.size, j, none⟩ (.func (.func f3) #[] cap3)).cell? ⟨w1.heap.size + 1, 0, none⟩ = some (.slice (some ⟨w1.heap.size, 0, none⟩) kids.length kids.length) := by assumption
      have HBOX3 := Lib.hid hbox3
      have hb5 : Below w1.heap.size w1 (w2.setCell ⟨w1.heap.size, j, none⟩ (.func (.func f3) #[] cap3)) := below_setCell (hb2.trans (hb3'.mono (by omega))) (Nat.le_refl _) _
      have HB5 := Lib.hid hb5
      have hcc2 := Lib.hid (show cc + nodeLeaves g.kids = col + leaves (kids.take (j + 1)) from by rw [Hsn.out, HCC.out]; omega)
      clear hfin hbox3 hb5 hv1 hfr1 hdec3 hb3'
      go_wp2_with fail
      go_roundw
      case rel => exact ⟨j + 1, cc + nodeLeaves g.kids, by omega, by go_num, by go_num, hcc2.out, HFIN.out, HBOX3.out, HB5.out, by rw [setCell_size]; omega⟩
      case measure => simp [intOf]; omega
    · obtain rfl : j = kids.length := by omega
      go_wp2_with fail
      go_ret2
      obtain ⟨cs, F, C, D⟩ := HD.out
      have hcc3 : cc = col + nodeLeaves kids := by rw [HCC.out, List.take_of_length_le (Nat.le_refl _), HNL.out]
      refine ⟨155, _, by rw [hcc3]; rfl, ?_, HB1.out.trans (hb2.mono hfl)⟩
      refine .grp (w1.heap.size + 1) w1.heap.size col kids.length kids F C HNE.out ⟨by omega, by omega⟩ ⟨by omega, by omega⟩ rfl hbox (fun i f hf => ?_) (fun i f hf => ?_)
      · rw [D.row.cell]; exact D.hk i f (List.getElem?_eq_some_iff.1 hf).1 hf
      · exact (D.hr i f (List.getElem?_eq_some_iff.1 hf).1 hf).frame (fun _ _ _ => rfl) (by omega) (Nat.le_refl _)
end Go.Proofs.YtglgclkgppomiaaGreat

namespace Go.Proofs.YtglgclkgppomiaaGreat
open Go Go.RowKit

set_option maxHeartbeats 1000000 in
theorem rec145 (d lo : Nat) (T : TypeId) (x : Value) (o r : Bool) (k : Int) (col : Nat) (w : World) (hnd : IsNd w lo w.heap.size d T x o r k []) (hd : d ≤ 20) (hcol : col ≤ 65533) :
    Calls Tryz.prog 145 #[.int .u16 col, .iface T x] w (MakesRec col false false k [] w) := by
  obtain ⟨f, recv, hm, hcf, hcall⟩ := hnd.typeAns (by omega)
  have HC := Lib.hid hcall
  clear hcall hnd
  go_enter Tryz.func145, Tryz.ntmps145
  go_wp2_with fail
  refine HC.out.mono ?_
  rintro e w1 ⟨rfl, rfl⟩
  clear hm hcf
  go_wp2_with fail
  go_ret2
  refine ⟨156, _, rfl, ?_, (Below.refl _ _).alloc (Nat.le_refl _) _⟩
  exact .leaf _ k ⟨Nat.le_refl _, by simp only [size_alloc1]; omega⟩ (cnew rfl)

theorem info113 : (Tryz.prog.info? 113).map (fun i => (i.zero, i.size, i.bytes)) = some (some .nilFunc, 1, 8) := by kernel_rfl
theorem info74 : (Tryz.prog.info? 74).map (fun i => (i.zero, i.size, i.bytes)) = some (some (.int .u16 0), 1, 2) := by kernel_rfl
/-- Whoever makes the closures of fields of fewer fields. -/
def RecIn (N : Nat) : Prop := ∀ (kids : List Fd) (k dp : Int) (d lo : Nat) (T : TypeId) (x : Value) (o r : Bool) (col : Nat) (w : World), fdsSize kids < N → IsNd w lo w.heap.size d T x o r k kids → d ≤ 10 → OkN kids k dp → col + nodeLeaves kids ≤ 65534 → 
    Calls Tryz.prog 79 #[.int .u16 col, .iface T x] w (MakesRec col o r k kids w)

/-- The first j closures of a group stand in block fb, and the columns behind each in block ob. -/
structure Recs (wr : World) (lo fb ob : Nat) (kids : List Fd) (j : Nat) (cs os : Array Value) (F : Nat → FuncId) (C : Nat → Array Value) : Prop where
  row : RowB wr fb 113 cs
  size : cs.size = kids.length
  row2 : RowB wr ob 74 os
  size2 : os.size = kids.length
  hk : ∀ i f, i < j → kids[i]? = some f → cs[i]? = some (.func (.func (F i)) #[] (C i))
  hk2 : ∀ i f, i < j → kids[i]? = some f → os[i]? = some (.int .u16 ((leaves (kids.take (i + 1)) : Nat) : Int))
  hr : ∀ i f, i < j → kids[i]? = some f → IsRec wr lo wr.heap.size (.func (.func (F i)) #[] (C i)) (f.way == 1) (f.way == 2) f.kind f.kids
def SomeRecs (wr : World) (lo fb ob : Nat) (kids : List Fd) (j : Nat) : Prop := ∃ cs os F C, Recs wr lo fb ob kids j cs os F C

set_option maxRecDepth 100000 in
set_option maxHeartbeats 2000000 in
theorem rec146 (N : Nat) (ih : RecIn N) (kids : List Fd) (dp : Int) (d lo : Nat) (T : TypeId) (x : Value) (o r : Bool) (col : Nat) (w : World) (hs : fdsSize kids ≤ N) (_hN1 : N + 1 ≤ 1000000000) (hnd : IsNd w lo w.heap.size d T x o r 0 kids) (hd : d ≤ 20) (hne : kids ≠ []) (hok : OkL kids dp) (hcol : col + leaves kids ≤ 65534) :
    Calls Tryz.prog 146 #[.int .u16 col, .iface T x] w (MakesRec col false false 0 kids w) := by
  have IH := Lib.hid ih
  clear ih
  have HOK := Lib.hid hok
  have HNE := Lib.hid hne
  have HNL : Hid (nodeLeaves kids = leaves kids) := by show _ = _; unfold nodeLeaves; rw [if_neg hne]
  have hlen := fdsSize_length kids
  obtain ⟨f2, recv2, hm2, hcf2, hcall2⟩ := fieldsAns hnd (by omega) hne hok (by omega)
  have HC2 := Lib.hid hcall2
  clear hcall2 hok hne
  have hmk := make_n (t := 184) (e := 113) Tryz.underlying184 info113 kids.length (by omega) (by omega)
  have hmk2 := make_n (t := 185) (e := 74) Tryz.underlying185 info74 kids.length (by omega) (by omega)
  go_enter Tryz.func146, Tryz.ntmps146
  go_wp2_with fail
  refine HC2.out.mono ?_
  rintro e w1 ⟨fb, X, rfl, hfb, hfb2, hX, hb⟩
  have HX := Lib.hid hX
  clear hX hm2 hcf2
  go_wp2_with fail
  have hfl := hb.size
  have HROW := Lib.hid (show RowB ((((w1.alloc (.cells (madeCells #[.nilFunc] kids.length) 113)).alloc (.cells #[.slice (some ⟨w1.heap.size, 0, none⟩) kids.length kids.length] 184)).alloc (.cells (madeCells #[.int .u16 0] kids.length) 74)).alloc (.cells #[.slice (some ⟨w1.heap.size + 1 + 1, 0, none⟩) kids.length kids.length] 185)) w1.heap.size 113 (madeCells #[.nilFunc] kids.length) from (((RowB.new w1 113 _).alloc _).alloc _).alloc _)
  have HROW2 := Lib.hid (show RowB ((((w1.alloc (.cells (madeCells #[.nilFunc] kids.length) 113)).alloc (.cells #[.slice (some ⟨w1.heap.size, 0, none⟩) kids.length kids.length] 184)).alloc (.cells (madeCells #[.int .u16 0] kids.length) 74)).alloc (.cells #[.slice (some ⟨w1.heap.size + 1 + 1, 0, none⟩) kids.length kids.length] 185)) (w1.heap.size + 1 + 1) 74 (madeCells #[.int .u16 0] kids.length) from by
    have := RowB.new ((w1.alloc (.cells (madeCells #[.nilFunc] kids.length) 113)).alloc (.cells #[.slice (some ⟨w1.heap.size, 0, none⟩) kids.length kids.length] 184)) 74 (madeCells #[.int .u16 0] kids.length)
    simp only [size_alloc1] at this
    exact this.alloc _)
  have HBOX := Lib.hid (show ((((w1.alloc (.cells (madeCells #[.nilFunc] kids.length) 113)).alloc (.cells #[.slice (some ⟨w1.heap.size, 0, none⟩) kids.length kids.length] 184)).alloc (.cells (madeCells #[.int .u16 0] kids.length) 74)).alloc (.cells #[.slice (some ⟨w1.heap.size + 1 + 1, 0, none⟩) kids.length kids.length] 185)).cell? ⟨w1.heap.size + 1, 0, none⟩ = some (.slice (some ⟨w1.heap.size, 0, none⟩) kids.length kids.length) from
    (cold (by simp only [size_alloc1]; omega)).trans ((cold (by simp only [size_alloc1]; omega)).trans (cnew (by simp only [size_alloc1]))))
  have HBOX2 := Lib.hid (show ((((w1.alloc (.cells (madeCells #[.nilFunc] kids.length) 113)).alloc (.cells #[.slice (some ⟨w1.heap.size, 0, none⟩) kids.length kids.length] 184)).alloc (.cells (madeCells #[.int .u16 0] kids.length) 74)).alloc (.cells #[.slice (some ⟨w1.heap.size + 1 + 1, 0, none⟩) kids.length kids.length] 185)).cell? ⟨w1.heap.size + 1 + 1 + 1, 0, none⟩ = some (.slice (some ⟨w1.heap.size + 1 + 1, 0, none⟩) kids.length kids.length) from
    cnew (by simp only [size_alloc1]))
  have HSZ := Lib.hid (show ((((w1.alloc (.cells (madeCells #[.nilFunc] kids.length) 113)).alloc (.cells #[.slice (some ⟨w1.heap.size, 0, none⟩) kids.length kids.length] 184)).alloc (.cells (madeCells #[.int .u16 0] kids.length) 74)).alloc (.cells #[.slice (some ⟨w1.heap.size + 1 + 1, 0, none⟩) kids.length kids.length] 185)).heap.size = w1.heap.size + 4 from by simp only [size_alloc1])
  have HB1 := Lib.hid hb
  clear hmk hmk2 hb
  go_loopw [0, 23] (fun c i wr => ∃ j cc : Nat, j ≤ kids.length ∧ i = .int .i64 j ∧ c = .int .u16 (cc : Int) ∧ cc = col + leaves (kids.take j) ∧ SomeRecs wr (w1.heap.size + 4) w1.heap.size (w1.heap.size + 1 + 1) kids j ∧
      wr.cell? ⟨w1.heap.size + 1, 0, none⟩ = some (.slice (some ⟨w1.heap.size, 0, none⟩) kids.length kids.length) ∧ wr.cell? ⟨w1.heap.size + 1 + 1 + 1, 0, none⟩ = some (.slice (some ⟨w1.heap.size + 1 + 1, 0, none⟩) kids.length kids.length) ∧
      Below w1.heap.size w1 wr ∧ w1.heap.size + 4 ≤ wr.heap.size) (fun _ i _ => kids.length - (intOf i).toNat)
  case atStart =>
    refine ⟨0, col, Nat.zero_le _, rfl, rfl, by simp [leaves], ⟨_, _, fun _ => 0, fun _ => #[], ⟨HROW.out, by rw [size_madeCells], HROW2.out, by rw [size_madeCells], fun i f hi _ => absurd hi (by omega), fun i f hi _ => absurd hi (by omega), fun i f hi _ => absurd hi (by omega)⟩⟩, HBOX.out, HBOX2.out, ?_, by rw [HSZ.out]; omega⟩
    exact ((((Below.refl _ _).alloc (Nat.le_refl _) _).alloc (by simp only [size_alloc1]; omega) _).alloc (by simp only [size_alloc1]; omega) _).alloc (by simp only [size_alloc1]; omega) _
  case round =>
    obtain ⟨j, cc, hj, rfl, rfl, hcc, hrecs, hbox, hbox2, hb2, hsz⟩ := hrel
    have HCC := Lib.hid hcc
    have HD := Lib.hid hrecs
    clear hrecs
    have hle := leaves_take_le kids j
    by_cases hlt : j < kids.length
    · have hkj : kids[j]? = some (kids[j]'hlt) := List.getElem?_eq_getElem hlt
      obtain ⟨hc, hndj⟩ := HX.out j _ hkj
      have hkid := Lib.hid (HOK.out.kid hkj)
      have hsn := leaves_snoc kids j _ hkj
      rw [leavesOf_eq] at hsn
      have Hsn := Lib.hid hsn
      have hfs := fdsSize_get kids j _ hkj
      have hki := fdSize_kids (kids[j]'hlt)
      have HKJ := Lib.hid hkj
      have hle8 : leaves (kids.take (j + 1)) ≤ leaves kids := by
        have := leaves_append (kids.take (j + 1)) (kids.drop (j + 1))
        rw [List.take_append_drop] at this
        omega
      generalize hg : kids[j]'hlt = g at *
      have c0 := (bcell hb2 hfb2).trans hc
      have hnd2 : IsNd wr.drew lo wr.drew.heap.size 2 212 (X j) (g.way == 1) (g.way == 2) g.kind g.kids := hndj.keep (lo' := lo) (B' := wr.heap.size) hb2.drew (Nat.le_refl _) hb2.size
      have HND := Lib.hid hnd2
      obtain ⟨cs, os, F, C, D⟩ := HD.out
      have HDD := Lib.hid D
      have hst : ∃ v, wr.cell? ⟨w1.heap.size, j, none⟩ = some v := ⟨cs[j]'(by rw [D.size]; exact hlt), by rw [D.row.cell]; exact Array.getElem?_eq_getElem _⟩
      obtain ⟨v0, hv0⟩ := hst
      have hfr := D.row.free j
      have hst2 : ∃ v, wr.cell? ⟨w1.heap.size + 1 + 1, j, none⟩ = some v := ⟨os[j]'(by rw [D.size2]; exact hlt), by rw [D.row2.cell]; exact Array.getElem?_eq_getElem _⟩
      obtain ⟨v02, hv02⟩ := hst2
      have hfr2 := D.row2.free j
      have hj0 : (0 : Int) ≤ (j : Int) := Int.natCast_nonneg _
      have hnl : cc + nodeLeaves g.kids ≤ 65534 := by have := Hsn.out; omega
      have hcl : col ≤ cc := by omega
      clear hcc hkj hc hndj hsn hg hnd2 D
      go_wp2_with fail
      go_region_held3 (fun w' => w'.cell? ⟨w1.heap.size + 1, 0, none⟩ = some (.slice (some ⟨w1.heap.size, 0, none⟩) kids.length kids.length))
        (first
          | (simp [*]; done)
          | (exact (bcell hb3 (by simp; omega)).trans (by simp [*]))
          | (exact (World.cell?_setCell_other _ _ _ _ (by simp)).trans ((bcell hb3 (by simp; omega)).trans (by simp [*]))))
        ((go_at_call 79
          refine (IH.out g.kids g.kind _ 2 lo 212 (X j) _ _ cc _ (by omega) HND.out (by omega) hkid.out hnl).mono ?_
          rintro e w2 ⟨f3, cap3, rfl, hrec3, hb3⟩
          have hv1 := (bcell hb3 (b := w1.heap.size) (o := j) (by simp; omega)).trans hv0
          have hfr1 : w2.frozen? ⟨w1.heap.size, j, none⟩ = false := (hb3.frozen (p := ⟨w1.heap.size, j, none⟩) (by simp; omega)).trans hfr))
      have hb3' := below_of_drew hb3
      have hsz3 : wr.heap.size ≤ w2.heap.size := hb3.size
      have hR1 : RowB (w2.setCell ⟨w1.heap.size, j, none⟩ (.func (.func f3) #[] cap3)) w1.heap.size 113 (cs.setIfInBounds j (.func (.func f3) #[] cap3)) := (HDD.out.row.keep hb3' (by omega)).set j _
      have hR2 : RowB (w2.setCell ⟨w1.heap.size, j, none⟩ (.func (.func f3) #[] cap3)) (w1.heap.size + 1 + 1) 74 os := (HDD.out.row2.keep hb3' (by omega)).of_eq (setCell_other _ _ _ (by show _ ≠ w1.heap.size; omega))
      have hb5 : Below w1.heap.size w1 (w2.setCell ⟨w1.heap.size, j, none⟩ (.func (.func f3) #[] cap3)) := below_setCell (hb2.trans (hb3'.mono (by omega))) (Nat.le_refl _) _
      have hx1 : (w2.setCell ⟨w1.heap.size, j, none⟩ (.func (.func f3) #[] cap3)).cell? ⟨w1.heap.size + 1, 0, none⟩ = some (.slice (some ⟨w1.heap.size, 0, none⟩) kids.length kids.length) := by assumption
      have hx2 : (w2.setCell ⟨w1.heap.size, j, none⟩ (.func (.func f3) #[] cap3)).cell? ⟨w1.heap.size + 1 + 1 + 1, 0, none⟩ = some (.slice (some ⟨w1.heap.size + 1 + 1, 0, none⟩) kids.length kids.length) :=
        (World.cell?_of_block (a := ⟨w1.heap.size + 1 + 1 + 1, 0, none⟩) (setCell_other _ _ _ (by show w1.heap.size + 1 + 1 + 1 ≠ w1.heap.size; omega))).trans ((bcell hb3' (b := w1.heap.size + 1 + 1 + 1) (o := 0) (by omega)).trans hbox2)
      have hszs : (w2.setCell ⟨w1.heap.size, j, none⟩ (.func (.func f3) #[] cap3)).heap.size = w2.heap.size := setCell_size _ _ _
      have hframe : ∀ b, w1.heap.size + 4 ≤ b → (w2.setCell ⟨w1.heap.size, j, none⟩ (.func (.func f3) #[] cap3)).heap[b]? = w2.heap[b]? := fun b h => setCell_other _ _ _ (by show b ≠ w1.heap.size; omega)
      have HF1 := Lib.hid hframe
      have HR1 := Lib.hid hR1
      have HR2 := Lib.hid hR2
      have HB5 := Lib.hid hb5
      have HSZS := Lib.hid hszs
      have HREC3 := Lib.hid hrec3
      have HB3 := Lib.hid hb3'
      clear hframe hR1 hR2 hb5 hszs hrec3 hb3' hv1 hfr1
      generalize w2.setCell ⟨w1.heap.size, j, none⟩ (.func (.func f3) #[] cap3) = w3 at *
      have hv3 : ∃ v, w3.cell? ⟨w1.heap.size + 1 + 1, j, none⟩ = some v := ⟨os[j]'(by rw [HDD.out.size2]; exact hlt), by rw [HR2.out.cell]; exact Array.getElem?_eq_getElem _⟩
      obtain ⟨v3, hv3⟩ := hv3
      have hfr3 := HR2.out.free j
      have hc1 : (0 : Int) ≤ (cc : Int) - (col : Int) := by omega
      have hfin : SomeRecs (w3.setCell ⟨w1.heap.size + 1 + 1, j, none⟩ (.int .u16 ((cc : Int) + ↑(nodeLeaves g.kids) - ↑col))) (w1.heap.size + 4) w1.heap.size (w1.heap.size + 1 + 1) kids (j + 1) := by
        refine ⟨_, _, fun i => if i = j then f3 else F i, fun i => if i = j then cap3 else C i, ⟨HR1.out.of_eq (setCell_other _ _ _ (by show _ ≠ w1.heap.size + 1 + 1; omega)), by simp [HDD.out.size], HR2.out.set j _, by simp [HDD.out.size2], fun i q hi hq => ?_, fun i q hi hq => ?_, fun i q hi hq => ?_⟩⟩
        · by_cases hij : i = j
          · subst hij
            rw [if_pos rfl, if_pos rfl, Array.getElem?_setIfInBounds_self_of_lt (by rw [HDD.out.size]; exact hlt)]
          · simp only [hij, if_false]
            rw [Array.getElem?_setIfInBounds_ne (Ne.symm hij)]
            exact HDD.out.hk i q (by omega) hq
        · by_cases hij : i = j
          · subst hij
            rw [Array.getElem?_setIfInBounds_self_of_lt (by rw [HDD.out.size2]; exact hlt)]
            have := Hsn.out
            have := HCC.out
            exact congrArg (fun v => some (Value.int .u16 v)) (by omega)
          · rw [Array.getElem?_setIfInBounds_ne (Ne.symm hij)]
            exact HDD.out.hk2 i q (by omega) hq
        · have hfr4 : ∀ b, w1.heap.size + 4 ≤ b → (w3.setCell ⟨w1.heap.size + 1 + 1, j, none⟩ (.int .u16 ((cc : Int) + ↑(nodeLeaves g.kids) - ↑col))).heap[b]? = w2.heap[b]? := fun b h => (setCell_other _ _ _ (by show b ≠ w1.heap.size + 1 + 1; omega)).trans (HF1.out b h)
          by_cases hij : i = j
          · subst hij
            rw [HKJ.out] at hq
            injection hq with hq
            subst hq
            rw [if_pos rfl, if_pos rfl]
            exact HREC3.out.frame (fun b h1 _ => hfr4 b (by have h1' : wr.heap.size ≤ b := h1; omega)) (by show _ ≤ wr.heap.size; omega) (by rw [setCell_size, HSZS.out]; exact Nat.le_refl _)
          · simp only [hij, if_false]
            exact (HDD.out.hr i q (by omega) hq).frame (fun b h1 h2 => (hfr4 b h1).trans (HB3.out.block b h2)) (Nat.le_refl _) (by rw [setCell_size, HSZS.out]; exact hsz3)
      have HFIN := Lib.hid hfin
      have hcc2 := Lib.hid (show cc + nodeLeaves g.kids = col + leaves (kids.take (j + 1)) from by rw [Hsn.out, HCC.out]; omega)
      have hb6 : Below w1.heap.size w1 (w3.setCell ⟨w1.heap.size + 1 + 1, j, none⟩ (.int .u16 ((cc : Int) + ↑(nodeLeaves g.kids) - ↑col))) := below_setCell HB5.out (by show _ ≤ w1.heap.size + 1 + 1; omega) _
      have HB6 := Lib.hid hb6
      have hx3 : (w3.setCell ⟨w1.heap.size + 1 + 1, j, none⟩ (.int .u16 ((cc : Int) + ↑(nodeLeaves g.kids) - ↑col))).cell? ⟨w1.heap.size + 1, 0, none⟩ = some (.slice (some ⟨w1.heap.size, 0, none⟩) kids.length kids.length) :=
        (World.cell?_of_block (a := ⟨w1.heap.size + 1, 0, none⟩) (setCell_other _ _ _ (by show w1.heap.size + 1 ≠ w1.heap.size + 1 + 1; omega))).trans hx1
      have hx4 : (w3.setCell ⟨w1.heap.size + 1 + 1, j, none⟩ (.int .u16 ((cc : Int) + ↑(nodeLeaves g.kids) - ↑col))).cell? ⟨w1.heap.size + 1 + 1 + 1, 0, none⟩ = some (.slice (some ⟨w1.heap.size + 1 + 1, 0, none⟩) kids.length kids.length) :=
        (World.cell?_of_block (a := ⟨w1.heap.size + 1 + 1 + 1, 0, none⟩) (setCell_other _ _ _ (by show w1.heap.size + 1 + 1 + 1 ≠ w1.heap.size + 1 + 1; omega))).trans hx2
      have HX3 := Lib.hid hx3
      have HX4 := Lib.hid hx4
      clear hfin hb6 hx3 hx4
      go_wp2_with fail
      go_roundw
      case rel => exact ⟨j + 1, cc + nodeLeaves g.kids, by omega, by go_num, by go_num, hcc2.out, HFIN.out, HX3.out, HX4.out, HB6.out, by rw [setCell_size, HSZS.out]; omega⟩
      case measure => simp [intOf]; omega
    · obtain rfl : j = kids.length := by omega
      go_wp2_with fail
      go_ret2
      obtain ⟨cs, os, F, C, D⟩ := HD.out
      have hcc3 : cc = col + nodeLeaves kids := by rw [HCC.out, List.take_of_length_le (Nat.le_refl _), HNL.out]
      refine ⟨159, _, by rw [hcc3]; rfl, ?_, HB1.out.trans (hb2.mono hfl)⟩
      refine .grp (w1.heap.size + 1) (w1.heap.size + 1 + 1 + 1) w1.heap.size (w1.heap.size + 1 + 1) kids.length kids F C HNE.out ⟨by omega, by omega⟩ ⟨by omega, by omega⟩ ⟨by omega, by omega⟩ ⟨by omega, by omega⟩ rfl hbox hbox2 (fun i f hf => ?_) (fun i f hf => ?_) (fun i f hf => ?_)
      · rw [D.row.cell]; exact D.hk i f (List.getElem?_eq_some_iff.1 hf).1 hf
      · rw [D.row2.cell]; exact D.hk2 i f (List.getElem?_eq_some_iff.1 hf).1 hf
      · exact (D.hr i f (List.getElem?_eq_some_iff.1 hf).1 hf).frame (fun _ _ _ => rfl) (by omega) (Nat.le_refl _)
end Go.Proofs.YtglgclkgppomiaaGreat

namespace Go.Proofs.YtglgclkgppomiaaGreat
open Go Go.RowKit

set_option maxHeartbeats 1000000 in
theorem rec115 (N : Nat) (hN : N + 1 ≤ 1000000000) (ih : RecIn N) (kids : List Fd) (k dp : Int) (d lo : Nat) (T : TypeId) (x : Value) (o r : Bool) (col : Nat) (w : World) (hs : fdsSize kids ≤ N) (hnd : IsNd w lo w.heap.size d T x o r k kids) (hd : d ≤ 20) (hok : OkN kids k dp) (hcol : col + nodeLeaves kids ≤ 65534) :
    Calls Tryz.prog 115 #[.int .u16 col, .iface T x] w (MakesRec col false false k kids w) := by
  obtain ⟨f, recv, hm, hcf, hcall⟩ := hnd.leafAns (by omega)
  have HC := Lib.hid hcall
  clear hcall
  by_cases hk : kids = []
  · subst hk
    have hcol' : col ≤ 65533 := by simp [nodeLeaves] at hcol; omega
    have HN := Lib.hid hnd
    clear hnd hcol
    go_enter Tryz.func115, Tryz.ntmps115
    go_wp2_with fail
    refine HC.out.mono ?_
    rintro e w1 ⟨rfl, rfl⟩
    clear hm hcf
    go_wp2_with fail
    refine (rec145 d lo T x o r k col w HN.out hd hcol').mono ?_
    rintro e w1 ⟨f2, cap, rfl, hdec, hb⟩
    have HD := Lib.hid hdec
    clear hdec
    go_wp2_with fail
    go_ret2
    exact ⟨f2, cap, rfl, HD.out, hb⟩
  · have HE : Hid (kids.isEmpty = false) := by show _ = _; cases kids with | nil => exact absurd rfl hk | cons _ _ => rfl
    have hk0 : k = 0 := by
      cases hnd.kindGroup with
      | inl h => exact absurd h hk
      | inr h => exact h
    subst hk0
    have hcol' : col + leaves kids ≤ 65534 := by unfold nodeLeaves at hcol; rw [if_neg hk] at hcol; exact hcol
    have HN := Lib.hid hnd
    have HOK := Lib.hid (hok.2 hk)
    have HK := Lib.hid hk
    clear hnd hcol hok hk
    go_enter Tryz.func115, Tryz.ntmps115
    go_wp2_with fail
    refine HC.out.mono ?_
    rintro e w1 ⟨rfl, rfl⟩
    rw [HE.out]
    clear hm hcf
    go_wp2_with fail
    refine (rec146 N ih kids dp d lo T x o r col w hs hN HN.out hd HK.out HOK.out hcol').mono ?_
    rintro e w1 ⟨f2, cap, rfl, hdec, hb⟩
    have HD := Lib.hid hdec
    clear hdec
    go_wp2_with fail
    go_ret2
    exact ⟨f2, cap, rfl, HD.out, hb⟩

set_option maxHeartbeats 1000000 in
theorem rec112 (kids : List Fd) (k : Int) (d lo : Nat) (T : TypeId) (x : Value) (o r : Bool) (col : Nat) (w : World) (hnd : IsNd w lo w.heap.size d T x o r k kids)
    (hin : ∀ (W : World) (lo : Nat) (T : TypeId) (x : Value), IsNd W lo W.heap.size (d + 1) T x false false k kids → Calls Tryz.prog 79 #[.int .u16 col, .iface T x] W (MakesRec col false false k kids W)) :
    Calls Tryz.prog 112 #[.int .u16 col, .iface T x] w (MakesRec col true r k kids w) := by
  have HI := Lib.hid hin
  have hnd2 : IsNd (w.alloc (.cells #[.iface T x] 169)) 0 (w.alloc (.cells #[.iface T x] 169)).heap.size (d + 1) 167 (.pointer (some ⟨w.heap.size, 0, none⟩)) false false k kids :=
    mk_req (lo := 0) (hnd.frame (fun _ _ _ => rfl) (Nat.zero_le _) (Nat.le_refl _)) (Nat.zero_le _)
  have HN := Lib.hid hnd2
  clear hin hnd hnd2
  go_enter Tryz.func112, Tryz.ntmps112
  go_wp2_with fail
  refine (required_any _ _ _).mono ?_
  rintro e w1 ⟨rfl, rfl⟩
  go_wp2_with fail
  refine (HI.out _ _ _ _ HN.out).mono ?_
  rintro e w2 ⟨f, cap, rfl, hdec, hb⟩
  have HD := Lib.hid hdec
  have hsz : w.heap.size + 1 ≤ w2.heap.size := by have := hb.size; simpa using this
  have hb2 : Below w.heap.size w w2 := ((Below.refl _ _).alloc (Nat.le_refl _) _).trans (hb.mono (by simp))
  clear hdec hb
  go_wp2_with fail
  go_ret2
  refine ⟨142, _, rfl, ?_, hb2.alloc hb2.size _⟩
  exact .opt w2.heap.size f cap r k kids hb2.size (by simp only [size_alloc1]; omega) (cnew rfl) ((HD.out).keep ((Below.refl _ _).alloc (Nat.le_refl _) _) (by simp) (by simp only [size_alloc1]; omega))

set_option maxHeartbeats 1000000 in
theorem rec113 (kids : List Fd) (k : Int) (d lo : Nat) (T : TypeId) (x : Value) (col : Nat) (w : World) (hlo : lo ≤ w.heap.size)
    (hin : Calls Tryz.prog 79 #[.int .u16 col, .iface T x] w (MakesRec col false false k kids w)) :
    Calls Tryz.prog 113 #[.int .u16 col, .iface T x] w (MakesRec col false true k kids w) := by
  have HI := Lib.hid hin
  clear hin
  go_enter Tryz.func113, Tryz.ntmps113
  go_wp2_with fail
  refine HI.out.mono ?_
  rintro e w2 ⟨f, cap, rfl, hdec, hb⟩
  have HD := Lib.hid hdec
  have hsz := hb.size
  clear hdec
  go_wp2_with fail
  go_ret2
  refine ⟨143, _, rfl, ?_, hb.alloc hb.size _⟩
  exact .rep w2.heap.size f cap k kids hb.size (by simp only [size_alloc1]; omega) (cnew rfl) ((HD.out).keep ((Below.refl _ _).alloc (Nat.le_refl _) _) (by simp) (by simp only [size_alloc1]; omega))

theorem fires17 {o : Bool} {w w1 : World} {e : Ending} (h : SaysBool o w e w1) : e = .returned (.bool o) ∧ w = w1 := h

set_option maxHeartbeats 1000000 in
theorem rec79_plain (N : Nat) (hN : N + 1 ≤ 1000000000) (ih : RecIn N) (kids : List Fd) (k dp : Int) (d lo : Nat) (T : TypeId) (x : Value) (col : Nat) (w : World) (hs : fdsSize kids ≤ N) (hnd : IsNd w lo w.heap.size d T x false false k kids) (hd : d ≤ 20) (hok : OkN kids k dp) (hcol : col + nodeLeaves kids ≤ 65534) :
    Calls Tryz.prog 79 #[.int .u16 col, .iface T x] w (MakesRec col false false k kids w) := by
  have HNX := Lib.hid (rec115 N hN ih kids k dp d lo T x false false col w hs hnd hd hok hcol)
  obtain ⟨f, recv, hm, hcf, hcall⟩ := hnd.optAns (by omega)
  obtain ⟨f2, recv2, hm2, hcf2, hcall2⟩ := hnd.repAns (by omega)
  have HC := Lib.hid hcall
  have HC2 := Lib.hid hcall2
  clear hcall hcall2 hnd hok ih hcol hs hd
  go_enter Tryz.func79, Tryz.ntmps79
  go_wp2_with fail
  refine HC.out.mono ?_
  rintro e w1 ⟨rfl, rfl⟩
  go_wp2_with fail
  refine HC2.out.mono ?_
  rintro e w1 ⟨rfl, rfl⟩
  clear hm hcf hm2 hcf2
  go_wp2_with fail
  refine HNX.out.mono ?_
  rintro e w1 ⟨f3, cap, rfl, hdec, hb⟩
  have HD := Lib.hid hdec
  clear hdec
  go_wp2_with fail
  go_ret2
  exact ⟨f3, cap, rfl, HD.out, hb⟩

set_option maxHeartbeats 1000000 in
theorem rec_step (N : Nat) (hN : N + 1 ≤ 1000000000) (ih : RecIn N) : RecIn (N + 1) := by
  intro kids k dp d lo T x o r col w hs' hnd hd hok hcol
  have hs : fdsSize kids ≤ N := by omega
  clear hs'
  cases o with
  | true =>
    have HNX := Lib.hid (rec112 kids k d lo T x true r col w hnd (fun W lo' T' x' h' => rec79_plain N hN ih kids k dp (d + 1) lo' T' x' col W hs h' (by omega) hok hcol))
    obtain ⟨f, recv, hm, hcf, hcall⟩ := hnd.optAns (by omega)
    have HC := Lib.hid hcall
    clear hcall hnd hok ih hcol hs hd
    go_enter Tryz.func79, Tryz.ntmps79
    go_wp2_with fail
    refine HC.out.mono ?_
    rintro e w1 ⟨rfl, rfl⟩
    clear hm hcf
    go_wp2_with fail
    refine HNX.out.mono ?_
    rintro e w1 ⟨f3, cap, rfl, hdec, hb⟩
    have HD := Lib.hid hdec
    clear hdec
    go_wp2_with fail
    go_ret2
    exact ⟨f3, cap, rfl, HD.out, hb⟩
  | false =>
    cases r with
    | false => exact rec79_plain N hN ih kids k dp d lo T x col w hs hnd (by omega) hok hcol
    | true =>
      have hnd2 : IsNd (w.alloc (.cells #[.iface T x] 169)) 0 (w.alloc (.cells #[.iface T x] 169)).heap.size (d + 1) 167 (.pointer (some ⟨w.heap.size, 0, none⟩)) false false k kids :=
        mk_req (lo := 0) (hnd.frame (fun _ _ _ => rfl) (Nat.zero_le _) (Nat.le_refl _)) (Nat.zero_le _)
      have HNX := Lib.hid (rec79_plain N hN ih kids k dp (d + 1) 0 _ _ col _ hs hnd2 (by omega) hok hcol)
      obtain ⟨f, recv, hm, hcf, hcall⟩ := hnd.optAns (by omega)
      obtain ⟨f2, recv2, hm2, hcf2, hcall2⟩ := hnd.repAns (by omega)
      have HC := Lib.hid hcall
      have HC2 := Lib.hid hcall2
      clear hcall hcall2 hnd hok ih hcol hs hd hnd2
      go_enter Tryz.func79, Tryz.ntmps79
      go_wp2_with fail
      refine HC.out.mono ?_
      rintro e w1 ⟨rfl, rfl⟩
      go_wp2_with fail
      refine HC2.out.mono ?_
      rintro e w1 ⟨rfl, rfl⟩
      clear hm hcf hm2 hcf2
      go_wp2_with fail
      refine (required_any _ _ _).mono ?_
      rintro e w1 ⟨rfl, rfl⟩
      go_wp2_with fail
      refine (rec113 kids k (d + 1) 0 _ _ col _ (Nat.zero_le _) HNX.out).mono ?_
      rintro e w1 ⟨f3, cap, rfl, hdec, hb⟩
      have HD := Lib.hid (hdec.frame (lo' := w.heap.size) (B' := w1.heap.size) (fun _ _ _ => rfl) (by simp) (Nat.le_refl _))
      have hb2 : Below w.heap.size w w1 := ((Below.refl _ _).alloc (Nat.le_refl _) _).trans (hb.mono (by simp))
      clear hdec hb
      go_wp2_with fail
      go_ret2
      exact ⟨f3, cap, rfl, HD.out, hb2⟩
theorem rec_all (N : Nat) : N ≤ 1000000000 → RecIn N := by
  induction N with
  | zero => exact fun _ kids k dp d lo T x o r col w hs => absurd hs (by omega)
  | succ N ih => exact fun hN => rec_step N hN (ih (by omega))
/-- reconstructFuncOf makes the closure of a node. -/
theorem rec_any (kids : List Fd) (k dp : Int) (d lo : Nat) (T : TypeId) (x : Value) (o r : Bool) (col : Nat) (w : World) (hs : fdsSize kids ≤ 100000000) (hnd : IsNd w lo w.heap.size d T x o r k kids) (hd : d ≤ 10) (hok : OkN kids k dp) (hcol : col + nodeLeaves kids ≤ 65534) :
    Calls Tryz.prog 79 #[.int .u16 col, .iface T x] w (MakesRec col o r k kids w) := rec_all _ (by omega : fdsSize kids + 1 ≤ 1000000000) kids k dp d lo T x o r col w (Nat.lt_succ_self _) hnd hd hok hcol
end Go.Proofs.YtglgclkgppomiaaGreat

namespace Go.Proofs.YtglgclkgppomiaaGreat
open Go Go.RowKit

set_option maxHeartbeats 1000000 in
theorem dec111 (N : Nat) (hN : N + 1 ≤ 1000000000) (ih : DecIn N) (kids : List Fd) (k dp : Int) (d lo : Nat) (T : TypeId) (x : Value) (o r : Bool) (col : Nat) (w : World) (hs : fdsSize kids ≤ N) (hnd : IsNd w lo w.heap.size d T x o r k kids) (hd : d ≤ 20) (hok : OkN kids k dp) (hcol : col + nodeLeaves kids ≤ 65534) :
    Calls Tryz.prog 111 #[.int .u16 col, .iface T x] w (MakesDec col false false k kids w) := by
  obtain ⟨f, recv, hm, hcf, hcall⟩ := hnd.leafAns (by omega)
  have HC := Lib.hid hcall
  clear hcall
  by_cases hk : kids = []
  · subst hk
    have hcol' : col ≤ 65533 := by simp [nodeLeaves] at hcol; omega
    have HN := Lib.hid hnd
    clear hnd hcol
    go_enter Tryz.func111, Tryz.ntmps111
    go_wp2_with fail
    refine HC.out.mono ?_
    rintro e w1 ⟨rfl, rfl⟩
    clear hm hcf
    go_wp2_with fail
    refine (dec140 d lo T x o r k col w HN.out hd hcol').mono ?_
    rintro e w1 ⟨f2, cap, rfl, hdec, hb⟩
    have HD := Lib.hid hdec
    clear hdec
    go_wp2_with fail
    go_ret2
    exact ⟨f2, cap, rfl, HD.out, hb⟩
  · have HE : Hid (kids.isEmpty = false) := by show _ = _; cases kids with | nil => exact absurd rfl hk | cons _ _ => rfl
    have hk0 : k = 0 := by
      cases hnd.kindGroup with
      | inl h => exact absurd h hk
      | inr h => exact h
    subst hk0
    have hcol' : col + leaves kids ≤ 65534 := by unfold nodeLeaves at hcol; rw [if_neg hk] at hcol; exact hcol
    have HN := Lib.hid hnd
    have HOK := Lib.hid (hok.2 hk)
    have HK := Lib.hid hk
    clear hnd hcol hok hk
    go_enter Tryz.func111, Tryz.ntmps111
    go_wp2_with fail
    refine HC.out.mono ?_
    rintro e w1 ⟨rfl, rfl⟩
    rw [HE.out]
    clear hm hcf
    go_wp2_with fail
    refine (dec141 N ih kids dp d lo T x o r col w hs hN HN.out hd HK.out HOK.out hcol').mono ?_
    rintro e w1 ⟨f2, cap, rfl, hdec, hb⟩
    have HD := Lib.hid hdec
    clear hdec
    go_wp2_with fail
    go_ret2
    exact ⟨f2, cap, rfl, HD.out, hb⟩

set_option maxHeartbeats 1000000 in
theorem dec109 (kids : List Fd) (k : Int) (d lo : Nat) (T : TypeId) (x : Value) (o r : Bool) (col : Nat) (w : World) (hnd : IsNd w lo w.heap.size d T x o r k kids)
    (hin : ∀ (W : World) (lo : Nat) (T : TypeId) (x : Value), IsNd W lo W.heap.size (d + 1) T x false false k kids → Calls Tryz.prog 78 #[.int .u16 col, .iface T x] W (MakesDec col false false k kids W)) :
    Calls Tryz.prog 109 #[.int .u16 col, .iface T x] w (MakesDec col true r k kids w) := by
  have HI := Lib.hid hin
  have hnd2 : IsNd (w.alloc (.cells #[.iface T x] 169)) 0 (w.alloc (.cells #[.iface T x] 169)).heap.size (d + 1) 167 (.pointer (some ⟨w.heap.size, 0, none⟩)) false false k kids :=
    mk_req (lo := 0) (hnd.frame (fun _ _ _ => rfl) (Nat.zero_le _) (Nat.le_refl _)) (Nat.zero_le _)
  have HN := Lib.hid hnd2
  clear hin hnd hnd2
  go_enter Tryz.func109, Tryz.ntmps109
  go_wp2_with fail
  refine (required_any _ _ _).mono ?_
  rintro e w1 ⟨rfl, rfl⟩
  go_wp2_with fail
  refine (HI.out _ _ _ _ HN.out).mono ?_
  rintro e w2 ⟨f, cap, rfl, hdec, hb⟩
  have HD := Lib.hid hdec
  have hsz : w.heap.size + 1 ≤ w2.heap.size := by have := hb.size; simpa using this
  have hb2 : Below w.heap.size w w2 := ((Below.refl _ _).alloc (Nat.le_refl _) _).trans (hb.mono (by simp))
  clear hdec hb
  go_wp2_with fail
  go_ret2
  refine ⟨136, _, rfl, ?_, hb2.alloc hb2.size _⟩
  exact .opt w2.heap.size col f cap r k kids hb2.size (by simp only [size_alloc1]; omega) (cnew rfl) ((HD.out).keep ((Below.refl _ _).alloc (Nat.le_refl _) _) (by simp) (by simp only [size_alloc1]; omega))

set_option maxHeartbeats 1000000 in
theorem dec110 (kids : List Fd) (k : Int) (d lo : Nat) (T : TypeId) (x : Value) (o r : Bool) (col : Nat) (w : World) (hnd : IsNd w lo w.heap.size d T x o r k kids)
    (hin : ∀ (W : World) (lo : Nat) (T : TypeId) (x : Value), IsNd W lo W.heap.size (d + 1) T x false false k kids → Calls Tryz.prog 78 #[.int .u16 col, .iface T x] W (MakesDec col false false k kids W)) :
    Calls Tryz.prog 110 #[.int .u16 col, .iface T x] w (MakesDec col false true k kids w) := by
  have HI := Lib.hid hin
  have hnd2 : IsNd (w.alloc (.cells #[.iface T x] 169)) 0 (w.alloc (.cells #[.iface T x] 169)).heap.size (d + 1) 167 (.pointer (some ⟨w.heap.size, 0, none⟩)) false false k kids :=
    mk_req (lo := 0) (hnd.frame (fun _ _ _ => rfl) (Nat.zero_le _) (Nat.le_refl _)) (Nat.zero_le _)
  have HN := Lib.hid hnd2
  clear hin hnd hnd2
  go_enter Tryz.func110, Tryz.ntmps110
  go_wp2_with fail
  refine (required_any _ _ _).mono ?_
  rintro e w1 ⟨rfl, rfl⟩
  go_wp2_with fail
  refine (HI.out _ _ _ _ HN.out).mono ?_
  rintro e w2 ⟨f, cap, rfl, hdec, hb⟩
  have HD := Lib.hid hdec
  have hsz : w.heap.size + 1 ≤ w2.heap.size := by have := hb.size; simpa using this
  have hb2 : Below w.heap.size w w2 := ((Below.refl _ _).alloc (Nat.le_refl _) _).trans (hb.mono (by simp))
  clear hdec hb
  go_wp2_with fail
  go_ret2
  refine ⟨139, _, rfl, ?_, hb2.alloc hb2.size _⟩
  exact .rep w2.heap.size col f cap k kids hb2.size (by simp only [size_alloc1]; omega) (cnew rfl) ((HD.out).keep ((Below.refl _ _).alloc (Nat.le_refl _) _) (by simp) (by simp only [size_alloc1]; omega))

theorem fires {o : Bool} {w w1 : World} {e : Ending} (h : SaysBool o w e w1) : e = .returned (.bool o) ∧ w = w1 := h

set_option maxHeartbeats 1000000 in
theorem dec78_plain (N : Nat) (hN : N + 1 ≤ 1000000000) (ih : DecIn N) (kids : List Fd) (k dp : Int) (d lo : Nat) (T : TypeId) (x : Value) (col : Nat) (w : World) (hs : fdsSize kids ≤ N) (hnd : IsNd w lo w.heap.size d T x false false k kids) (hd : d ≤ 20) (hok : OkN kids k dp) (hcol : col + nodeLeaves kids ≤ 65534) :
    Calls Tryz.prog 78 #[.int .u16 col, .iface T x] w (MakesDec col false false k kids w) := by
  have HNX := Lib.hid (dec111 N hN ih kids k dp d lo T x false false col w hs hnd hd hok hcol)
  obtain ⟨f, recv, hm, hcf, hcall⟩ := hnd.optAns (by omega)
  obtain ⟨f2, recv2, hm2, hcf2, hcall2⟩ := hnd.repAns (by omega)
  have HC := Lib.hid hcall
  have HC2 := Lib.hid hcall2
  clear hcall hcall2 hnd hok ih hcol hs hd
  go_enter Tryz.func78, Tryz.ntmps78
  go_wp2_with fail
  refine HC.out.mono ?_
  rintro e w1 ⟨rfl, rfl⟩
  go_wp2_with fail
  refine HC2.out.mono ?_
  rintro e w1 ⟨rfl, rfl⟩
  clear hm hcf hm2 hcf2
  go_wp2_with fail
  refine HNX.out.mono ?_
  rintro e w1 ⟨f3, cap, rfl, hdec, hb⟩
  have HD := Lib.hid hdec
  clear hdec
  go_wp2_with fail
  go_ret2
  exact ⟨f3, cap, rfl, HD.out, hb⟩

set_option maxHeartbeats 1000000 in
theorem dec_step (N : Nat) (hN : N + 1 ≤ 1000000000) (ih : DecIn N) : DecIn (N + 1) := by
  intro kids k dp d lo T x o r col w hs' hnd hd hok hcol
  have hs : fdsSize kids ≤ N := by omega
  clear hs'
  cases o with
  | true =>
    have HNX := Lib.hid (dec109 kids k d lo T x true r col w hnd (fun W lo' T' x' h' => dec78_plain N hN ih kids k dp (d + 1) lo' T' x' col W hs h' (by omega) hok hcol))
    obtain ⟨f, recv, hm, hcf, hcall⟩ := hnd.optAns (by omega)
    have HC := Lib.hid hcall
    clear hcall hnd hok ih hcol hs hd
    go_enter Tryz.func78, Tryz.ntmps78
    go_wp2_with fail
    refine HC.out.mono ?_
    rintro e w1 ⟨rfl, rfl⟩
    clear hm hcf
    go_wp2_with fail
    refine HNX.out.mono ?_
    rintro e w1 ⟨f3, cap, rfl, hdec, hb⟩
    have HD := Lib.hid hdec
    clear hdec
    go_wp2_with fail
    go_ret2
    exact ⟨f3, cap, rfl, HD.out, hb⟩
  | false =>
    cases r with
    | false => exact dec78_plain N hN ih kids k dp d lo T x col w hs hnd (by omega) hok hcol
    | true =>
      have HNX := Lib.hid (dec110 kids k d lo T x false true col w hnd (fun W lo' T' x' h' => dec78_plain N hN ih kids k dp (d + 1) lo' T' x' col W hs h' (by omega) hok hcol))
      obtain ⟨f, recv, hm, hcf, hcall⟩ := hnd.optAns (by omega)
      obtain ⟨f2, recv2, hm2, hcf2, hcall2⟩ := hnd.repAns (by omega)
      have HC := Lib.hid hcall
      have HC2 := Lib.hid hcall2
      clear hcall hcall2 hnd hok ih hcol hs hd
      go_enter Tryz.func78, Tryz.ntmps78
      go_wp2_with fail
      refine HC.out.mono ?_
      rintro e w1 ⟨rfl, rfl⟩
      go_wp2_with fail
      refine HC2.out.mono ?_
      rintro e w1 ⟨rfl, rfl⟩
      clear hm hcf hm2 hcf2
      go_wp2_with fail
      refine HNX.out.mono ?_
      rintro e w1 ⟨f3, cap, rfl, hdec, hb⟩
      have HD := Lib.hid hdec
      clear hdec
      go_wp2_with fail
      go_ret2
      exact ⟨f3, cap, rfl, HD.out, hb⟩
theorem dec_all (N : Nat) : N ≤ 1000000000 → DecIn N := by
  induction N with
  | zero => exact fun _ kids k dp d lo T x o r col w hs => absurd hs (by omega)
  | succ N ih => exact fun hN => dec_step N hN (ih (by omega))
/-- deconstructFuncOf makes the closure of a node. -/
theorem dec_any (kids : List Fd) (k dp : Int) (d lo : Nat) (T : TypeId) (x : Value) (o r : Bool) (col : Nat) (w : World) (hs : fdsSize kids ≤ 100000000) (hnd : IsNd w lo w.heap.size d T x o r k kids) (hd : d ≤ 10) (hok : OkN kids k dp) (hcol : col + nodeLeaves kids ≤ 65534) :
    Calls Tryz.prog 78 #[.int .u16 col, .iface T x] w (MakesDec col o r k kids w) := dec_all _ (by omega : fdsSize kids + 1 ≤ 1000000000) kids k dp d lo T x o r col w (Nat.lt_succ_self _) hnd hd hok hcol
end Go.Proofs.YtglgclkgppomiaaGreat
