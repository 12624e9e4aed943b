/- The walk of impl.once. The walk of impl.datum: a field that is missing, or that is there once. The walk of impl.datum: a field that is repeated. The walk of impl.data. What impl.data, impl.datum and impl.once tell of the trees of data: the very data. The walk of impl.Reconstruct. The walk of roBoth, at the cells of the row. The walk of roWorks. -/
import Derived.Test.YtglgclkgppomiaaGreatZ02
import Derived.Test.YtglgclkgppomiaaGreatZ20
set_option linter.unusedVariables false
set_option linter.unusedSimpArgs false
namespace Go.Proofs.YtglgclkgppomiaaGreat
open Go Go.RowKit

theorem sz43 : (Tryz.prog.info? 43).map (·.size) = some 4 := by kernel_rfl
theorem RowB.c4 {w : World} {g : Nat} {t : TypeId} {a b c d : Value} (h : RowB w g t #[a, b, c, d]) : w.cell? ⟨g, 0, none⟩ = some a ∧ w.cell? ⟨g, 1, none⟩ = some b ∧ w.cell? ⟨g, 2, none⟩ = some c ∧ w.cell? ⟨g, 3, none⟩ = some d := ⟨h.cell 0, h.cell 1, h.cell 2, h.cell 3⟩
theorem RowB.set4 {w : World} {g : Nat} {t : TypeId} {a0 a1 a2 a3 : Value} (h : RowB w g t #[a0, a1, a2, a3]) (b0 b1 b2 b3 : Value) :
    RowB ((((w.setCell ⟨g, 0, none⟩ b0).setCell ⟨g, 1, none⟩ b1).setCell ⟨g, 2, none⟩ b2).setCell ⟨g, 3, none⟩ b3) g t #[b0, b1, b2, b3] := by
  have h0 : RowB _ g t #[b0, a1, a2, a3] := h.set 0 b0
  have h1 : RowB _ g t #[b0, b1, a2, a3] := h0.set 1 b1
  have h2 : RowB _ g t #[b0, b1, b2, a3] := h1.set 2 b2
  exact h2.set 3 b3
theorem below_set4 {B : Nat} {w w' : World} (h : Below B w w') {g : Nat} (hg : B ≤ g) (b0 b1 b2 b3 : Value) : Below B w ((((w'.setCell ⟨g, 0, none⟩ b0).setCell ⟨g, 1, none⟩ b1).setCell ⟨g, 2, none⟩ b2).setCell ⟨g, 3, none⟩ b3) :=
  below_setCell (below_setCell (below_setCell (below_setCell h hg _) hg _) hg _) hg _
theorem set4_frame (w : World) (g : Nat) (b0 b1 b2 b3 : Value) {b : Nat} (hne : b ≠ g) : ((((w.setCell ⟨g, 0, none⟩ b0).setCell ⟨g, 1, none⟩ b1).setCell ⟨g, 2, none⟩ b2).setCell ⟨g, 3, none⟩ b3).heap[b]? = w.heap[b]? := by
  rw [setCell_other (b := b) _ ⟨g, 3, none⟩ _ hne, setCell_other (b := b) _ ⟨g, 2, none⟩ _ hne, setCell_other (b := b) _ ⟨g, 1, none⟩ _ hne, setCell_other (b := b) _ ⟨g, 0, none⟩ _ hne]

set_option maxRecDepth 100000 in
set_option maxHeartbeats 2000000 in
theorem once131_leaf (name : ByteArray) (way k num : Int) (t : ByteArray) (hc : canOk k num t) (A : Option Addr) (c : Nat) (D : Option Addr) (dn dc : Nat) (u : Int) (A2 : Option Addr) (n2 c2 : Nat) (w : World) (hv : VR w 0 w.heap.size false k num t D dn dc u) :
    Calls Tryz.prog 131 #[.agg #[.string name, .int .i64 way, .int .i64 k, .slice A 0 c], trVal 2 D dn dc u (kdOf false k) A2 n2 c2] w (MakesDt (.mk false num t []) w) := by
  have HC := Lib.hid hc
  have HV := Lib.hid hv
  have hb0 : Below w.heap.size w (((w.alloc (.cells #[.string name, .int .i64 way, .int .i64 k, .slice A 0 c] 41)).alloc (.cells (trCells 2 D dn dc u (kdOf false k) A2 n2 c2) 79)).alloc (.cells #[.bool false, .int .i64 0, .string .empty, .slice none 0 0] 43)) :=
    (((Below.refl _ _).alloc (Nat.le_refl _) _).alloc (by simp) _).alloc (by simp; omega) _
  have HB0 := Lib.hid hb0
  have hs0 : (((w.alloc (.cells #[.string name, .int .i64 way, .int .i64 k, .slice A 0 c] 41)).alloc (.cells (trCells 2 D dn dc u (kdOf false k) A2 n2 c2) 79)).alloc (.cells #[.bool false, .int .i64 0, .string .empty, .slice none 0 0] 43)).heap.size = w.heap.size + 3 := by simp
  have HS0 := Lib.hid hs0
  clear hc hv hb0 hs0
  go_enter Tryz.func131, Tryz.ntmps131
  go_wp2_with fail
  refine (plain76k k num t HC.out 0 w.heap.size D dn dc u 0 0 0 _ (HV.out.frame (fun b _ h => HB0.out.block b h) (Nat.le_refl _) (Nat.le_refl _)) HB0.out.size).mono ?_
  rintro e w1 ⟨rfl, hb⟩
  have r2 : RowB w1 (w.heap.size + 1 + 1) 43 #[.bool false, .int .i64 0, .string .empty, .slice none 0 0] := (rowB_new (by simp)).keep hb (by simp)
  have hb2 : Below w.heap.size w w1 := HB0.out.trans (hb.mono HB0.out.size)
  obtain ⟨t0, t1, t2, t3⟩ := r2.c4
  have y0 := r2.free 0
  have y1 := r2.free 1
  have y2 := r2.free 2
  have y3 := r2.free 3
  clear hb
  go_wp2_with fail
  (try simp only [Exit.inBlock, Exit.then])
  refine bodyPost_ret (results_cell_row rfl _ _ _ 43 _ (0, 0) _ rfl (r2.set4 _ _ _ _) Tryz.underlying43 rfl sz43) rfl ?_
  exact ⟨none, 0, rfl, .nil _ _, below_set4 hb2 (g := w.heap.size + 1 + 1) (by omega) _ _ _ _⟩

set_option maxRecDepth 100000 in
set_option maxHeartbeats 2000000 in
theorem once131_group (name : ByteArray) (way k : Int) (A : Option Addr) (n c : Nat) (hn : n ≠ 0) (ds : List Dt) (D : Option Addr) (dn dc : Nat) (u kd : Int) (A2 : Option Addr) (n2 c2 : Nat) (w : World)
    (hin : ∀ W, Below w.heap.size w W → Calls Tryz.prog 54 #[.slice A n c, trVal 4 D dn dc u kd A2 n2 c2] W (MakesDts ds W)) :
    Calls Tryz.prog 131 #[.agg #[.string name, .int .i64 way, .int .i64 k, .slice A n c], trVal 4 D dn dc u kd A2 n2 c2] w (MakesDt (.mk false 0 .empty ds) w) := by
  have HIN := Lib.hid hin
  have hb0 : Below w.heap.size w (((w.alloc (.cells #[.string name, .int .i64 way, .int .i64 k, .slice A n c] 41)).alloc (.cells (trCells 4 D dn dc u kd A2 n2 c2) 79)).alloc (.cells #[.bool false, .int .i64 0, .string .empty, .slice none 0 0] 43)) :=
    (((Below.refl _ _).alloc (Nat.le_refl _) _).alloc (by simp) _).alloc (by simp; omega) _
  have HB0 := Lib.hid hb0
  have hn0 : (0 : Int) < (n : Int) := by omega
  clear hin hb0
  go_enter Tryz.func131, Tryz.ntmps131
  go_wp2_with fail
  refine (HIN.out _ HB0.out).mono ?_
  rintro e w1 ⟨A', c', rfl, hd, hb⟩
  have r2 : RowB w1 (w.heap.size + 1 + 1) 43 #[.bool false, .int .i64 0, .string .empty, .slice none 0 0] := (rowB_new (by simp)).keep hb (by simp)
  have hb2 : Below w.heap.size w w1 := HB0.out.trans (hb.mono HB0.out.size)
  simp only [size_alloc1] at hd
  have HD := Lib.hid hd
  have hlt := r2.lt
  obtain ⟨t0, t1, t2, t3⟩ := r2.c4
  have y0 := r2.free 0
  have y1 := r2.free 1
  have y2 := r2.free 2
  have y3 := r2.free 3
  clear hb hd
  go_wp2_with fail
  (try simp only [Exit.inBlock, Exit.then])
  refine bodyPost_ret (results_cell_row rfl _ _ _ 43 _ (0, 0) _ rfl (r2.set4 _ _ _ _) Tryz.underlying43 rfl sz43) rfl ?_
  refine ⟨A', c', rfl, ?_, below_set4 hb2 (g := w.heap.size + 1 + 1) (by omega) _ _ _ _⟩
  exact HD.out.frame (fun b h1 _ => set4_frame _ _ _ _ _ _ (by omega)) (by omega) (by simp only [setCell_size]; exact Nat.le_refl _)
end Go.Proofs.YtglgclkgppomiaaGreat

namespace Go.Proofs.YtglgclkgppomiaaGreat
open Go Go.RowKit

set_option maxRecDepth 100000 in
set_option maxHeartbeats 2000000 in
theorem datum87_null (name : ByteArray) (k : Int) (A : Option Addr) (n c : Nat) (D : Option Addr) (dn dc : Nat) (u kd : Int) (A2 : Option Addr) (n2 c2 : Nat) (w : World) :
    Calls Tryz.prog 87 #[.agg #[.string name, .int .i64 1, .int .i64 k, .slice A n c], trVal 1 D dn dc u kd A2 n2 c2] w (MakesDt (.mk true 0 .empty []) w) := by
  have hb0 : Below w.heap.size w (((w.alloc (.cells #[.string name, .int .i64 1, .int .i64 k, .slice A n c] 41)).alloc (.cells (trCells 1 D dn dc u kd A2 n2 c2) 79)).alloc (.cells #[.bool true, .int .i64 0, .string .empty, .slice none 0 0] 43)) :=
    (((Below.refl _ _).alloc (Nat.le_refl _) _).alloc (by simp) _).alloc (by simp; omega) _
  have hr : RowB (((w.alloc (.cells #[.string name, .int .i64 1, .int .i64 k, .slice A n c] 41)).alloc (.cells (trCells 1 D dn dc u kd A2 n2 c2) 79)).alloc (.cells #[.bool true, .int .i64 0, .string .empty, .slice none 0 0] 43)) (w.heap.size + 1 + 1) 43 #[.bool true, .int .i64 0, .string .empty, .slice none 0 0] := rowB_new (by simp)
  go_enter Tryz.func87, Tryz.ntmps87
  go_wp2_with fail
  (try simp only [Exit.inBlock, Exit.then])
  refine bodyPost_ret (results_cell_row rfl _ _ _ 43 _ (0, 0) _ rfl hr Tryz.underlying43 rfl sz43) rfl ?_
  exact ⟨none, 0, rfl, .nil _ _, hb0⟩

set_option maxRecDepth 100000 in
set_option maxHeartbeats 2000000 in
theorem datum87_once (name : ByteArray) (way k : Int) (hw : way = 0 ∨ way = 1) (A : Option Addr) (n c : Nat) (d : Dt) (tk : Int) (htk : tk ≠ 0 ∧ tk ≠ 1) (D : Option Addr) (dn dc : Nat) (u kd : Int) (A2 : Option Addr) (n2 c2 : Nat) (w : World)
    (hin : ∀ W, Below w.heap.size w W → Calls Tryz.prog 131 #[.agg #[.string name, .int .i64 way, .int .i64 k, .slice A n c], trVal tk D dn dc u kd A2 n2 c2] W (MakesDt d W)) :
    Calls Tryz.prog 87 #[.agg #[.string name, .int .i64 way, .int .i64 k, .slice A n c], trVal tk D dn dc u kd A2 n2 c2] w (MakesDt d w) := by
  have HIN := Lib.hid hin
  have hb0 : Below w.heap.size w (((w.alloc (.cells #[.string name, .int .i64 way, .int .i64 k, .slice A n c] 41)).alloc (.cells (trCells tk D dn dc u kd A2 n2 c2) 79)).alloc (.cells #[.bool false, .int .i64 0, .string .empty, .slice none 0 0] 43)) :=
    (((Below.refl _ _).alloc (Nat.le_refl _) _).alloc (by simp) _).alloc (by simp; omega) _
  have HB0 := Lib.hid hb0
  have h0 : (tk == 0) = false := by simpa using htk.1
  have h1 : (tk == 1) = false := by simpa using htk.2
  clear hin hb0 htk
  rcases hw with rfl | rfl
  all_goals
    go_enter Tryz.func87, Tryz.ntmps87
    go_wp2_with fail
    refine (HIN.out _ HB0.out).mono ?_
    rintro e w1 ⟨A', c', rfl, hd, hb⟩
    have r2 : RowB w1 (w.heap.size + 1 + 1) 43 #[.bool false, .int .i64 0, .string .empty, .slice none 0 0] := (rowB_new (by simp)).keep hb (by simp)
    have hb2 : Below w.heap.size w w1 := HB0.out.trans (hb.mono HB0.out.size)
    simp only [size_alloc1] at hd
    have HD := Lib.hid hd
    have hlt := r2.lt
    obtain ⟨t0, t1, t2, t3⟩ := r2.c4
    have y0 := r2.free 0
    have y1 := r2.free 1
    have y2 := r2.free 2
    have y3 := r2.free 3
    clear hb hd
    go_wp2_with fail
    (try simp only [Exit.inBlock, Exit.then])
    refine bodyPost_ret (results_cell_row rfl _ _ _ 43 _ (0, 0) _ rfl (r2.set4 _ _ _ _) Tryz.underlying43 rfl sz43) rfl ?_
    refine ⟨A', c', rfl, ?_, below_set4 hb2 (g := w.heap.size + 1 + 1) (by omega) _ _ _ _⟩
    exact HD.out.frame (fun b h1 _ => set4_frame _ _ _ _ _ _ (by omega)) (by omega) (by simp only [setCell_size]; exact Nat.le_refl _)
end Go.Proofs.YtglgclkgppomiaaGreat

namespace Go.Proofs.YtglgclkgppomiaaGreat
open Go Go.RowKit

theorem info43 : (Tryz.prog.info? 43).map (fun i => (i.zero, i.size, i.bytes)) = some (some (.agg #[.bool false, .int .i64 0, .string .empty, .slice none 0 0]), 4, 56) := by kernel_rfl

set_option maxRecDepth 100000 in
set_option maxHeartbeats 4000000 in
theorem datum87_rep (name : ByteArray) (k : Int) (A : Option Addr) (n c : Nat) (ts : List Tr) (ds : List Dt) (D : Option Addr) (dn dc : Nat) (u kd : Int) (A2 : Option Addr) (n2 c2 : Nat) (w : World) (hts : TrsAt w 0 w.heap.size A2 n2 c2 ts) (hds : ds.length = n2) (hn : n2 ≤ 1000000)
    (hin : ∀ (W : World) (j : Nat) (t : Tr) (d : Dt) (D : Option Addr) (dn dc : Nat) (u : Int) (A2 : Option Addr) (c2 : Nat), ts[j]? = some t → ds[j]? = some d → Below w.heap.size w W → TrAt W 0 w.heap.size t D dn dc u A2 c2 →
      Calls Tryz.prog 131 #[.agg #[.string name, .int .i64 2, .int .i64 k, .slice A n c], trVal t.k D dn dc u (kdOf (t.k != 2) t.lk) A2 t.items.length c2] W (MakesDt d W)) :
    Calls Tryz.prog 87 #[.agg #[.string name, .int .i64 2, .int .i64 k, .slice A n c], trVal 3 D dn dc u kd A2 n2 c2] w (MakesDt (.mk false 0 .empty ds) w) := by
  have HIN := Lib.hid hin
  have HTS := Lib.hid hts
  have HDS := Lib.hid hds
  obtain ⟨i43, j1, j2, j3, j4⟩ := info_parts info43
  have J1 := Lib.hid j1
  have J2 := Lib.hid j2
  have J3 := Lib.hid j3
  have J4 := Lib.hid j4
  clear hin hts hds j1 j2 j3 j4
  go_enter Tryz.func87, Tryz.ntmps87
  go_wp2_with fail
  refine (len132 3 D dn dc u kd A2 n2 c2 _).mono ?_
  rintro e w1 ⟨rfl, hb⟩
  have r0 : RowB w1 w.heap.size 41 #[.string name, .int .i64 2, .int .i64 k, .slice A n c] := ((((RowB.new _ _ _).alloc _).alloc _).alloc _).keep hb (by simp only [size_alloc1]; omega)
  have r1 : RowB w1 (w.heap.size + 1) 79 (trCells 3 D dn dc u kd A2 n2 c2) := (((rowB_new (by simp)).alloc _).alloc _).keep hb (by simp only [size_alloc1]; omega)
  have r2 : RowB w1 (w.heap.size + 2) 43 #[.bool false, .int .i64 0, .string .empty, .slice none 0 0] := ((rowB_new (by simp)).alloc _).keep hb (by simp only [size_alloc1]; omega)
  have r3 : RowB w1 (w.heap.size + 3) 43 #[.bool false, .int .i64 0, .string .empty, .slice none 0 0] := (rowB_new (by simp)).keep hb (by simp only [size_alloc1]; omega)
  have hsz1 : w.heap.size + 4 ≤ w1.heap.size := by have := hb.size; simp only [size_alloc1] at this; omega
  have hb1 : Below w.heap.size w w1 := by
    have h1 := hb.mono (B' := w.heap.size) (by simp; omega)
    refine Below.trans ?_ h1
    exact ((((Below.refl _ _).alloc (Nat.le_refl _) _).alloc (by simp) _).alloc (by simp; omega) _).alloc (by simp; omega) _
  have R0 := Lib.hid r0
  have R1 := Lib.hid r1
  have R2 := Lib.hid r2
  have R3 := Lib.hid r3
  have HB1 := Lib.hid hb1
  clear r0 r1 r2 r3 hb hb1
  go_wp2_with fail
  go_loopw [31] (fun i wr => ∃ (j : Nat) (v : Value) (xs : List Value), j ≤ n2 ∧ i = .int .i64 j ∧ RowB wr w.heap.size 41 #[.string name, .int .i64 2, .int .i64 k, .slice A n c] ∧ RowB wr (w.heap.size + 1) 79 (trCells 3 D dn dc u kd A2 n2 c2) ∧ RowB wr (w.heap.size + 2) 43 #[.bool false, .int .i64 0, .string .empty, .slice none 0 0] ∧ RowB wr (w.heap.size + 3) 43 #[.bool false, .int .i64 0, .string .empty, v] ∧
      wr.ownsRow (w.heap.size + 4) 43 4 v j xs ∧ FlatD wr (w.heap.size + 4) wr.heap.size v xs (ds.take j) ∧ Below w.heap.size w wr ∧ w.heap.size + 4 ≤ wr.heap.size) (fun i _ => n2 - (intOf i).toNat)
  case atStart => exact ⟨0, _, [], Nat.zero_le _, rfl, R0.out, R1.out, R2.out, R3.out, World.ownsRow_nil _ _ _ _, FlatD.nil _ _ _ _, HB1.out, hsz1⟩
  case round =>
    obtain ⟨j, v, xs, hj, rfl, hr0, hr1, hr2, hr3, hown, hflat, hb5, hsz5⟩ := hrel
    have X0 := Lib.hid hr0
    have X1 := Lib.hid hr1
    have X2 := Lib.hid hr2
    have X3 := Lib.hid hr3
    have HOWN := Lib.hid hown
    have HFLAT := Lib.hid hflat
    have HB5 := Lib.hid hb5
    clear hown hflat
    by_cases hlt : j < n2
    · have hdl := HDS.out
      have htl := HTS.out.len.1
      obtain ⟨d, hd⟩ : ∃ d, ds[j]? = some d := ⟨_, List.getElem?_eq_getElem (by omega)⟩
      obtain ⟨t, ht⟩ : ∃ t, ts[j]? = some t := ⟨_, List.getElem?_eq_getElem (by omega)⟩
      have HD := Lib.hid hd
      have HT := Lib.hid ht
      have hj0 : (0 : Int) ≤ (j : Int) := Int.natCast_nonneg _
      have hj1 : (j : Int) < (n2 : Int) := by omega
      obtain ⟨k0, k1, k2, k3⟩ := hr0.c4
      obtain ⟨t0, t1, t2, t3, t4, t5, t6, t7⟩ := hr1.c8
      have m0 : wr.cell? ⟨w.heap.size + 3, 3, none⟩ = some v := hr3.cell 3
      have htr5 : TrsAt wr.drew 0 w.heap.size A2 n2 c2 ts := HTS.out.mono hb5.drew (Nat.le_refl _)
      have HTR5 := Lib.hid htr5
      clear hr0 hr1 hr2 hr3 hb5 hd ht htr5 hdl htl
      go_wp2_with fail
      refine Upto.region (m := 10) (S := (fun w' => w'.cell? ⟨w.heap.size, 0, none⟩ = some (.string name) ∧ w'.cell? ⟨w.heap.size, 1, none⟩ = some (.int .i64 2) ∧ w'.cell? ⟨w.heap.size, 2, none⟩ = some (.int .i64 k) ∧ w'.cell? ⟨w.heap.size, 3, none⟩ = some (.slice A n c) ∧ w'.cell? ⟨w.heap.size + 1, 0, none⟩ = some (.int .i8 3) ∧ w'.cell? ⟨w.heap.size + 1, 1, none⟩ = some (.slice D dn dc) ∧ w'.cell? ⟨w.heap.size + 1, 2, none⟩ = some (.int .u64 u) ∧ w'.cell? ⟨w.heap.size + 1, 3, none⟩ = some (.int .i8 kd) ∧ w'.cell? ⟨w.heap.size + 1, 4, none⟩ = some (.int .u8 0) ∧ w'.cell? ⟨w.heap.size + 1, 5, none⟩ = some (.int .u8 0) ∧ w'.cell? ⟨w.heap.size + 1, 6, none⟩ = some (.int .u16 0) ∧ w'.cell? ⟨w.heap.size + 1, 7, none⟩ = some (.slice A2 n2 c2) ∧ w'.cell? ⟨w.heap.size + 3, 3, none⟩ = some v)) (by kernel_rfl) ?_ (fun hHeld => ?_)
      · exact ⟨k0, k1, k2, k3, t0, t1, t2, t3, t4, t5, t6, t7, m0⟩
      refine Upto.take (i := 0) (v := ?_) at0 (by kernel_rfl) (by kernel_rfl) (by kernel_rfl) (by kernel_rfl) (fun _ _ _ h => h) (by rfl) ?_ hHeld ?_
      rotate_left
      · intro w hSw
        try dsimp only at hSw
        go_simp
        try with_reducible rfl
      try simp only [Act.put, List.setIfInBounds_toArray, List.set_cons_zero, List.set_cons_succ]
      refine Upto.take (i := 1) (v := ?_) at1 (by kernel_rfl) (by kernel_rfl) (by kernel_rfl) (by kernel_rfl) (fun _ _ _ h => h) (by rfl) ?_ hHeld ?_
      rotate_left
      · intro w hSw
        try dsimp only at hSw
        go_simp
        try with_reducible rfl
      try simp only [Act.put, List.setIfInBounds_toArray, List.set_cons_zero, List.set_cons_succ]
      refine Upto.take (i := 2) (v := ?_) at2 (by kernel_rfl) (by kernel_rfl) (by kernel_rfl) (by kernel_rfl) (fun _ _ _ h => h) (by rfl) ?_ hHeld ?_
      rotate_left
      · intro w hSw
        try dsimp only at hSw
        go_simp
        try with_reducible rfl
      try simp only [Act.put, List.setIfInBounds_toArray, List.set_cons_zero, List.set_cons_succ]
      refine Upto.take (i := 3) (v := ?_) at3 (by kernel_rfl) (by kernel_rfl) (by kernel_rfl) (by kernel_rfl) (fun _ _ _ h => h) (by rfl) ?_ hHeld ?_
      rotate_left
      · intro w hSw
        try dsimp only at hSw
        go_simp
        try with_reducible rfl
      try simp only [Act.put, List.setIfInBounds_toArray, List.set_cons_zero, List.set_cons_succ]
      refine Upto.take (i := 4) (v := ?_) at4 (by kernel_rfl) (by kernel_rfl) (by kernel_rfl) (by kernel_rfl) (fun _ _ _ h => h) (by rfl) ?_ hHeld ?_
      rotate_left
      · intro w hSw
        try dsimp only at hSw
        go_simp
        try with_reducible rfl
      try simp only [Act.put, List.setIfInBounds_toArray, List.set_cons_zero, List.set_cons_succ]
      refine Upto.step (i := 5) (by kernel_rfl) at5 (fun K' hK => ?_)
      go_simp
      go_at_call 133
      refine (index133 3 D dn dc u kd A2 n2 c2 w.heap.size ts j t _ HTR5.out (show w.heap.size ≤ wr.heap.size by omega) hlt HT.out).mono ?_
      rintro e w5 ⟨D5, dn5, dc5, u5, A5, c5, rfl, hat5, hb5⟩
      have hbA : Below wr.heap.size wr w5 := below_of_drew hb5
      have hszA : wr.heap.size ≤ w5.heap.size := hbA.size
      have HBW5 := Lib.hid (HB5.out.trans (hbA.mono (by omega)))
      have HAT5 := Lib.hid (hat5.frame (fun b _ h => hb5.block b (show b < wr.heap.size by omega)) (Nat.le_refl _) (Nat.le_refl _))
      have m1 : w5.cell? ⟨w.heap.size + 3, 3, none⟩ = some v := (bcell hbA (by omega)).trans m0
      try go_wp2_with fail
      refine hK.out _ _ (.inr ?_) (fun hHeld1 => ?_)
      · exact ⟨(bcell hbA (by omega)).trans k0, (bcell hbA (by omega)).trans k1, (bcell hbA (by omega)).trans k2, (bcell hbA (by omega)).trans k3, (bcell hbA (by omega)).trans t0, (bcell hbA (by omega)).trans t1, (bcell hbA (by omega)).trans t2, (bcell hbA (by omega)).trans t3, (bcell hbA (by omega)).trans t4, (bcell hbA (by omega)).trans t5, (bcell hbA (by omega)).trans t6, (bcell hbA (by omega)).trans t7, m1⟩
      clear hK K'
      replace hHeld := hHeld1.resolve_left (by decide)
      clear hHeld1
      try simp only [Act.put, List.setIfInBounds_toArray, List.set_cons_zero, List.set_cons_succ]
      refine Upto.step (i := 6) (by kernel_rfl) at6 (fun K' hK => ?_)
      go_simp
      go_at_call 131
      refine (HIN.out _ j t d D5 dn5 dc5 u5 A5 c5 HT.out HD.out HBW5.out HAT5.out).mono ?_
      rintro e w6 ⟨A6, c6, rfl, hat6, hb6⟩
      have hbB : Below wr.heap.size wr w6 := hbA.trans (hb6.mono hszA)
      have hszB : w5.heap.size ≤ w6.heap.size := hb6.size
      have m2 : w6.cell? ⟨w.heap.size + 3, 3, none⟩ = some v := (bcell hbB (by omega)).trans m0
      have m3 : (w6.alloc (.cells (dCells d A6 c6) 43)).cell? ⟨w.heap.size + 3, 3, none⟩ = some v := (cold (by omega)).trans m2
      have HOWN6 := Lib.hid ((HOWN.out.kept (row := none) ⟨hbB.os, hbB.tape, hbB.output, hbB.size, fun k hk _ => hbB.block k hk⟩ (by cases v.ownBlock <;> simp)).alloc (.cells (dCells d A6 c6) 43))
      try go_wp2_with fail
      refine hK.out _ _ (.inr ?_) (fun hHeld1 => ?_)
      · exact ⟨(bcell hbB (by omega)).trans k0, (bcell hbB (by omega)).trans k1, (bcell hbB (by omega)).trans k2, (bcell hbB (by omega)).trans k3, (bcell hbB (by omega)).trans t0, (bcell hbB (by omega)).trans t1, (bcell hbB (by omega)).trans t2, (bcell hbB (by omega)).trans t3, (bcell hbB (by omega)).trans t4, (bcell hbB (by omega)).trans t5, (bcell hbB (by omega)).trans t6, (bcell hbB (by omega)).trans t7, m2⟩
      clear hK K'
      replace hHeld := hHeld1.resolve_left (by decide)
      clear hHeld1
      try simp only [Act.put, List.setIfInBounds_toArray, List.set_cons_zero, List.set_cons_succ]
      refine Upto.step (i := 7) (by kernel_rfl) at7 (fun K' hK => ?_)
      go_simp
      refine hK.out _ _ (.inr ?_) (fun hHeld1 => ?_)
      · exact ⟨(cold (by omega)).trans ((bcell hbB (by omega)).trans k0), (cold (by omega)).trans ((bcell hbB (by omega)).trans k1), (cold (by omega)).trans ((bcell hbB (by omega)).trans k2), (cold (by omega)).trans ((bcell hbB (by omega)).trans k3), (cold (by omega)).trans ((bcell hbB (by omega)).trans t0), (cold (by omega)).trans ((bcell hbB (by omega)).trans t1), (cold (by omega)).trans ((bcell hbB (by omega)).trans t2), (cold (by omega)).trans ((bcell hbB (by omega)).trans t3), (cold (by omega)).trans ((bcell hbB (by omega)).trans t4), (cold (by omega)).trans ((bcell hbB (by omega)).trans t5), (cold (by omega)).trans ((bcell hbB (by omega)).trans t6), (cold (by omega)).trans ((bcell hbB (by omega)).trans t7), m3⟩
      clear hK K'
      replace hHeld := hHeld1.resolve_left (by decide)
      clear hHeld1
      try simp only [Act.put, List.setIfInBounds_toArray, List.set_cons_zero, List.set_cons_succ]
      refine Upto.step (i := 8) (by kernel_rfl) at8 (fun K' hK => ?_)
      refine step_append_lies _ (by rfl) _ _ 23 (by rfl) (w.heap.size + 4) 43 i43 _ 4 56 Tryz.underlying23 J1.out J2.out J3.out J4.out rfl (by decide) v j xs (by rfl) HOWN6.out ⟨w6.heap.size, 0, none⟩ 1 1 ((dCells d A6 c6).toList) (by rfl) rfl (World.news_of_block (heap_alloc_new w6 _)) (by simp [Value.oneCell']) (by decide) (by simp only [maxLen]; omega) (by omega) (by simp only [size_alloc1]; omega) _ rfl ?_
      intro g cap w7 hown7 hgrow hat7 hlt7
      have hgr : ∀ b i, b < w.heap.size + 4 → w7.cell? ⟨b, i, none⟩ = wr.cell? ⟨b, i, none⟩ := fun b i h1 =>
        (World.cell?_of_block (a := ⟨b, i, none⟩) (hgrow.block b (by simp only [size_alloc1]; omega) (fun he => by have := HOWN.out.lt b he.symm; omega))).trans ((cold (by omega)).trans (bcell hbB (by omega)))
      have hst : ∀ v b i, b ≠ w.heap.size + 3 → (w7.setCell ⟨w.heap.size + 3, 3, none⟩ v).cell? ⟨b, i, none⟩ = w7.cell? ⟨b, i, none⟩ := fun v b i hne => World.cell?_of_block (a := ⟨b, i, none⟩) (setCell_other _ _ _ hne)
      have m4 : w7.cell? ⟨w.heap.size + 3, 3, none⟩ = some v := (hgr _ _ (by omega)).trans m0
      have m5 : w7.frozen? ⟨w.heap.size + 3, 3, none⟩ = false := (World.frozen?_of_block (a := ⟨w.heap.size + 3, 3, none⟩) ((hgrow.block (w.heap.size + 3) (by simp only [size_alloc1]; omega) (fun he => by have := HOWN.out.lt _ he.symm; omega)).trans ((Below.heap_alloc w6 _ _ (by omega)).trans (hbB.block _ (by omega))))).trans (X3.out.free 3)
      refine hK.out _ _ (.inr ?_) (fun hHeld1 => ?_)
      · exact ⟨(hgr _ _ (by omega)).trans k0, (hgr _ _ (by omega)).trans k1, (hgr _ _ (by omega)).trans k2, (hgr _ _ (by omega)).trans k3, (hgr _ _ (by omega)).trans t0, (hgr _ _ (by omega)).trans t1, (hgr _ _ (by omega)).trans t2, (hgr _ _ (by omega)).trans t3, (hgr _ _ (by omega)).trans t4, (hgr _ _ (by omega)).trans t5, (hgr _ _ (by omega)).trans t6, (hgr _ _ (by omega)).trans t7, m4⟩
      clear hK K'
      replace hHeld := hHeld1.resolve_left (by decide)
      clear hHeld1
      try simp only [Act.put, List.setIfInBounds_toArray, List.set_cons_zero, List.set_cons_succ]
      refine Upto.take (i := 9) (v := ?_) at9 (by kernel_rfl) (by kernel_rfl) (by kernel_rfl) (by kernel_rfl) (fun _ _ _ h => h) (by rfl) ?_ hHeld ?_
      rotate_left
      · intro w hSw
        try dsimp only at hSw
        go_simp
        try with_reducible rfl
      try simp only [Act.put, List.setIfInBounds_toArray, List.set_cons_zero, List.set_cons_succ]
      refine Upto.step (i := 10) (by kernel_rfl) at10 (fun K' hK => ?_)
      go_simp
      refine hK.out _ _ (.inl rfl) (fun _ => ?_)
      clear hK K'
      try simp only [Act.put, List.setIfInBounds_toArray, List.set_cons_zero, List.set_cons_succ]
      refine Upto.done (by kernel_rfl) ?_ _
      all_goals
        go_wp2_with fail
        have hat7' := hat7.imp_right fun h => h.trans (size_alloc1 _ _)
        have hz2 := step_flatD (x := d) (cap := cap) HOWN.out HFLAT.out (Nat.le_refl _) hsz5 hbB hat6 hszA (Nat.le_refl _) hgrow hat7'
        have hz1 : (w7.setCell ⟨w.heap.size + 3, 3, none⟩ (.slice (some ⟨g, 0, none⟩) (j + 1) cap)).ownsRow (w.heap.size + 4) 43 4 (.slice (some ⟨g, 0, none⟩) (j + 1) cap) (j + 1) (xs ++ (dCells d A6 c6).toList) := by
          refine hown7.kept (row := some (w.heap.size + 3)) ⟨rfl, rfl, rfl, by rw [setCell_size]; exact Nat.le_refl _, fun k _ hne => setCell_other _ _ _ fun he => hne (by rw [he])⟩ (.inr fun he => ?_)
          have h1 : g = w.heap.size + 3 := by simpa [Value.ownBlock] using he
          have := hown7.lt g rfl
          omega
        have hblk : ∀ b, b < w.heap.size + 4 → w7.heap[b]? = wr.heap[b]? := fun b h1 => (hgrow.block b (by simp only [size_alloc1]; omega) (fun he => by have := HOWN.out.lt b he.symm; omega)).trans ((Below.heap_alloc w6 _ _ (by omega)).trans (hbB.block _ (by omega)))
        have hs7 : w6.heap.size + 1 ≤ w7.heap.size := by have h1 := hgrow.size; simp only [size_alloc1] at h1; exact h1
        refine ⟨⟨j + 1, _, _, by omega, by go_num, (X0.out.of_eq (hblk _ (by omega))).of_eq (setCell_other _ _ _ (show w.heap.size ≠ w.heap.size + 3 by omega)), (X1.out.of_eq (hblk _ (by omega))).of_eq (setCell_other _ _ _ (show w.heap.size + 1 ≠ w.heap.size + 3 by omega)), (X2.out.of_eq (hblk _ (by omega))).of_eq (setCell_other _ _ _ (show w.heap.size + 2 ≠ w.heap.size + 3 by omega)), (X3.out.of_eq (hblk _ (by omega))).set 3 _, hz1, ?_, below_setCell ⟨?_, ?_, ?_, by omega, fun b hb => (hblk b (by omega)).trans (HB5.out.block b hb)⟩ (show w.heap.size ≤ w.heap.size + 3 by omega) _, by rw [setCell_size]; omega⟩, by simp [intOf]; omega⟩
        · rw [List.take_add_one, HD.out]
          exact hz2.frame (fun b h1 _ _ => setCell_other _ _ _ (show b ≠ w.heap.size + 3 by omega)) (fun g hg => .inl hg) (Nat.le_refl _) (by rw [setCell_size]; exact Nat.le_refl _)
        · exact hgrow.os.trans (hbB.os.trans HB5.out.os)
        · exact hgrow.tape.trans (hbB.tape.trans HB5.out.tape)
        · exact hgrow.output.trans (hbB.output.trans HB5.out.output)
    · obtain rfl : j = n2 := by omega
      have hdl := HDS.out
      obtain ⟨A', c', rfl, hdt⟩ := dtsIn_owns HOWN.out (by rw [List.length_take, hdl, Nat.min_self]) HFLAT.out (Nat.le_refl _) (Nat.le_refl _)
      rw [List.take_of_length_le (by omega)] at hdt
      have HDT := Lib.hid hdt
      obtain ⟨t0, t1, t2, t3⟩ := hr3.c4
      obtain ⟨g0, g1, g2, g3⟩ := hr2.c4
      have y0 := hr2.free 0
      have y1 := hr2.free 1
      have y2 := hr2.free 2
      have y3 := hr2.free 3
      clear hdt hr0 hr1 hr2 hr3 hb5
      go_wp2_with fail
      (try simp only [Exit.inBlock, Exit.then])
      refine bodyPost_ret (results_cell_row rfl _ _ _ 43 _ (0, 0) _ rfl (X2.out.set4 _ _ _ _) Tryz.underlying43 rfl sz43) rfl ?_
      refine ⟨A', c', by show _ = Ending.returned (.agg #[_, _, _, .slice A' ds.length c']); rw [hdl]; rfl, ?_, below_set4 HB5.out (g := w.heap.size + 2) (by omega) _ _ _ _⟩
      show DtsIn _ _ _ A' ds.length c' ds
      rw [hdl]
      exact HDT.out.frame (fun b h3 _ => set4_frame _ _ _ _ _ _ (by omega)) (by omega) (by simp only [setCell_size]; exact Nat.le_refl _)
end Go.Proofs.YtglgclkgppomiaaGreat

namespace Go.Proofs.YtglgclkgppomiaaGreat
open Go Go.RowKit

set_option maxRecDepth 100000 in
set_option maxHeartbeats 4000000 in
theorem data54 (fs : List Fd) (ts : List Tr) (ds : List Dt) (A : Option Addr) (n c : Nat) (D : Option Addr) (dn dc : Nat) (u kd : Int) (A2 : Option Addr) (c2 : Nat) (w : World) (hfs : FdsAt w w.heap.size A n c fs) (hts : TrsAt w 0 w.heap.size A2 n c2 ts) (hds : ds.length = n) (hn : n ≤ 1000000)
    (hin : ∀ (W : World) (j : Nat) (f : Fd) (t : Tr) (d : Dt) (A : Option Addr) (c : Nat) (D : Option Addr) (dn dc : Nat) (u : Int) (A2 : Option Addr) (c2 : Nat), fs[j]? = some f → ts[j]? = some t → ds[j]? = some d → Below w.heap.size w W → FdsAt W w.heap.size A f.kids.length c f.kids → TrAt W 0 w.heap.size t D dn dc u A2 c2 →
      Calls Tryz.prog 87 #[fldVal f A f.kids.length c, trVal t.k D dn dc u (kdOf (t.k != 2) t.lk) A2 t.items.length c2] W (MakesDt d W)) :
    Calls Tryz.prog 54 #[.slice A n c, trVal 4 D dn dc u kd A2 n c2] w (MakesDts ds w) := by
  have HIN := Lib.hid hin
  have HFS := Lib.hid hfs
  have HTS := Lib.hid hts
  have HDS := Lib.hid hds
  obtain ⟨i43, j1, j2, j3, j4⟩ := info_parts info43
  have J1 := Lib.hid j1
  have J2 := Lib.hid j2
  have J3 := Lib.hid j3
  have J4 := Lib.hid j4
  clear hin hfs hts hds j1 j2 j3 j4
  go_enter Tryz.func54, Tryz.ntmps54
  go_wp2_with fail
  go_loopw [5, 10] (fun v i wr => ∃ (j : Nat) (xs : List Value), j ≤ n ∧ i = .int .i64 j ∧ RowB wr w.heap.size 79 (trCells 4 D dn dc u kd A2 n c2) ∧
      wr.ownsRow (w.heap.size + 1) 43 4 v j xs ∧ FlatD wr (w.heap.size + 1) wr.heap.size v xs (ds.take j) ∧ Below w.heap.size w wr ∧ w.heap.size + 1 ≤ wr.heap.size) (fun _ i _ => n - (intOf i).toNat)
  case atStart => exact ⟨0, [], Nat.zero_le _, rfl, RowB.new _ _ _, World.ownsRow_nil _ _ _ _, FlatD.nil _ _ _ _, (Below.refl _ _).alloc (Nat.le_refl _) _, by rw [size_alloc1]; exact Nat.le_refl _⟩
  case round =>
    obtain ⟨j, xs, hj, rfl, hr1, hown, hflat, hb5, hsz5⟩ := hrel
    have Y1 := Lib.hid hr1
    have HOWN0 := Lib.hid hown
    have HFLAT0 := Lib.hid hflat
    have HB50 := Lib.hid hb5
    clear hown hflat
    by_cases hlt : j < n
    · have hdl := HDS.out
      have htl := HTS.out.len.1
      obtain ⟨b, o, f, A1, c1, rfl, hb, hf, f0, f1, f2, f3, hfk⟩ := HFS.out.at_ hlt
      obtain ⟨d, hd⟩ : ∃ d, ds[j]? = some d := ⟨_, List.getElem?_eq_getElem (by omega)⟩
      obtain ⟨t, ht⟩ : ∃ t, ts[j]? = some t := ⟨_, List.getElem?_eq_getElem (by omega)⟩
      have HD := Lib.hid hd
      have HT := Lib.hid ht
      have HF := Lib.hid hf
      have HFK := Lib.hid hfk
      have f0' := (bcell hb5 hb).trans f0
      have f1' := (bcell hb5 hb).trans f1
      have f2' := (bcell hb5 hb).trans f2
      have f3' := (bcell hb5 hb).trans f3
      have hj0 : (0 : Int) ≤ (j : Int) := Int.natCast_nonneg _
      have hj1 : (j : Int) < (n : Int) := by omega
      clear hr1 hb5 hd ht hdl htl hf hfk f0 f1 f2 f3
      go_wp2_with fail
      have x0 : RowB (wr.alloc (.cells #[.string f.name, .int .i64 f.way, .int .i64 f.kind, .slice A1 f.kids.length c1] 41)) wr.heap.size 41 #[.string f.name, .int .i64 f.way, .int .i64 f.kind, .slice A1 f.kids.length c1] := RowB.new _ _ _
      have x1 := Y1.out.alloc (.cells #[.string f.name, .int .i64 f.way, .int .i64 f.kind, .slice A1 f.kids.length c1] 41)
      have x3 := HOWN0.out.alloc (.cells #[.string f.name, .int .i64 f.way, .int .i64 f.kind, .slice A1 f.kids.length c1] 41)
      have x4 : Below w.heap.size w (wr.alloc (.cells #[.string f.name, .int .i64 f.way, .int .i64 f.kind, .slice A1 f.kids.length c1] 41)) := HB50.out.alloc (by omega) _
      have x5 : FlatD (wr.alloc (.cells #[.string f.name, .int .i64 f.way, .int .i64 f.kind, .slice A1 f.kids.length c1] 41)) (w.heap.size + 1) (wr.alloc (.cells #[.string f.name, .int .i64 f.way, .int .i64 f.kind, .slice A1 f.kids.length c1] 41)).heap.size u5 xs (ds.take j) := HFLAT0.out.frame (fun b _ h2 _ => Below.heap_alloc wr _ b h2) (fun g hg => .inl hg) (Nat.le_refl _) (by rw [size_alloc1]; omega)
      have x6 : (wr.alloc (.cells #[.string f.name, .int .i64 f.way, .int .i64 f.kind, .slice A1 f.kids.length c1] 41)).heap.size = wr.heap.size + 1 := size_alloc1 _ _
      obtain ⟨k0, k1, k2, k3⟩ := x0.c4
      obtain ⟨t0, t1, t2, t3, t4, t5, t6, t7⟩ := x1.c8
      have X1 := Lib.hid x1
      have HOWN := Lib.hid x3
      have HB5 := Lib.hid x4
      have HFLAT := Lib.hid x5
      have hvlt : ∀ g, u5.ownBlock = some g → g < wr.heap.size := fun g hg => (HOWN0.out.lt g hg).2
      have HVLT := Lib.hid hvlt
      clear x0 x1 x3 x4 x5 f0' f1' f2' f3' hvlt
      generalize (wr.alloc (.cells #[.string f.name, .int .i64 f.way, .int .i64 f.kind, .slice A1 f.kids.length c1] 41)) = w4 at *
      have hsz4 : w.heap.size + 2 ≤ w4.heap.size := by omega
      have htr5 : TrsAt w4.drew 0 w.heap.size A2 n c2 ts := HTS.out.mono HB5.out.drew (Nat.le_refl _)
      have HTR5 := Lib.hid htr5
      clear htr5
      go_region_held3 (fun w' => w'.cell? ⟨wr.heap.size, 0, none⟩ = some (.string f.name) ∧ w'.cell? ⟨wr.heap.size, 1, none⟩ = some (.int .i64 f.way) ∧ w'.cell? ⟨wr.heap.size, 2, none⟩ = some (.int .i64 f.kind) ∧ w'.cell? ⟨wr.heap.size, 3, none⟩ = some (.slice A1 f.kids.length c1) ∧ w'.cell? ⟨w.heap.size, 0, none⟩ = some (.int .i8 4) ∧ w'.cell? ⟨w.heap.size, 1, none⟩ = some (.slice D dn dc) ∧ w'.cell? ⟨w.heap.size, 2, none⟩ = some (.int .u64 u) ∧ w'.cell? ⟨w.heap.size, 3, none⟩ = some (.int .i8 kd) ∧ w'.cell? ⟨w.heap.size, 4, none⟩ = some (.int .u8 0) ∧ w'.cell? ⟨w.heap.size, 5, none⟩ = some (.int .u8 0) ∧ w'.cell? ⟨w.heap.size, 6, none⟩ = some (.int .u16 0) ∧ w'.cell? ⟨w.heap.size, 7, none⟩ = some (.slice A2 n c2))
        (first
          | (exact ⟨k0, k1, k2, k3, t0, t1, t2, t3, t4, t5, t6, t7⟩)
          | (exact ⟨(bcell hbA (by omega)).trans k0, (bcell hbA (by omega)).trans k1, (bcell hbA (by omega)).trans k2, (bcell hbA (by omega)).trans k3, (bcell hbA (by omega)).trans t0, (bcell hbA (by omega)).trans t1, (bcell hbA (by omega)).trans t2, (bcell hbA (by omega)).trans t3, (bcell hbA (by omega)).trans t4, (bcell hbA (by omega)).trans t5, (bcell hbA (by omega)).trans t6, (bcell hbA (by omega)).trans t7⟩)
          | (exact ⟨(bcell hbB (by omega)).trans k0, (bcell hbB (by omega)).trans k1, (bcell hbB (by omega)).trans k2, (bcell hbB (by omega)).trans k3, (bcell hbB (by omega)).trans t0, (bcell hbB (by omega)).trans t1, (bcell hbB (by omega)).trans t2, (bcell hbB (by omega)).trans t3, (bcell hbB (by omega)).trans t4, (bcell hbB (by omega)).trans t5, (bcell hbB (by omega)).trans t6, (bcell hbB (by omega)).trans t7⟩)
          | (exact ⟨(cold (by omega)).trans ((bcell hbB (by omega)).trans k0), (cold (by omega)).trans ((bcell hbB (by omega)).trans k1), (cold (by omega)).trans ((bcell hbB (by omega)).trans k2), (cold (by omega)).trans ((bcell hbB (by omega)).trans k3), (cold (by omega)).trans ((bcell hbB (by omega)).trans t0), (cold (by omega)).trans ((bcell hbB (by omega)).trans t1), (cold (by omega)).trans ((bcell hbB (by omega)).trans t2), (cold (by omega)).trans ((bcell hbB (by omega)).trans t3), (cold (by omega)).trans ((bcell hbB (by omega)).trans t4), (cold (by omega)).trans ((bcell hbB (by omega)).trans t5), (cold (by omega)).trans ((bcell hbB (by omega)).trans t6), (cold (by omega)).trans ((bcell hbB (by omega)).trans t7)⟩)
          | (exact ⟨(hgr _ _ (by omega) (by omega)).trans k0, (hgr _ _ (by omega) (by omega)).trans k1, (hgr _ _ (by omega) (by omega)).trans k2, (hgr _ _ (by omega) (by omega)).trans k3, (hgr _ _ (by omega) (by omega)).trans t0, (hgr _ _ (by omega) (by omega)).trans t1, (hgr _ _ (by omega) (by omega)).trans t2, (hgr _ _ (by omega) (by omega)).trans t3, (hgr _ _ (by omega) (by omega)).trans t4, (hgr _ _ (by omega) (by omega)).trans t5, (hgr _ _ (by omega) (by omega)).trans t6, (hgr _ _ (by omega) (by omega)).trans t7⟩))
        ((first
          | (go_at_call 88
             refine (field88 D dn dc u kd A2 n c2 w.heap.size ts j t _ HTR5.out (show w.heap.size ≤ w4.heap.size by omega) hlt HT.out).mono ?_
             rintro e w5 ⟨D5, dn5, dc5, u5', A5, c5, rfl, hat5, hb5⟩
             have hbA : Below w4.heap.size w4 w5 := below_of_drew hb5
             have hszA : w4.heap.size ≤ w5.heap.size := hbA.size
             have HBW5 := Lib.hid (HB5.out.trans (hbA.mono (by omega)))
             have HAT5 := Lib.hid (hat5.frame (fun b _ h => hb5.block b (show b < w4.heap.size by omega)) (Nat.le_refl _) (Nat.le_refl _)))
          | (go_at_call 87
             refine (HIN.out _ j f t d A1 c1 D5 dn5 dc5 u5' A5 c5 HF.out HT.out HD.out HBW5.out (HFK.out.mono HBW5.out (Nat.le_refl _)) HAT5.out).mono ?_
             rintro e w6 ⟨A6, c6, rfl, hat6, hb6⟩
             have hbB : Below w4.heap.size w4 w6 := hbA.trans (hb6.mono hszA)
             have hszB : w5.heap.size ≤ w6.heap.size := hb6.size
             have HOWN6 := Lib.hid ((HOWN.out.kept (row := none) ⟨hbB.os, hbB.tape, hbB.output, hbB.size, fun k hk _ => hbB.block k hk⟩ (by cases u5.ownBlock <;> simp)).alloc (.cells (dCells d A6 c6) 43)))
          | (refine step_append_lies _ (by rfl) _ _ 23 (by rfl) (w.heap.size + 1) 43 i43 _ 4 56 Tryz.underlying23 J1.out J2.out J3.out J4.out rfl (by decide) u5 j xs (by rfl) HOWN6.out ⟨w6.heap.size, 0, none⟩ 1 1 ((dCells d A6 c6).toList) (by rfl) rfl (World.news_of_block (heap_alloc_new w6 _)) (by simp [Value.oneCell']) (by decide) (by simp only [maxLen]; omega) (by omega) (by simp only [size_alloc1]; omega) _ rfl ?_
             intro g cap w7 hown7 hgrow hat7 hlt7
             have hgr : ∀ b i, b < w4.heap.size → (b < w.heap.size + 1 ∨ wr.heap.size ≤ b) → w7.cell? ⟨b, i, none⟩ = w4.cell? ⟨b, i, none⟩ := fun b i h1 h2 =>
               (World.cell?_of_block (a := ⟨b, i, none⟩) (hgrow.block b (by simp only [size_alloc1]; omega) (fun he => by have := HOWN.out.lt b he.symm; have := HVLT.out b he.symm; omega))).trans ((cold (by omega)).trans (bcell hbB (by omega))))))
      all_goals
        go_wp2_with fail
        have hat7' := hat7.imp_right fun h => h.trans (size_alloc1 _ _)
        have hz2 := step_flatD (x := d) (cap := cap) HOWN.out HFLAT.out (Nat.le_refl _) (by omega) hbB hat6 hszA (Nat.le_refl _) hgrow hat7'
        have hblk : ∀ b, b < w.heap.size + 1 → w7.heap[b]? = w4.heap[b]? := fun b h1 => (hgrow.block b (by simp only [size_alloc1]; omega) (fun he => by have := HOWN.out.lt b he.symm; omega)).trans ((Below.heap_alloc w6 _ _ (by omega)).trans (hbB.block _ (by omega)))
        have hs7 : w6.heap.size + 1 ≤ w7.heap.size := by have h1 := hgrow.size; simp only [size_alloc1] at h1; exact h1
        refine ⟨⟨j + 1, _, by omega, by go_num, X1.out.of_eq (hblk _ (by omega)), hown7, ?_, ⟨?_, ?_, ?_, by omega, fun b hb => (hblk b (by omega)).trans (HB5.out.block b hb)⟩, by omega⟩, by simp [intOf]; omega⟩
        · rw [List.take_add_one, HD.out]
          exact hz2
        · exact hgrow.os.trans (hbB.os.trans HB5.out.os)
        · exact hgrow.tape.trans (hbB.tape.trans HB5.out.tape)
        · exact hgrow.output.trans (hbB.output.trans HB5.out.output)
    · obtain rfl : j = n := by omega
      have hdl := HDS.out
      clear hr1 hb5
      go_wp2_with fail
      go_ret
      obtain ⟨A', c', rfl, hdt⟩ := dtsIn_owns HOWN0.out (by rw [List.length_take, hdl, Nat.min_self]) HFLAT0.out (Nat.le_refl _) (Nat.le_refl _)
      rw [List.take_of_length_le (by omega)] at hdt
      exact ⟨A', c', by rw [hdl]; rfl, by rw [hdl]; exact hdt.frame (fun _ _ _ => rfl) (by omega) (Nat.le_refl _), HB50.out⟩
end Go.Proofs.YtglgclkgppomiaaGreat

namespace Go.Proofs.YtglgclkgppomiaaGreat
open Go Go.RowKit

theorem empty_of_size {t : ByteArray} (h : t.size = 0) : t = ByteArray.empty := by
  apply ByteArray.ext
  exact Array.eq_empty_of_size_eq_zero h
theorem bareOf_eq {d : Dt} (h : bareOf d = true) : d = .mk false 0 .empty d.items := by
  obtain ⟨nn, num, txt, its⟩ := d
  simp only [bareOf, Dt.none, Dt.num, Dt.text, Dt.items, Bool.and_eq_true, decide_eq_true_eq, Bool.not_eq_true'] at h ⊢
  obtain ⟨⟨h1, h2⟩, h3⟩ := h
  rw [h1, of_decide_eq_true h2, empty_of_size (of_decide_eq_true h3)]
theorem plainOk_eq {k : Int} {d : Dt} (h : plainOk k d = true) : d = .mk false d.num d.text [] := by
  obtain ⟨nn, num, txt, its⟩ := d
  unfold plainOk at h
  split at h
  · cases h
  · rename_i hx
    simp [Dt.none, Dt.items, Dt.text, Dt.num] at hx ⊢
    have h2 : its.length = 0 := by have := of_decide_eq_false hx.1.2; omega
    exact ⟨hx.1.1, List.eq_nil_of_length_eq_zero h2⟩
def BackIn (N : Nat) : Prop := ∀ (fs : List Fd) (ds : List Dt) (dp : Int) (n0 m : Nat) (A : Option Addr) (n c : Nat) (D : Option Addr) (dn dc : Nat) (u kd : Int) (A2 : Option Addr) (c2 : Nat) (w : World), fdsSize fs ≤ N → OkL fs dp → rowGo fs ds n0 = some m → NumsFit ds → FdsAt w w.heap.size A n c fs → TrsAt w 0 w.heap.size A2 n c2 (trFields fs ds) →
  Calls Tryz.prog 54 #[.slice A n c, trVal 4 D dn dc u kd A2 n c2] w (MakesDts ds w)
theorem once_back (N : Nat) (ih : BackIn N) (f : Fd) (d : Dt) (dp : Int) (k : Nat) (way : Int) (A : Option Addr) (n c : Nat) (D : Option Addr) (dn dc : Nat) (u : Int) (A2 : Option Addr) (c2 : Nat) (w : World) (hs : fdSize f ≤ N + 1) (hl : f.kids = [] → isKd f.kind = true) (hg : f.kids ≠ [] → OkL f.kids dp) (hk : onceC f d = some k)
    (hnf : (-9223372036854775808 ≤ d.num ∧ d.num ≤ 9223372036854775807) ∧ NumsFit d.items) (hfs : FdsAt w w.heap.size A n c f.kids) (hat : TrAt w 0 w.heap.size (trOnce f d) D dn dc u A2 c2) :
    Calls Tryz.prog 131 #[.agg #[.string f.name, .int .i64 way, .int .i64 f.kind, .slice A n c], trVal (trOnce f d).k D dn dc u (kdOf ((trOnce f d).k != 2) (trOnce f d).lk) A2 (trOnce f d).items.length c2] w (MakesDt d w) := by
  have hfl := hfs.len
  by_cases hkd : f.kids = []
  · rw [onceC_leaf hkd] at hk
    have hp : plainOk f.kind d = true := by
      by_cases hp : plainOk f.kind d = true
      · exact hp
      · rw [if_neg hp] at hk; cases hk
    have hn : n = 0 := by rw [hkd] at hfl; simp at hfl; omega
    subst hn
    have e : trOnce f d = .mk 2 f.kind d.num d.text [] := by rw [← trOnce_bare, hkd, trOnce_leaf]
    rw [e] at hat ⊢
    have := once131_leaf f.name way f.kind d.num d.text (canOk_of (hl hkd) hp hnf.1) A c D dn dc u A2 0 c2 w hat.1
    rw [← plainOk_eq hp] at this
    exact this
  · rw [onceC_group hkd] at hk
    split at hk
    · rename_i hb
      split at hk
      · cases hk
      · rename_i m hr
        have hn : n ≠ 0 := by
          have : 0 < f.kids.length := List.length_pos_iff.2 hkd
          omega
        have e : trOnce f d = .mk 4 0 0 .empty (trFields f.kids d.items) := by rw [← trOnce_bare, trOnce_group _ _ hkd]
        rw [e] at hat ⊢
        have hlen : (Tr.mk 4 0 0 .empty (trFields f.kids d.items)).items.length = n := by show (trFields f.kids d.items).length = n; rw [trFields_length]; exact hfl.1
        have hts := hat.2
        rw [hlen] at hts ⊢
        have := once131_group f.name way f.kind A n c hn d.items D dn dc u (kdOf ((Tr.mk 4 0 0 .empty (trFields f.kids d.items)).k != 2) (Tr.mk 4 0 0 .empty (trFields f.kids d.items)).lk) A2 n c2 w fun W hW => ih f.kids d.items dp 0 m A n c D dn dc u _ A2 c2 W (by have := fdSize_kids f; omega) (hg hkd) hr hnf.2 (hfs.mono hW hW.size) (hts.frame (fun b _ h => hW.block b h) (Nat.le_refl _) hW.size)
        rw [← bareOf_eq hb] at this
        exact this
    · cases hk
theorem datum_back (N : Nat) (ih : BackIn N) (f : Fd) (d : Dt) (dp : Int) (k : Nat) (A : Option Addr) (n c : Nat) (D : Option Addr) (dn dc : Nat) (u : Int) (A2 : Option Addr) (c2 : Nat) (w : World) (hs : fdSize f ≤ N + 1) (h0 : 0 ≤ f.way) (h2 : f.way ≤ 2) (hl : f.kids = [] → isKd f.kind = true) (hg : f.kids ≠ [] → OkL f.kids dp) (hk : dataC f d = some k)
    (hnf : (-9223372036854775808 ≤ d.num ∧ d.num ≤ 9223372036854775807) ∧ NumsFit d.items) (hfs : FdsAt w w.heap.size A n c f.kids) (hat : TrAt w 0 w.heap.size (trField f.way (fun d => trOnce f d) d) D dn dc u A2 c2) :
    Calls Tryz.prog 87 #[.agg #[.string f.name, .int .i64 f.way, .int .i64 f.kind, .slice A n c], trVal (trField f.way (fun d => trOnce f d) d).k D dn dc u (kdOf ((trField f.way (fun d => trOnce f d) d).k != 2) (trField f.way (fun d => trOnce f d) d).lk) A2 (trField f.way (fun d => trOnce f d) d).items.length c2] w (MakesDt d w) := by
  have hw : f.way = 0 ∨ f.way = 1 ∨ f.way = 2 := by omega
  have htk : (trOnce f d).k ≠ 0 ∧ (trOnce f d).k ≠ 1 := by rw [← trOnce_bare]; exact trOnce_k _ _ _
  unfold dataC dataOf at hk
  unfold trField at hat ⊢
  rcases hw with hw | hw | hw
  · simp only [hw] at hk hat ⊢
    rw [if_neg (by simp), if_neg (by simp)] at hk
    rw [if_neg (by simp), if_pos (by simp)] at hat ⊢
    exact datum87_once f.name 0 f.kind (.inl rfl) A n c d _ htk D dn dc u _ A2 _ c2 w fun W hW => once_back N ih f d dp k 0 A n c D dn dc u A2 c2 W hs hl hg hk hnf (hfs.mono hW hW.size) (hat.frame (fun b _ h => hW.block b h) (Nat.le_refl _) hW.size)
  · simp only [hw] at hk hat ⊢
    cases hdn : d.none with
    | true =>
      rw [hdn, if_pos (by simp)] at hk
      split at hk
      · rename_i hb
        rw [if_pos (by simp)]
        have hd : d = .mk true 0 .empty [] := by
          obtain ⟨nn, num, txt, its⟩ := d
          simp only [Dt.none, Dt.num, Dt.text, Dt.items] at hdn hb
          rw [hdn, hb.1, empty_of_size hb.2.1, List.eq_nil_of_length_eq_zero hb.2.2]
        have := datum87_null f.name f.kind A n c D dn dc u (kdOf ((Tr.mk 1 0 0 ByteArray.empty []).k != 2) (Tr.mk 1 0 0 ByteArray.empty []).lk) A2 0 c2 w
        rw [← hd] at this
        exact this
      · cases hk
    | false =>
      rw [hdn, if_neg (by simp), if_neg (by simp)] at hk
      rw [hdn, if_neg (by simp), if_pos (by simp)] at hat
      rw [if_neg (by simp), if_pos (by simp)]
      exact datum87_once f.name 1 f.kind (.inr rfl) A n c d _ htk D dn dc u _ A2 _ c2 w fun W hW => once_back N ih f d dp k 1 A n c D dn dc u A2 c2 W hs hl hg hk hnf (hfs.mono hW hW.size) (hat.frame (fun b _ h => hW.block b h) (Nat.le_refl _) hW.size)
  · simp only [hw] at hk hat ⊢
    rw [if_neg (by simp), if_pos (by simp)] at hk
    rw [if_neg (by simp), if_neg (by simp)] at hat ⊢
    split at hk
    · rename_i hb
      have hlen := itemsGo_len (onceC_pos f) _ _ _ hk
      have hle := itemsGo_le _ _ _ _ hk
      have hml : (Tr.mk 3 0 0 .empty (d.items.map fun d => trOnce f d)).items.length = d.items.length := by show (d.items.map _).length = _; simp
      have hts := hat.2
      rw [hml] at hts ⊢
      have := datum87_rep f.name f.kind A n c (d.items.map fun d => trOnce f d) d.items D dn dc u (kdOf ((Tr.mk 3 0 0 .empty (d.items.map fun d => trOnce f d)).k != 2) (Tr.mk 3 0 0 .empty (d.items.map fun d => trOnce f d)).lk) A2 d.items.length c2 w hts rfl (by omega) fun W j t x D' dn' dc' u' A' c' ht hx hW hat' => by
        rw [List.getElem?_map, hx] at ht
        simp only [Option.map_some, Option.some.injEq] at ht
        subst ht
        obtain ⟨kx, hkx⟩ := itemsGo_at hk hx
        exact once_back N ih f x dp kx 2 A n c D' dn' dc' u' A' c' W hs hl hg hkx (hnf.2.at_ (List.mem_of_getElem? hx)) (hfs.mono hW hW.size) (hat'.frame (fun b _ h => rfl) (Nat.le_refl _) hW.size)
      rw [← bareOf_eq hb] at this
      exact this
    · cases hk
theorem backIn_step (N : Nat) (hN : N ≤ 1000000) (ih : ∀ M, N = M + 1 → BackIn M) : BackIn N := by
  intro fs ds dp n0 m A n c D dn dc u kd A2 c2 w hs hok hr hnf hfs hts
  have h0 := fdsSize_length fs
  have h1 := rowGo_len _ _ _ _ hr
  have hl := hfs.len
  refine data54 fs (trFields fs ds) ds A n c D dn dc u kd A2 c2 w hfs hts (by omega) (by omega) fun W j f t d A3 c3 D' dn' dc' u' A' c' hf ht hd hW hfk hat' => ?_
  have h4 := fdsSize_get fs j f hf
  have h5 := fdSize_pos f
  obtain ⟨M, rfl⟩ : ∃ M, N = M + 1 := ⟨N - 1, by omega⟩
  rw [trFields_get fs ds j f hf, headDt_get hd] at ht
  injection ht with ht
  subst ht
  obtain ⟨kx, hkx⟩ := rowGo_at hr hf hd
  obtain ⟨a0, a1, _, a2, a3⟩ := hok.at_ hf
  exact datum_back M (ih M rfl) f d (dp + 1) kx A3 f.kids.length c3 D' dn' dc' u' A' c' W (by omega) a0 a1 a2 (fun h => (a3 h).2) hkx (hnf.at_ (List.mem_of_getElem? hd)) (hfk.mono (Below.refl _ _) hW.size) (hat'.frame (fun b _ h => rfl) (Nat.le_refl _) hW.size)
theorem backIn_all (N : Nat) (hN : N ≤ 1000000) : BackIn N := by
  induction N with
  | zero => exact backIn_step 0 hN fun M h => absurd h (by omega)
  | succ N ih =>
    refine backIn_step (N + 1) hN fun M h => ?_
    have e : N = M := by omega
    subst e
    exact ih (by omega)
end Go.Proofs.YtglgclkgppomiaaGreat

namespace Go.Proofs.YtglgclkgppomiaaGreat
open Go Go.RowKit

/-- The call hands back these data, and that all went well. -/
def GivesDtsOk (ds : List Dt) (w : World) (e : Ending) (w' : World) : Prop := ∃ A c, e = .returned (.tuple #[.slice A ds.length c, .bool true]) ∧ DtsAt w' w'.heap.size A ds.length c ds ∧ Below w.heap.size w w'

set_option maxRecDepth 100000 in
set_option maxHeartbeats 2000000 in
theorem recon22 (fs : List Fd) (ds : List Dt) (A : Option Addr) (n c : Nat) (A2 : Option Addr) (n2 c2 : Nat) (w : World) (hfs : FdsAt w w.heap.size A n c fs) (hcl : ClsAt w w.heap.size A2 n2 c2 (rowCells fs ds)) (hr : RowFacts fs ds) (hnf : NumsFit ds) (htx : ∀ x ∈ shFields fs ds 0 0 0 0, x.text.size ≤ 1000000000000) :
    Calls Tryz.prog 22 #[.slice A n c, .slice A2 n2 c2] w (GivesDtsOk ds w) := by
  have HFS := Lib.hid hfs
  have HCL := Lib.hid hcl
  have HR := Lib.hid hr
  have HNF := Lib.hid hnf
  have HTX := Lib.hid htx
  obtain ⟨m, hm⟩ := hr.row
  have HM := Lib.hid hm
  have hfl := hfs.len.1
  have hlen2 := hcl.1
  have HLEN2 := Lib.hid hlen2
  have HFL := Lib.hid hfl
  have hb0 : Below w.heap.size w (w.alloc (.cells (trCells 0 none 0 0 0 0 none 0 0) 79)) := (Below.refl _ _).alloc (Nat.le_refl _) _
  have hr0 : RowB (w.alloc (.cells (trCells 0 none 0 0 0 0 none 0 0) 79)) w.heap.size 79 (trCells 0 none 0 0 0 0 none 0 0) := RowB.new _ _ _
  have hs0 : (w.alloc (.cells (trCells 0 none 0 0 0 0 none 0 0) 79)).heap.size = w.heap.size + 1 := size_alloc1 _ _
  have HB0 := Lib.hid hb0
  have HR0 := Lib.hid hr0
  have HS0 := Lib.hid hs0
  clear hfs hcl hr hnf htx hm hfl hlen2 hb0 hr0 hs0
  go_enter Tryz.func22, Tryz.ntmps22
  go_wp2_with fail
  refine (group_any fs A n c 0 _ (by have := HR.out.size; omega) (HFS.out.mono HB0.out HB0.out.size) HR.out.okl HR.out.ne).mono ?_
  rintro e w1 ⟨T, x, rfl, hnd, hb1⟩
  have HND := Lib.hid hnd
  have HB1 := Lib.hid (HB0.out.trans (hb1.mono HB0.out.size))
  have HR1 := Lib.hid (HR0.out.keep hb1 (by rw [HS0.out]; omega))
  have HSZ1 : Hid (w.heap.size + 1 ≤ w1.heap.size) := Lib.hid (by have := hb1.size; rw [HS0.out] at this; exact this)
  clear hnd hb1
  go_wp2_with fail
  refine (schema48 fs 0 0 _ T x w1 (by have := HR.out.size; omega) HND.out (by omega) HR.out.ne HR.out.okl (by have := HR.out.leaves; omega)).mono ?_
  rintro e w2 ⟨g, rfl, hsch, hb2⟩
  have HSCH := Lib.hid hsch
  have HB2 := Lib.hid (HB1.out.trans (hb2.mono HB1.out.size))
  have HR2 := Lib.hid (HR1.out.keep hb2 HR1.out.lt)
  have HSZ2 : Hid (w1.heap.size ≤ w2.heap.size) := Lib.hid hb2.size
  clear hsch hb2
  go_wp2_with fail
  refine (row53 (rowCells fs ds) A2 n2 c2 w2 (HCL.out.mono HB2.out HB2.out.size) (fun x hx => ⟨HR.out.ok x hx, by obtain ⟨j, _, hxj⟩ := mem_parts hx; exact HTX.out x (List.mem_filter.1 hxj).1⟩) (by have := HR.out.plen; have := HLEN2.out; omega)).mono ?_
  rintro e w3 ⟨A3, c3, rfl, hrow, hb3⟩
  have hNpos : 0 < (rowCells fs ds).length := by
    have h1 := leaves_pos _ fs (Nat.le_refl _) HR.out.ne
    obtain ⟨a, t, e, _, _⟩ := (shCols fs ds 0 0 0 0).blk 0 (by omega)
    have h2 := parts_part_len (colOf (shFields fs ds 0 0 0 0)) (show 0 < leaves fs by omega)
    rw [Nat.zero_add] at e
    rw [e, List.length_cons] at h2
    unfold rowCells; omega
  obtain ⟨hrl, hrc, hrb⟩ := hrow
  obtain ⟨b, o, rfl, hbb, hcells⟩ := hrb hNpos
  have HCELLS := Lib.hid hcells
  have HB3 := Lib.hid (HB2.out.trans (hb3.mono HB2.out.size))
  have HR3 := Lib.hid (HR2.out.keep hb3 HR2.out.lt)
  have HSCH3 := Lib.hid (HSCH.out.keep hb3 (Nat.le_refl _) hb3.size)
  clear hcells hb3 hrl hrb
  go_wp2_with fail
  refine (recon52 fs ds g w1.heap.size w.heap.size 0 (trCells 0 none 0 0 0 0 none 0 0) w2.heap.size w3.heap.size b o c3 _ w3 HR.out HSCH3.out (by have := HSZ1.out; omega) HR3.out (by decide) rfl HCELLS.out hbb (Nat.le_refl _) (by have := HSZ1.out; have := HSZ2.out; omega) hrc HTX.out).mono ?_
  rintro e w4 ⟨rfl, cs', hr4, hs4, ⟨D, dn, dc, u, A4, c4, hget, hat⟩, hout, hgr⟩
  have hlen : (Tr.mk 4 0 0 .empty (trFields fs ds)).items.length = n := by show (trFields fs ds).length = n; rw [trFields_length]; exact HFL.out
  rw [hlen] at hget
  have hts := hat.2
  rw [hlen] at hts
  have hc : ∀ r v, (trCells (Tr.mk 4 0 0 .empty (trFields fs ds)).k D dn dc u (kdOf ((Tr.mk 4 0 0 .empty (trFields fs ds)).k != 2) (Tr.mk 4 0 0 .empty (trFields fs ds)).lk) A4 n c4)[r]? = some v → w4.cell? ⟨w.heap.size, r, none⟩ = some v := fun r v hv => by
    have := hget r v hv
    rw [Nat.zero_add] at this
    exact (hr4.cell r).trans this
  have t0 : w4.cell? ⟨w.heap.size, 0, none⟩ = some (.int .i8 4) := hc 0 _ rfl
  have t1 : w4.cell? ⟨w.heap.size, 1, none⟩ = some (.slice D dn dc) := hc 1 _ rfl
  have t2 : w4.cell? ⟨w.heap.size, 2, none⟩ = some (.int .u64 u) := hc 2 _ rfl
  have t3 : w4.cell? ⟨w.heap.size, 3, none⟩ = some (.int .i8 0) := hc 3 _ rfl
  have t4 : w4.cell? ⟨w.heap.size, 4, none⟩ = some (.int .u8 0) := hc 4 _ rfl
  have t5 : w4.cell? ⟨w.heap.size, 5, none⟩ = some (.int .u8 0) := hc 5 _ rfl
  have t6 : w4.cell? ⟨w.heap.size, 6, none⟩ = some (.int .u16 0) := hc 6 _ rfl
  have t7 : w4.cell? ⟨w.heap.size, 7, none⟩ = some (.slice A4 n c4) := hc 7 _ rfl
  have hb4 : Below w.heap.size w w4 := HB3.out.trans ⟨hgr.os, hgr.tape, hgr.output, hgr.size, fun k hk => hgr.block k (Nat.lt_of_lt_of_le hk HB3.out.size) (fun he => by injection he; omega)⟩
  have HB4 := Lib.hid hb4
  have hts2 : TrsAt w4.drew 0 w4.drew.heap.size A4 n c4 (trFields fs ds) := TrsAt.frame (w := w4) (w' := w4.drew) (fun _ _ _ => rfl) (Nat.zero_le _) (Nat.le_refl _) hts
  have HTS := Lib.hid hts2
  have hw4 := hr4.lt
  clear hts2 hget hc hat hts hout hgr hb4 hr4
  go_wp2_with fail
  go_region_held3 (fun w' => w'.cell? ⟨w.heap.size, 0, none⟩ = some (.int .i8 4) ∧ w'.cell? ⟨w.heap.size, 1, none⟩ = some (.slice D dn dc) ∧ w'.cell? ⟨w.heap.size, 2, none⟩ = some (.int .u64 u) ∧ w'.cell? ⟨w.heap.size, 3, none⟩ = some (.int .i8 0) ∧ w'.cell? ⟨w.heap.size, 4, none⟩ = some (.int .u8 0) ∧ w'.cell? ⟨w.heap.size, 5, none⟩ = some (.int .u8 0) ∧ w'.cell? ⟨w.heap.size, 6, none⟩ = some (.int .u16 0) ∧ w'.cell? ⟨w.heap.size, 7, none⟩ = some (.slice A4 n c4))
    (first
      | (exact ⟨t0, t1, t2, t3, t4, t5, t6, t7⟩)
      | (exact ⟨(bcell hbA hw4).trans t0, (bcell hbA hw4).trans t1, (bcell hbA hw4).trans t2, (bcell hbA hw4).trans t3, (bcell hbA hw4).trans t4, (bcell hbA hw4).trans t5, (bcell hbA hw4).trans t6, (bcell hbA hw4).trans t7⟩))
    (first
      | (go_at_call 54
         refine (backIn_all 1000000 (Nat.le_refl _) fs ds 0 0 m A n c D dn dc u 0 A4 c4 _ (by have := HR.out.size; omega) HR.out.okl HM.out HNF.out (HFS.out.mono HB4.out.drew HB4.out.size) HTS.out).mono ?_
         rintro e w5 ⟨A5, c5, rfl, hdt, hb5⟩
         have hbA : Below w4.heap.size w4 w5 := below_of_drew hb5
         have HDT := Lib.hid hdt))
  all_goals
    go_wp2_with fail
    go_ret2
    exact ⟨A5, c5, rfl, HDT.out.toAt, HB4.out.trans (hbA.mono HB4.out.size)⟩
end Go.Proofs.YtglgclkgppomiaaGreat

namespace Go.Proofs.YtglgclkgppomiaaGreat
open Go Go.RowKit

set_option maxRecDepth 100000 in
set_option maxHeartbeats 2000000 in
theorem both28 (fs : List Fd) (ds : List Dt) (A : Option Addr) (n c : Nat) (A2 : Option Addr) (n2 c2 : Nat) (A3 : Option Addr) (n3 c3 : Nat) (w : World) (hfs : FdsAt w w.heap.size A n c fs) (hds : DtsAt w w.heap.size A2 n2 c2 ds) (hcl : ClsAt w w.heap.size A3 n3 c3 (rowCells fs ds)) (hr : RowFacts fs ds) (hnf : NumsFit ds) (htx : ∀ x ∈ shFields fs ds 0 0 0 0, x.text.size ≤ 1000000000000) :
    Calls Tryz.prog 28 #[.slice A n c, .slice A2 n2 c2, .slice A3 n3 c3] w fun e w' => e = .returned (.bool true) ∧ Below w.heap.size w w' := by
  have HFS := Lib.hid hfs
  have HDS := Lib.hid hds
  have HCL := Lib.hid hcl
  have HR := Lib.hid hr
  have HNF := Lib.hid hnf
  have HTX := Lib.hid htx
  clear hfs hds hcl hr hnf htx
  go_enter Tryz.func28, Tryz.ntmps28
  go_wp2_with fail
  refine (recon22 fs ds A n c A3 n3 c3 w HFS.out HCL.out HR.out HNF.out HTX.out).mono ?_
  rintro e w1 ⟨A4, c4, rfl, hd4, hb1⟩
  have HD4 := Lib.hid hd4
  have HB1 := Lib.hid hb1
  clear hd4 hb1
  go_wp2_with fail
  refine (sameData_all 1000000000 (Nat.le_refl _) ds ds A4 ds.length c4 A2 n2 c2 w1 (by have := HR.out.dsize; omega) HD4.out (HDS.out.mono HB1.out HB1.out.size)).mono ?_
  rintro e w2 ⟨b, rfl, hb, hb2⟩
  obtain rfl : b = true := hb.2 rfl
  have HB2 := Lib.hid (HB1.out.trans (hb2.mono HB1.out.size))
  clear hb hb2
  go_wp2_with fail
  refine (decon21 fs ds A n c A2 n2 c2 w2 (HFS.out.mono HB2.out HB2.out.size) (HDS.out.mono HB2.out HB2.out.size) HR.out).mono ?_
  rintro e w3 ⟨A5, c5, rfl, hc5, hb3⟩
  have HC5 := Lib.hid hc5
  have HB3 := Lib.hid (HB2.out.trans (hb3.mono HB2.out.size))
  clear hc5 hb3
  go_wp2_with fail
  refine (sameCells_any (rowCells fs ds) (rowCells fs ds) A5 _ c5 A3 n3 c3 w3 (by have := HR.out.plen; omega) HC5.out (HCL.out.mono HB3.out HB3.out.size)).mono ?_
  rintro e w4 ⟨b, rfl, hb, hb4⟩
  obtain rfl : b = true := hb.2 rfl
  have HB4 := Lib.hid (HB3.out.trans (hb4.mono HB3.out.size))
  clear hb hb4
  go_wp2_with fail
  go_ret
  exact ⟨rfl, HB4.out⟩
end Go.Proofs.YtglgclkgppomiaaGreat

namespace Go.Proofs.YtglgclkgppomiaaGreat
open Go Go.RowKit

def fsW : List Fd := [.mk ⟨#[97]⟩ 2 2 []]
def dsI : List Dt := [.mk false 5 .empty [], .mk false 6 .empty []]
def dsW : List Dt := [.mk false 0 .empty dsI]
def clW : List Cl := [⟨0, 0, 1, false, 2, 5, .empty⟩, ⟨0, 1, 1, false, 2, 6, .empty⟩]
theorem numsW : NumsFit dsW := by
  have h0 : NumsFit [] := .mk _ (fun d h => by cases h) (fun d h => by cases h)
  have h1 : NumsFit dsI := .mk _ (fun d h => by simp [dsI] at h; rcases h with rfl | rfl <;> simp [Dt.num]) (fun d h => by simp [dsI] at h; rcases h with rfl | rfl <;> exact h0)
  exact .mk _ (fun d h => by simp [dsW] at h; subst h; simp [Dt.num]) (fun d h => by simp [dsW] at h; subst h; exact h1)
theorem shW : shFields fsW dsW 0 0 0 0 = clW := by
  simp [fsW, dsW, dsI, clW, shFields, shField, shOnce, headDt, Fd.way, Dt.items, Dt.num, Dt.text]
theorem leavesW : leaves fsW = 1 := by simp [fsW, leaves, leavesOf]
theorem rowW : rowCells fsW dsW = clW := by
  unfold rowCells
  rw [shW, leavesW, parts_succ, parts_zero]
  simp [clW, colOf]
theorem isRowW : isRow fsW dsW = true := by
  have h1 : areFields fsW = true := by
    simp [areFields, fsW, cntL, cntF, okHead, isKd, Fd.name, Fd.way, optInt]
    decide
  have h2 : (rowGo fsW dsW 0).isSome = true := by
    simp [fsW, dsW, dsI, rowGo, dataOf, onceC, Fd.way, bareOf, itemsGo, plainOk, Dt.none, Dt.num, Dt.text, Dt.items]
  simp [isRow, h1, h2]
theorem fdsW {w : World} {B b : Nat} (h : RowB w b 41 #[.string ⟨#[97]⟩, .int .i64 2, .int .i64 2, .slice none 0 0]) (hb : b < B) : FdsAt w B (some ⟨b, 0, none⟩) 1 1 fsW := by
  refine .mk b 0 1 1 fsW (fun _ => none) (fun _ => 0) hb rfl (Nat.le_refl _) (fun k f hk => ?_) (fun k f hk => ?_)
  · cases k with
    | zero => simp [fsW] at hk; subst hk; exact ⟨h.cell 0, h.cell 1, h.cell 2, h.cell 3⟩
    | succ k => simp [fsW] at hk
  · cases k with
    | zero => simp [fsW] at hk; subst hk; exact .nil _ _
    | succ k => simp [fsW] at hk
theorem dtsI_at {w : World} {B b : Nat} (h : RowB w b 43 #[.bool false, .int .i64 5, .string .empty, .slice none 0 0, .bool false, .int .i64 6, .string .empty, .slice none 0 0]) (hb : b < B) : DtsAt w B (some ⟨b, 0, none⟩) 2 2 dsI := by
  refine .mk b 0 2 2 dsI (fun _ => none) (fun _ => 0) hb rfl (Nat.le_refl _) (fun k d hk => ?_) (fun k d hk => ?_)
  · match k with
    | 0 => simp [dsI] at hk; subst hk; exact ⟨h.cell 0, h.cell 1, h.cell 2, h.cell 3⟩
    | 1 => simp [dsI] at hk; subst hk; exact ⟨h.cell 4, h.cell 5, h.cell 6, h.cell 7⟩
    | k + 2 => simp [dsI] at hk
  · match k with
    | 0 => simp [dsI] at hk; subst hk; exact .nil _ _
    | 1 => simp [dsI] at hk; subst hk; exact .nil _ _
    | k + 2 => simp [dsI] at hk
theorem dtsW_at {w : World} {B b b' : Nat} (h : RowB w b 43 #[.bool false, .int .i64 0, .string .empty, .slice (some ⟨b', 0, none⟩) 2 2]) (hb : b < B) (hi : DtsAt w B (some ⟨b', 0, none⟩) 2 2 dsI) : DtsAt w B (some ⟨b, 0, none⟩) 1 1 dsW := by
  refine .mk b 0 1 1 dsW (fun _ => some ⟨b', 0, none⟩) (fun _ => 2) hb rfl (Nat.le_refl _) (fun k d hk => ?_) (fun k d hk => ?_)
  · cases k with
    | zero => simp [dsW] at hk; subst hk; exact ⟨h.cell 0, h.cell 1, h.cell 2, h.cell 3⟩
    | succ k => simp [dsW] at hk
  · cases k with
    | zero => simp [dsW] at hk; subst hk; exact hi
    | succ k => simp [dsW] at hk
theorem clsW {w : World} {B b : Nat} (h : RowB w b 39 #[.int .i64 0, .int .i64 0, .int .i64 1, .bool false, .int .i64 2, .int .i64 5, .string .empty, .int .i64 0, .int .i64 1, .int .i64 1, .bool false, .int .i64 2, .int .i64 6, .string .empty]) (hb : b < B) : ClsAt w B (some ⟨b, 0, none⟩) 2 2 clW := by
  refine ⟨rfl, Nat.le_refl _, fun _ => ⟨b, 0, rfl, hb, fun k x hk => ?_⟩⟩
  match k with
  | 0 => simp [clW] at hk; subst hk; exact ⟨h.cell 0, h.cell 1, h.cell 2, h.cell 3, h.cell 4, h.cell 5, h.cell 6⟩
  | 1 => simp [clW] at hk; subst hk; exact ⟨h.cell 7, h.cell 8, h.cell 9, h.cell 10, h.cell 11, h.cell 12, h.cell 13⟩
  | k + 2 => simp [clW] at hk
set_option maxRecDepth 100000 in
set_option maxHeartbeats 2000000 in
theorem works20 (w : World) : Calls Tryz.prog 20 #[] w fun e w' => e = .returned (.bool true) ∧ Below w.heap.size w w' := by
  go_enter Tryz.func20, Tryz.ntmps20
  go_wp2_with fail
  have hB : Below w.heap.size w ((((w.alloc (.cells #[.string ⟨#[97]⟩, .int .i64 2, .int .i64 2, .slice none 0 0] 41)).alloc (.cells #[.bool false, .int .i64 5, .string ⟨#[]⟩, .slice none 0 0, .bool false, .int .i64 6, .string ⟨#[]⟩, .slice none 0 0] 43)).alloc (.cells #[.bool false, .int .i64 0, .string ⟨#[]⟩, .slice (some ⟨w.heap.size + 1, 0, none⟩) 2 2] 43)).alloc (.cells #[.int .i64 0, .int .i64 0, .int .i64 1, .bool false, .int .i64 2, .int .i64 5, .string ⟨#[]⟩, .int .i64 0, .int .i64 1, .int .i64 1, .bool false, .int .i64 2, .int .i64 6, .string ⟨#[]⟩] 39)) := ((((Below.refl _ _).alloc (Nat.le_refl _) _).alloc (by simp) _).alloc (by simp; omega) _).alloc (by simp; omega) _
  have hS : ((((w.alloc (.cells #[.string ⟨#[97]⟩, .int .i64 2, .int .i64 2, .slice none 0 0] 41)).alloc (.cells #[.bool false, .int .i64 5, .string ⟨#[]⟩, .slice none 0 0, .bool false, .int .i64 6, .string ⟨#[]⟩, .slice none 0 0] 43)).alloc (.cells #[.bool false, .int .i64 0, .string ⟨#[]⟩, .slice (some ⟨w.heap.size + 1, 0, none⟩) 2 2] 43)).alloc (.cells #[.int .i64 0, .int .i64 0, .int .i64 1, .bool false, .int .i64 2, .int .i64 5, .string ⟨#[]⟩, .int .i64 0, .int .i64 1, .int .i64 1, .bool false, .int .i64 2, .int .i64 6, .string ⟨#[]⟩] 39)).heap.size = w.heap.size + 4 := by simp
  have h1 : RowB ((((w.alloc (.cells #[.string ⟨#[97]⟩, .int .i64 2, .int .i64 2, .slice none 0 0] 41)).alloc (.cells #[.bool false, .int .i64 5, .string ⟨#[]⟩, .slice none 0 0, .bool false, .int .i64 6, .string ⟨#[]⟩, .slice none 0 0] 43)).alloc (.cells #[.bool false, .int .i64 0, .string ⟨#[]⟩, .slice (some ⟨w.heap.size + 1, 0, none⟩) 2 2] 43)).alloc (.cells #[.int .i64 0, .int .i64 0, .int .i64 1, .bool false, .int .i64 2, .int .i64 5, .string ⟨#[]⟩, .int .i64 0, .int .i64 1, .int .i64 1, .bool false, .int .i64 2, .int .i64 6, .string ⟨#[]⟩] 39)) w.heap.size 41 #[.string ⟨#[97]⟩, .int .i64 2, .int .i64 2, .slice none 0 0] := (((RowB.new _ _ _).alloc _).alloc _).alloc _
  have h2 : RowB ((((w.alloc (.cells #[.string ⟨#[97]⟩, .int .i64 2, .int .i64 2, .slice none 0 0] 41)).alloc (.cells #[.bool false, .int .i64 5, .string ⟨#[]⟩, .slice none 0 0, .bool false, .int .i64 6, .string ⟨#[]⟩, .slice none 0 0] 43)).alloc (.cells #[.bool false, .int .i64 0, .string ⟨#[]⟩, .slice (some ⟨w.heap.size + 1, 0, none⟩) 2 2] 43)).alloc (.cells #[.int .i64 0, .int .i64 0, .int .i64 1, .bool false, .int .i64 2, .int .i64 5, .string ⟨#[]⟩, .int .i64 0, .int .i64 1, .int .i64 1, .bool false, .int .i64 2, .int .i64 6, .string ⟨#[]⟩] 39)) (w.heap.size + 1) 43 #[.bool false, .int .i64 5, .string ⟨#[]⟩, .slice none 0 0, .bool false, .int .i64 6, .string ⟨#[]⟩, .slice none 0 0] := ((rowB_new (by simp)).alloc _).alloc _
  have h3 : RowB ((((w.alloc (.cells #[.string ⟨#[97]⟩, .int .i64 2, .int .i64 2, .slice none 0 0] 41)).alloc (.cells #[.bool false, .int .i64 5, .string ⟨#[]⟩, .slice none 0 0, .bool false, .int .i64 6, .string ⟨#[]⟩, .slice none 0 0] 43)).alloc (.cells #[.bool false, .int .i64 0, .string ⟨#[]⟩, .slice (some ⟨w.heap.size + 1, 0, none⟩) 2 2] 43)).alloc (.cells #[.int .i64 0, .int .i64 0, .int .i64 1, .bool false, .int .i64 2, .int .i64 5, .string ⟨#[]⟩, .int .i64 0, .int .i64 1, .int .i64 1, .bool false, .int .i64 2, .int .i64 6, .string ⟨#[]⟩] 39)) (w.heap.size + 1 + 1) 43 #[.bool false, .int .i64 0, .string ⟨#[]⟩, .slice (some ⟨w.heap.size + 1, 0, none⟩) 2 2] := (rowB_new (by simp)).alloc _
  have h4 : RowB ((((w.alloc (.cells #[.string ⟨#[97]⟩, .int .i64 2, .int .i64 2, .slice none 0 0] 41)).alloc (.cells #[.bool false, .int .i64 5, .string ⟨#[]⟩, .slice none 0 0, .bool false, .int .i64 6, .string ⟨#[]⟩, .slice none 0 0] 43)).alloc (.cells #[.bool false, .int .i64 0, .string ⟨#[]⟩, .slice (some ⟨w.heap.size + 1, 0, none⟩) 2 2] 43)).alloc (.cells #[.int .i64 0, .int .i64 0, .int .i64 1, .bool false, .int .i64 2, .int .i64 5, .string ⟨#[]⟩, .int .i64 0, .int .i64 1, .int .i64 1, .bool false, .int .i64 2, .int .i64 6, .string ⟨#[]⟩] 39)) (w.heap.size + 1 + 1 + 1) 39 #[.int .i64 0, .int .i64 0, .int .i64 1, .bool false, .int .i64 2, .int .i64 5, .string ⟨#[]⟩, .int .i64 0, .int .i64 1, .int .i64 1, .bool false, .int .i64 2, .int .i64 6, .string ⟨#[]⟩] := rowB_new (by simp)
  generalize ((((w.alloc (.cells #[.string ⟨#[97]⟩, .int .i64 2, .int .i64 2, .slice none 0 0] 41)).alloc (.cells #[.bool false, .int .i64 5, .string ⟨#[]⟩, .slice none 0 0, .bool false, .int .i64 6, .string ⟨#[]⟩, .slice none 0 0] 43)).alloc (.cells #[.bool false, .int .i64 0, .string ⟨#[]⟩, .slice (some ⟨w.heap.size + 1, 0, none⟩) 2 2] 43)).alloc (.cells #[.int .i64 0, .int .i64 0, .int .i64 1, .bool false, .int .i64 2, .int .i64 5, .string ⟨#[]⟩, .int .i64 0, .int .i64 1, .int .i64 1, .bool false, .int .i64 2, .int .i64 6, .string ⟨#[]⟩] 39)) = W at *
  have HFS := Lib.hid (fdsW h1 (show w.heap.size < W.heap.size by omega))
  have HDS := Lib.hid (dtsW_at h3 (show w.heap.size + 1 + 1 < W.heap.size by omega) (dtsI_at h2 (show w.heap.size + 1 < W.heap.size by omega)))
  have HCL := Lib.hid (clsW h4 (show w.heap.size + 1 + 1 + 1 < W.heap.size by omega))
  have HB := Lib.hid hB
  have HR := Lib.hid (rowFacts isRowW numsW)
  have HTX : Hid (∀ x ∈ shFields fsW dsW 0 0 0 0, x.text.size ≤ 1000000000000) := Lib.hid (by rw [shW]; intro x hx; simp [clW] at hx; rcases hx with rfl | rfl <;> exact Nat.zero_le _)
  clear hB hS h1 h2 h3 h4
  refine (recon22 fsW dsW _ 1 1 _ 2 2 W HFS.out (by rw [rowW]; exact HCL.out) HR.out numsW HTX.out).mono ?_
  rintro e w1 ⟨A4, c4, rfl, hd4, hb1⟩
  have HD4 := Lib.hid hd4
  have HB1 := Lib.hid hb1
  clear hd4 hb1
  go_wp2_with fail
  refine (sameData_all 1000000000 (Nat.le_refl _) dsW dsW A4 dsW.length c4 _ 1 1 w1 (by have := HR.out.dsize; omega) HD4.out (HDS.out.mono HB1.out HB1.out.size)).mono ?_
  rintro e w2 ⟨b, rfl, hb, hb2⟩
  obtain rfl : b = true := hb.2 rfl
  have HB2 := Lib.hid (HB1.out.trans (hb2.mono HB1.out.size))
  clear hb hb2
  go_wp2_with fail
  refine (decon21 fsW dsW _ 1 1 _ 1 1 w2 (HFS.out.mono HB2.out HB2.out.size) (HDS.out.mono HB2.out HB2.out.size) HR.out).mono ?_
  rintro e w3 ⟨A5, c5, rfl, hc5, hb3⟩
  have HC5 := Lib.hid hc5
  have HB3 := Lib.hid (HB2.out.trans (hb3.mono HB2.out.size))
  clear hc5 hb3
  go_wp2_with fail
  refine (sameCells_any (rowCells fsW dsW) (rowCells fsW dsW) A5 _ c5 _ 2 2 w3 (by have := HR.out.plen; omega) HC5.out (by rw [rowW]; exact HCL.out.mono HB3.out HB3.out.size)).mono ?_
  rintro e w4 ⟨b, rfl, hb, hb4⟩
  obtain rfl : b = true := hb.2 rfl
  have HB4 := Lib.hid (HB3.out.trans (hb4.mono HB3.out.size))
  clear hb hb4
  go_wp2_with fail
  go_ret
  exact ⟨rfl, HB.out.trans (HB4.out.mono HB.out.size)⟩
end Go.Proofs.YtglgclkgppomiaaGreat
