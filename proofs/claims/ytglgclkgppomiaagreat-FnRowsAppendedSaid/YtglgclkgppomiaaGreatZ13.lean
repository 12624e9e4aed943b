/- The walk of the closure of a leaf that takes a row apart. The walk of the closure of a leaf that takes a row apart, at a value (printed by tools/gen_w19.py out of W19). The walk of the closure of an optional field that takes a row apart. The walk of the closure of a repeated field that takes a row apart. The walk of the closure of a repeated field that takes a row apart, at items. Plain laws of shredding and of trees: parts, the fields of a group one by one. Rows of values in memory; append of one slice onto another of another name. The walk of appendRow. The walk of the closure of a group that takes a row apart. -/
import Derived.Test.YtglgclkgppomiaaGreatZ10
import Derived.Test.YtglgclkgppomiaaGreatZ12
import Derived.Deep.AppendLies
set_option linter.unusedVariables false
set_option linter.unusedSimpArgs false
namespace Go.Proofs.YtglgclkgppomiaaGreat
open Go Go.RowKit

/-- A call of the value of that function comes to the function. -/
def Enters (f : FuncId) : Prop := ∀ args W, (callFunc f args).run Tryz.prog W = .ok (.enter f args) W
theorem ent136 : Enters 136 := fun args W => by kernel_rfl
theorem ent139 : Enters 139 := fun args W => by kernel_rfl
theorem ent153 : Enters 153 := fun args W => by kernel_rfl
theorem ent155 : Enters 155 := fun args W => by kernel_rfl
/-- The call ends, and the cells of the columns are those of the log. -/
def Took (B cb n : Nat) (log : List Cl) (K : Nat → Prop) (w : World) (e : Ending) (w' : World) : Prop :=
  e = .returned (.tuple #[]) ∧ ColsK w' B cb n log K ∧ Below B w w' ∧ ∀ g, K g → w'.heap[g]? = w.heap[g]?
/-- The arguments of a closure. -/
abbrev decArgs (cb n : Nat) (rd rl dl : Nat) (tv : Value) : Array Value := #[.slice (some ⟨cb, 0, none⟩) n n, .agg #[.int .u8 (rd : Int), .int .u8 (rl : Int), .int .u8 (dl : Int)], tv]
abbrev noTree : Value := trVal 0 none 0 0 0 0 none 0 0

theorem info76 : (Tryz.prog.info? 76).map (fun i => (i.zero, i.size, i.bytes)) = some (some (.agg #[.slice none 0 0, .int .u64 0, .int .i8 0, .int .u8 0, .int .u8 0, .int .u16 0]), 6, 40) := by kernel_rfl

set_option maxRecDepth 100000 in
set_option maxHeartbeats 2000000 in
theorem leaf153_none (B cb n a1 a2 a3 col rd rl dl : Nat) (k : Int) (log : List Cl) (K : Nat → Prop) (w : World) (hK : ∀ g, K g → g < w.heap.size) (hcols : ColsK w B cb n log K) (hlen : log.length ≤ 1000000000) (hcol : col < n) (hn : n ≤ 65535) (hB : B ≤ w.heap.size)
    (h1 : a1 < B) (h2 : a2 < B) (h3 : a3 < B) (hc1 : w.cell? ⟨a1, 0, none⟩ = some (.int .i8 k)) (hc2 : w.cell? ⟨a2, 0, none⟩ = some (.int .u16 (65535 - col))) (hc3 : w.cell? ⟨a3, 0, none⟩ = some (.int .u16 col)) :
    Calls Tryz.prog 153 (decArgs cb n rd rl dl noTree ++ #[.pointer (some ⟨a1, 0, none⟩), .pointer (some ⟨a2, 0, none⟩), .pointer (some ⟨a3, 0, none⟩)]) w (Took B cb n (log ++ nonesOf 1 col rl dl) K w) := by
  have HCOLS := Lib.hid hcols
  obtain ⟨i76, j1, j2, j3, j4⟩ := info_parts info76
  show Calls Tryz.prog 153 #[.slice (some ⟨cb, 0, none⟩) n n, .agg #[.int .u8 (rd : Int), .int .u8 (rl : Int), .int .u8 (dl : Int)], .agg #[.int .i8 0, .slice none 0 0, .int .u64 0, .int .i8 0, .int .u8 0, .int .u8 0, .int .u16 0, .slice none 0 0], .pointer (some ⟨a1, 0, none⟩), .pointer (some ⟨a2, 0, none⟩), .pointer (some ⟨a3, 0, none⟩)] w _
  have HKK := Lib.hid hK
  clear hcols hK
  have J1 := Lib.hid j1
  have J2 := Lib.hid j2
  have J3 := Lib.hid j3
  have J4 := Lib.hid j4
  clear j1 j2 j3 j4
  go_enter Tryz.func153, Tryz.ntmps153
  go_wp2_with fail
  refine (valid137 _ _ _ _ _ _ _ _ _ _).mono ?_
  rintro e w1 ⟨rfl, hb⟩
  have r1 : RowB w1 w.heap.size 124 #[.int .u8 rd, .int .u8 rl, .int .u8 dl] := (((RowB.new w 124 _).alloc _).alloc _).keep hb (by simp; omega)
  have r2 : RowB w1 (w.heap.size + 1 + 1) 76 #[.slice none 0 0, .int .u64 0, .int .i8 0, .int .u8 0, .int .u8 0, .int .u16 0] := (rowB_new (by simp)).keep hb (by simp)
  have hb2 : Below w.heap.size w w1 := ((((Below.refl _ _).alloc (Nat.le_refl _) _).alloc (by simp) _).alloc (by simp; omega) _).trans (hb.mono (by simp; omega))
  have d1 := (bcell hb2 (b := a1) (o := 0) (by omega)).trans hc1
  have d2 := (bcell hb2 (b := a2) (o := 0) (by omega)).trans hc2
  have d3 := (bcell hb2 (b := a3) (o := 0) (by omega)).trans hc3
  have hsz := hb.size
  clear hb hc1 hc2 hc3
  obtain ⟨l0, l1, l2⟩ := r1.c3
  obtain ⟨z0, z1, z2, z3, z4, z5⟩ := r2.c6
  have y3 := r2.free 3
  have y4 := r2.free 4
  have y5 := r2.free 5
  go_wp2_with fail
  have r3 := ((r2.set 4 (.int .u8 (rl:Int))).set 3 (.int .u8 (dl:Int))).set 5 (.int .u16 (65535 - (col:Int)))
  have hb7 := below_setCell (below_setCell (below_setCell hb2 (p := ⟨w.heap.size + 1 + 1, 4, none⟩) (by show _ ≤ w.heap.size + 1 + 1; omega) (.int .u8 (rl:Int))) (p := ⟨w.heap.size + 1 + 1, 3, none⟩) (by show _ ≤ w.heap.size + 1 + 1; omega) (.int .u8 (dl:Int))) (p := ⟨w.heap.size + 1 + 1, 5, none⟩) (by show _ ≤ w.heap.size + 1 + 1; omega) (.int .u16 (65535 - (col:Int)))
  have hs7 : w1.heap.size = (((w1.setCell ⟨w.heap.size + 1 + 1, 4, none⟩ (.int .u8 (rl:Int))).setCell ⟨w.heap.size + 1 + 1, 3, none⟩ (.int .u8 (dl:Int))).setCell ⟨w.heap.size + 1 + 1, 5, none⟩ (.int .u16 (65535 - (col:Int)))).heap.size := by simp only [setCell_size]
  have e3 : (((w1.setCell ⟨w.heap.size + 1 + 1, 4, none⟩ (.int .u8 (rl:Int))).setCell ⟨w.heap.size + 1 + 1, 3, none⟩ (.int .u8 (dl:Int))).setCell ⟨w.heap.size + 1 + 1, 5, none⟩ (.int .u16 (65535 - (col:Int)))).cell? ⟨a3, 0, none⟩ = some (.int .u16 col) :=
    (bcell hb7 (by omega)).trans ((bcell hb2 (by omega)).symm.trans d3)
  clear d1 d2 d3 z0 z1 z2 z3 z4 z5 y3 y4 y5 l0 l1 l2 r1 r2 hb2
  generalize (((w1.setCell ⟨w.heap.size + 1 + 1, 4, none⟩ (.int .u8 (rl:Int))).setCell ⟨w.heap.size + 1 + 1, 3, none⟩ (.int .u8 (dl:Int))).setCell ⟨w.heap.size + 1 + 1, 5, none⟩ (.int .u16 (65535 - (col:Int)))) = w7 at *
  obtain ⟨cs, R, hC0, hKc, hKR⟩ := HCOLS.out
  have HKC := Lib.hid hKc
  have HKR := Lib.hid hKR
  clear hKc hKR
  have hC := hC0.keep hb7
  have hsz2 : w.heap.size + 1 + 1 < w7.heap.size := r3.lt
  obtain ⟨z0, z1, z2, z3, z4, z5⟩ := RowB.c6 (show RowB w7 (w.heap.size + 1 + 1) 76 #[.slice none 0 0, .int .u64 0, .int .i8 0, .int .u8 dl, .int .u8 rl, .int .u16 (65535 - (col : Int))] from r3)
  have f1 : w7.cell? ⟨cb, col, none⟩ = some (.slice (some ⟨(R col).b, (R col).o, none⟩) (colOf log col).length (R col).cap) := (hC.row.cell col).trans (hC.slot col hcol)
  have HC7 := Lib.hid hC
  have i0 : (0 : Int) ≤ (col : Int) := Int.natCast_nonneg _
  have i1 : (col : Int) < (n : Int) := by omega
  have q1 := World.new_ne w7 _ f1
  have q2 := World.new_ne w7 _ e3
  have q3 := World.new_ne w7 _ z0
  have hC8 : ColsAt (w7.drew.alloc (.cells #[.slice none 0 0, .int .u64 0, .int .i8 0, .int .u8 dl, .int .u8 rl, .int .u16 (65535 - (col : Int))] 76)) B cb n log cs R := hC.keep ((Below.refl _ _).drew.alloc (Nat.le_refl _) _)
  have HC8 := Lib.hid hC8
  have hle : (colOf log col).length ≤ 1000000000 := Nat.le_trans (List.length_filter_le _ _) hlen
  have hblk := hC0.blk col hcol
  have hcbl : cb < w.heap.size := hC0.row.lt
  have hcbB := hC0.cbB
  have hg9 : w.heap.size < w.heap.size + 1 + 1 := by omega
  have hw7 : w.heap.size ≤ w7.heap.size := hb7.size
  clear hs7 hsz r3 hC HCOLS hC8 hC0
  generalize w.heap.size + 1 + 1 = g9 at *
  have f1b : (w7.alloc (.cells #[.slice none 0 0, .int .u64 0, .int .i8 0, .int .u8 dl, .int .u8 rl, .int .u16 (65535 - (col : Int))] 76)).cell? ⟨cb, col, none⟩ = some (.slice (some ⟨(R col).b, (R col).o, none⟩) (colOf log col).length (R col).cap) := (cold (by omega)).trans f1
  have f1c : (w7.drew.alloc (.cells #[.slice none 0 0, .int .u64 0, .int .i8 0, .int .u8 dl, .int .u8 rl, .int .u16 (65535 - (col : Int))] 76)).cell? ⟨cb, col, none⟩ = some (.slice (some ⟨(R col).b, (R col).o, none⟩) (colOf log col).length (R col).cap) := (cold (w := w7.drew) (by show _ < w7.heap.size; omega)).trans f1
  refine Upto.region (m := 10) (S := (fun w' => w'.cell? ⟨a3, 0, none⟩ = some (.int .u16 col) ∧
      w'.cell? ⟨g9, 0, none⟩ = some (.slice none 0 0) ∧ w'.cell? ⟨g9, 1, none⟩ = some (.int .u64 0) ∧ w'.cell? ⟨g9, 2, none⟩ = some (.int .i8 0) ∧ w'.cell? ⟨g9, 3, none⟩ = some (.int .u8 dl) ∧ w'.cell? ⟨g9, 4, none⟩ = some (.int .u8 rl) ∧
      w'.cell? ⟨g9, 5, none⟩ = some (.int .u16 (65535 - (col : Int))) ∧ w'.cell? ⟨cb, col, none⟩ = some (.slice (some ⟨(R col).b, (R col).o, none⟩) (colOf log col).length (R col).cap))) (by kernel_rfl) ?_ (fun hHeld => ?_)
  · exact ⟨e3, z0, z1, z2, z3, z4, z5, f1⟩
  refine Upto.take (i := 0) (v := ?_) at0 (by kernel_rfl) (by kernel_rfl) (by kernel_rfl) (by kernel_rfl) (fun _ _ _ h => h) (by rfl) ?_ hHeld ?_
  rotate_left
  · intro w hSw
    try dsimp only at hSw
    go_simp
    try with_reducible rfl
  try simp only [Act.put, List.setIfInBounds_toArray, List.set_cons_zero, List.set_cons_succ]
  refine Upto.take (i := 1) (v := ?_) at1 (by kernel_rfl) (by kernel_rfl) (by kernel_rfl) (by kernel_rfl) (fun _ _ _ h => h) (by rfl) ?_ hHeld ?_
  rotate_left
  · intro w hSw
    try dsimp only at hSw
    go_simp
    try with_reducible rfl
  try simp only [Act.put, List.setIfInBounds_toArray, List.set_cons_zero, List.set_cons_succ]
  refine Upto.take (i := 2) (v := ?_) at2 (by kernel_rfl) (by kernel_rfl) (by kernel_rfl) (by kernel_rfl) (fun _ _ _ h => h) (by rfl) ?_ hHeld ?_
  rotate_left
  · intro w hSw
    try dsimp only at hSw
    go_simp
    try with_reducible rfl
  try simp only [Act.put, List.setIfInBounds_toArray, List.set_cons_zero, List.set_cons_succ]
  refine Upto.take (i := 3) (v := ?_) at3 (by kernel_rfl) (by kernel_rfl) (by kernel_rfl) (by kernel_rfl) (fun _ _ _ h => h) (by rfl) ?_ hHeld ?_
  rotate_left
  · intro w hSw
    try dsimp only at hSw
    go_simp
    try with_reducible rfl
  try simp only [Act.put, List.setIfInBounds_toArray, List.set_cons_zero, List.set_cons_succ]
  refine Upto.take (i := 4) (v := ?_) at4 (by kernel_rfl) (by kernel_rfl) (by kernel_rfl) (by kernel_rfl) (fun _ _ _ h => h) (by rfl) ?_ hHeld ?_
  rotate_left
  · intro w hSw
    try dsimp only at hSw
    go_simp
    try with_reducible rfl
  try simp only [Act.put, List.setIfInBounds_toArray, List.set_cons_zero, List.set_cons_succ]
  refine Upto.take (i := 5) (v := ?_) at5 (by kernel_rfl) (by kernel_rfl) (by kernel_rfl) (by kernel_rfl) (fun _ _ _ h => h) (by rfl) ?_ hHeld ?_
  rotate_left
  · intro w hSw
    try dsimp only at hSw
    go_simp
    try with_reducible rfl
  try simp only [Act.put, List.setIfInBounds_toArray, List.set_cons_zero, List.set_cons_succ]
  refine Upto.take (i := 6) (v := ?_) at6 (by kernel_rfl) (by kernel_rfl) (by kernel_rfl) (by kernel_rfl) (fun _ _ _ h => h) (by rfl) ?_ hHeld ?_
  rotate_left
  · intro w hSw
    try dsimp only at hSw
    go_simp
    try with_reducible rfl
  try simp only [Act.put, List.setIfInBounds_toArray, List.set_cons_zero, List.set_cons_succ]
  refine Upto.step (i := 7) (by kernel_rfl) at7 (fun K' hK => ?_)
  go_simp
  refine hK.out _ _ (.inr ?_) (fun hHeld1 => ?_)
  · first | go_keep | (exact ⟨(cold (w := w7.drew) (by show _ < w7.heap.size; omega)).trans e3, (cold (w := w7.drew) (by show _ < w7.heap.size; omega)).trans z0, (cold (w := w7.drew) (by show _ < w7.heap.size; omega)).trans z1, (cold (w := w7.drew) (by show _ < w7.heap.size; omega)).trans z2, (cold (w := w7.drew) (by show _ < w7.heap.size; omega)).trans z3, (cold (w := w7.drew) (by show _ < w7.heap.size; omega)).trans z4, (cold (w := w7.drew) (by show _ < w7.heap.size; omega)).trans z5, f1c⟩)
  clear hK K'
  replace hHeld := hHeld1.resolve_left (by decide)
  clear hHeld1
  try simp only [Act.put, List.setIfInBounds_toArray, List.set_cons_zero, List.set_cons_succ]
  refine Upto.step (i := 8) (by kernel_rfl) at8 (fun K' hK => ?_)
  refine step_append_one (by rfl) _ _ _ (by rfl) 76 i76 _ 6 40 Tryz.underlying62 J1.out J2.out J3.out J4.out rfl (by decide) (R col).b (R col).o (colOf log col).length (R col).cap (HC8.out.olds col) (by rfl) (HC8.out.olds_length col) (HC8.out.olds_get hcol) ⟨w7.heap.size, 0, none⟩ 1 (vlCells none 0 0 0 ⟨col, rl, dl, true, 0, 0, .empty⟩) (by rfl) rfl (World.news_of_block (heap_alloc_new w7.drew _)) (by simp [Value.oneCell']) (fun hr j hj => by rw [Nat.add_assoc]; exact HC8.out.room col hcol _ (by have : j < 6 := hj; omega)) (by simp only [maxLen]; omega) (by omega) ?_
  intro b' o' cap' w9 hap
  have hfr9 : ∀ g i, g < w7.heap.size → g ≠ (R col).b → w9.cell? ⟨g, i, none⟩ = w7.cell? ⟨g, i, none⟩ := fun g i hg hne => (World.cell?_of_block (a := ⟨g, i, none⟩) (appOne_block hap (by show g < _; simp; omega) hne)).trans (cold (w := w7.drew) hg)
  have hst : ∀ v g i, g ≠ cb → (w9.setCell ⟨cb, col, none⟩ v).cell? ⟨g, i, none⟩ = w9.cell? ⟨g, i, none⟩ := fun v g i hne => World.cell?_of_block (a := ⟨g, i, none⟩) (setCell_other _ _ _ hne)
  have hc9 := (hfr9 cb col (by omega) (by omega)).trans f1
  have hz9 : w9.frozen? ⟨cb, col, none⟩ = false := (HC8.out.row.of_eq (appOne_block hap (by simp; omega) (by omega))).free col
  refine hK.out _ _ (.inr ?_) (fun hHeld1 => ?_)
  · exact ⟨(hfr9 _ _ (by omega) (by omega)).trans e3, (hfr9 _ _ (by omega) (by omega)).trans z0, (hfr9 _ _ (by omega) (by omega)).trans z1, (hfr9 _ _ (by omega) (by omega)).trans z2, (hfr9 _ _ (by omega) (by omega)).trans z3, (hfr9 _ _ (by omega) (by omega)).trans z4, (hfr9 _ _ (by omega) (by omega)).trans z5, hc9⟩
  clear hK K'
  replace hHeld := hHeld1.resolve_left (by decide)
  clear hHeld1
  try simp only [Act.put, List.setIfInBounds_toArray, List.set_cons_zero, List.set_cons_succ]
  refine Upto.take (i := 9) (v := ?_) at9 (by kernel_rfl) (by kernel_rfl) (by kernel_rfl) (by kernel_rfl) (fun _ _ _ h => h) (by rfl) ?_ hHeld ?_
  rotate_left
  · intro w hSw
    try dsimp only at hSw
    go_simp
    try with_reducible rfl
  try simp only [Act.put, List.setIfInBounds_toArray, List.set_cons_zero, List.set_cons_succ]
  refine Upto.step (i := 10) (by kernel_rfl) at10 (fun K' hK => ?_)
  go_simp
  refine hK.out _ _ (.inl rfl) (fun _ => ?_)
  clear hK K'
  try simp only [Act.put, List.setIfInBounds_toArray, List.set_cons_zero, List.set_cons_succ]
  refine Upto.done (by kernel_rfl) ?_ _
  all_goals
    go_end0
    obtain ⟨hp, hbl, hkp⟩ := HC8.out.pushK HKC.out HKR.out (fun g hg => by have := HKK.out g hg; show g < (w7.drew.alloc _).heap.size; rw [size_alloc1]; show g < w7.heap.size + 1; omega) hcol (x := ⟨col, rl, dl, true, 0, 0, .empty⟩) rfl (.null _ _ _) hap
    have hno : nonesOf 1 col rl dl = [⟨col, rl, dl, true, 0, 0, .empty⟩] := by simp [nonesOf]
    rw [hno]
    exact ⟨rfl, hp, (hb7.mono hB).trans ((((Below.refl B w7).drew).alloc (by show B ≤ w7.heap.size; omega) _).trans hbl), fun g hg => by have hg2 := HKK.out g hg; exact (hkp g hg).trans ((Below.heap_alloc w7.drew _ g (by show g < w7.heap.size; omega)).trans (hb7.block g hg2))⟩
end Go.Proofs.YtglgclkgppomiaaGreat

namespace Go.Proofs.YtglgclkgppomiaaGreat
open Go Go.RowKit

set_option maxRecDepth 100000 in
set_option maxHeartbeats 2000000 in
theorem leaf153_some (B cb n a1 a2 a3 col rd rl dl : Nat) (k : Int) (hk : 0 ≤ k ∧ k ≤ 7) (num : Int) (t : ByteArray) (D : Option Addr) (dn dc : Nat) (u : Int) (A : Option Addr) (nn c : Nat) (log : List Cl) (K : Nat → Prop) (w : World) (hv : VR w 0 B false k num t D dn dc u) (hK : ∀ g, K g → g < w.heap.size) (hcols : ColsK w B cb n log K) (hlen : log.length ≤ 1000000000) (hcol : col < n) (hn : n ≤ 65535) (hB : B ≤ w.heap.size)
    (h1 : a1 < B) (h2 : a2 < B) (h3 : a3 < B) (hc1 : w.cell? ⟨a1, 0, none⟩ = some (.int .i8 k)) (hc2 : w.cell? ⟨a2, 0, none⟩ = some (.int .u16 (65535 - col))) (hc3 : w.cell? ⟨a3, 0, none⟩ = some (.int .u16 col)) :
    Calls Tryz.prog 153 (decArgs cb n rd rl dl (trVal 2 D dn dc u (-(k + 1)) A nn c) ++ #[.pointer (some ⟨a1, 0, none⟩), .pointer (some ⟨a2, 0, none⟩), .pointer (some ⟨a3, 0, none⟩)]) w (Took B cb n (log ++ [⟨col, rl, dl, false, k, num, t⟩]) K w) := by
  have HCOLS := Lib.hid hcols
  have HK := Lib.hid hk
  have HV := Lib.hid hv
  obtain ⟨i76, j1, j2, j3, j4⟩ := info_parts info76
  show Calls Tryz.prog 153 #[.slice (some ⟨cb, 0, none⟩) n n, .agg #[.int .u8 (rd : Int), .int .u8 (rl : Int), .int .u8 (dl : Int)], .agg #[.int .i8 2, .slice D dn dc, .int .u64 u, .int .i8 (-(k + 1)), .int .u8 0, .int .u8 0, .int .u16 0, .slice A nn c], .pointer (some ⟨a1, 0, none⟩), .pointer (some ⟨a2, 0, none⟩), .pointer (some ⟨a3, 0, none⟩)] w _
  have HKK := Lib.hid hK
  clear hcols hK hk hv
  have J1 := Lib.hid j1
  have J2 := Lib.hid j2
  have J3 := Lib.hid j3
  have J4 := Lib.hid j4
  clear j1 j2 j3 j4
  go_enter Tryz.func153, Tryz.ntmps153
  go_wp2_with fail
  refine (valid137 _ _ _ _ _ _ _ _ _ _).mono ?_
  rintro e w1 ⟨rfl, hb⟩
  have r1 : RowB w1 w.heap.size 124 #[.int .u8 rd, .int .u8 rl, .int .u8 dl] := (((RowB.new w 124 _).alloc _).alloc _).keep hb (by simp; omega)
  have r2 : RowB w1 (w.heap.size + 1 + 1) 76 #[.slice none 0 0, .int .u64 0, .int .i8 0, .int .u8 0, .int .u8 0, .int .u16 0] := (rowB_new (by simp)).keep hb (by simp)
  have hb2 : Below w.heap.size w w1 := ((((Below.refl _ _).alloc (Nat.le_refl _) _).alloc (by simp) _).alloc (by simp; omega) _).trans (hb.mono (by simp; omega))
  have d1 := (bcell hb2 (b := a1) (o := 0) (by omega)).trans hc1
  have d2 := (bcell hb2 (b := a2) (o := 0) (by omega)).trans hc2
  have d3 := (bcell hb2 (b := a3) (o := 0) (by omega)).trans hc3
  have hsz := hb.size
  have hbk := hb
  clear hb hc1 hc2 hc3
  have r4 : RowB w1 (w.heap.size + 1) 79 (trCells 2 D dn dc u (-(k + 1)) A nn c) := ((rowB_new (w := w.alloc (.cells #[.int .u8 (rd : Int), .int .u8 (rl : Int), .int .u8 (dl : Int)] 124)) (by simp)).alloc _).keep (t := 79) hbk (by simp)
  clear hbk
  obtain ⟨t0, t1, t2, t3, t4, t5, t6, t7⟩ := r4.c8
  go_wp2_with fail
  refine (make154 k HK.out D dn dc u A nn c _).mono ?_
  rintro e w2 ⟨rfl, hbm⟩
  have hw1 : w.heap.size ≤ w1.heap.size := hb2.size
  have r1' := r1.keep hbm r1.lt
  have r2' := r2.keep hbm r2.lt
  have d1' := (bcell hbm (b := a1) (o := 0) (by omega)).trans d1
  have d2' := (bcell hbm (b := a2) (o := 0) (by omega)).trans d2
  have d3' := (bcell hbm (b := a3) (o := 0) (by omega)).trans d3
  have hb2' := hb2.trans (hbm.mono hb2.size)
  clear r1 r2 r4 d1 d2 d3 hb2 hbm t0 t1 t2 t3 t4 t5 t6 t7 hsz
  obtain ⟨l0, l1, l2⟩ := r1'.c3
  obtain ⟨z0, z1, z2, z3, z4, z5⟩ := r2'.c6
  have y0 := r2'.free 0
  have y1 := r2'.free 1
  have y2 := r2'.free 2
  have y3 := r2'.free 3
  have y4 := r2'.free 4
  have y5 := r2'.free 5
  go_wp2_with fail
  have r3 := ((((r2'.set6 (.slice D dn dc) (.int .u64 u) (.int .i8 (-(k + 1))) (.int .u8 0) (.int .u8 0) (.int .u16 0)).set 4 (.int .u8 (rl:Int))).set 3 (.int .u8 (dl:Int))).set 5 (.int .u16 (65535 - (col:Int))))
  have hb7 := (below_setCell (below_setCell (below_setCell (below_set6 hb2' (g := w.heap.size + 1 + 1) (by omega) (.slice D dn dc) (.int .u64 u) (.int .i8 (-(k + 1))) (.int .u8 0) (.int .u8 0) (.int .u16 0)) (p := ⟨w.heap.size + 1 + 1, 4, none⟩) (by show _ ≤ w.heap.size + 1 + 1; omega) (.int .u8 (rl:Int))) (p := ⟨w.heap.size + 1 + 1, 3, none⟩) (by show _ ≤ w.heap.size + 1 + 1; omega) (.int .u8 (dl:Int))) (p := ⟨w.heap.size + 1 + 1, 5, none⟩) (by show _ ≤ w.heap.size + 1 + 1; omega) (.int .u16 (65535 - (col:Int))))
  have e3 : (((((((((w2.setCell ⟨w.heap.size + 1 + 1, 0, none⟩ (.slice D dn dc)).setCell ⟨w.heap.size + 1 + 1, 1, none⟩ (.int .u64 u)).setCell ⟨w.heap.size + 1 + 1, 2, none⟩ (.int .i8 (-(k + 1)))).setCell ⟨w.heap.size + 1 + 1, 3, none⟩ (.int .u8 0)).setCell ⟨w.heap.size + 1 + 1, 4, none⟩ (.int .u8 0)).setCell ⟨w.heap.size + 1 + 1, 5, none⟩ (.int .u16 0)).setCell ⟨w.heap.size + 1 + 1, 4, none⟩ (.int .u8 (rl:Int))).setCell ⟨w.heap.size + 1 + 1, 3, none⟩ (.int .u8 (dl:Int))).setCell ⟨w.heap.size + 1 + 1, 5, none⟩ (.int .u16 (65535 - (col:Int)))).cell? ⟨a3, 0, none⟩ = some (.int .u16 col) :=
    (bcell hb7 (by omega)).trans ((bcell hb2' (by omega)).symm.trans d3')
  clear d1' d2' d3' z0 z1 z2 z3 z4 z5 y0 y1 y2 y3 y4 y5 l0 l1 l2 r1' r2' hb2'
  generalize ((((((((w2.setCell ⟨w.heap.size + 1 + 1, 0, none⟩ (.slice D dn dc)).setCell ⟨w.heap.size + 1 + 1, 1, none⟩ (.int .u64 u)).setCell ⟨w.heap.size + 1 + 1, 2, none⟩ (.int .i8 (-(k + 1)))).setCell ⟨w.heap.size + 1 + 1, 3, none⟩ (.int .u8 0)).setCell ⟨w.heap.size + 1 + 1, 4, none⟩ (.int .u8 0)).setCell ⟨w.heap.size + 1 + 1, 5, none⟩ (.int .u16 0)).setCell ⟨w.heap.size + 1 + 1, 4, none⟩ (.int .u8 (rl:Int))).setCell ⟨w.heap.size + 1 + 1, 3, none⟩ (.int .u8 (dl:Int))).setCell ⟨w.heap.size + 1 + 1, 5, none⟩ (.int .u16 (65535 - (col:Int))) = w7 at *
  obtain ⟨cs, R, hC0, hKc, hKR⟩ := HCOLS.out
  have HKC := Lib.hid hKc
  have HKR := Lib.hid hKR
  clear hKc hKR
  have hC := hC0.keep hb7
  have hsz2 : w.heap.size + 1 + 1 < w7.heap.size := r3.lt
  obtain ⟨z0, z1, z2, z3, z4, z5⟩ := RowB.c6 (show RowB w7 (w.heap.size + 1 + 1) 76 #[.slice D dn dc, .int .u64 u, .int .i8 (-(k + 1)), .int .u8 dl, .int .u8 rl, .int .u16 (65535 - (col : Int))] from r3)
  have f1 : w7.cell? ⟨cb, col, none⟩ = some (.slice (some ⟨(R col).b, (R col).o, none⟩) (colOf log col).length (R col).cap) := (hC.row.cell col).trans (hC.slot col hcol)
  have HC7 := Lib.hid hC
  have i0 : (0 : Int) ≤ (col : Int) := Int.natCast_nonneg _
  have i1 : (col : Int) < (n : Int) := by omega
  have q1 := World.new_ne w7 _ f1
  have q2 := World.new_ne w7 _ e3
  have q3 := World.new_ne w7 _ z0
  have hC8 : ColsAt (w7.drew.alloc (.cells #[.slice D dn dc, .int .u64 u, .int .i8 (-(k + 1)), .int .u8 dl, .int .u8 rl, .int .u16 (65535 - (col : Int))] 76)) B cb n log cs R := hC.keep ((Below.refl _ _).drew.alloc (Nat.le_refl _) _)
  have HC8 := Lib.hid hC8
  have hle : (colOf log col).length ≤ 1000000000 := Nat.le_trans (List.length_filter_le _ _) hlen
  have hblk := hC0.blk col hcol
  have hcbl : cb < w.heap.size := hC0.row.lt
  have hcbB := hC0.cbB
  have hg9 : w.heap.size < w.heap.size + 1 + 1 := by omega
  have hw7 : w.heap.size ≤ w7.heap.size := hb7.size
  clear r3 hC HCOLS hC8 hC0
  generalize w.heap.size + 1 + 1 = g9 at *
  have f1b : (w7.alloc (.cells #[.slice D dn dc, .int .u64 u, .int .i8 (-(k + 1)), .int .u8 dl, .int .u8 rl, .int .u16 (65535 - (col : Int))] 76)).cell? ⟨cb, col, none⟩ = some (.slice (some ⟨(R col).b, (R col).o, none⟩) (colOf log col).length (R col).cap) := (cold (by omega)).trans f1
  have f1c : (w7.drew.alloc (.cells #[.slice D dn dc, .int .u64 u, .int .i8 (-(k + 1)), .int .u8 dl, .int .u8 rl, .int .u16 (65535 - (col : Int))] 76)).cell? ⟨cb, col, none⟩ = some (.slice (some ⟨(R col).b, (R col).o, none⟩) (colOf log col).length (R col).cap) := (cold (w := w7.drew) (by show _ < w7.heap.size; omega)).trans f1
  refine Upto.region (m := 10) (S := (fun w' => w'.cell? ⟨a3, 0, none⟩ = some (.int .u16 col) ∧
      w'.cell? ⟨g9, 0, none⟩ = some (.slice D dn dc) ∧ w'.cell? ⟨g9, 1, none⟩ = some (.int .u64 u) ∧ w'.cell? ⟨g9, 2, none⟩ = some (.int .i8 (-(k + 1))) ∧ w'.cell? ⟨g9, 3, none⟩ = some (.int .u8 dl) ∧ w'.cell? ⟨g9, 4, none⟩ = some (.int .u8 rl) ∧
      w'.cell? ⟨g9, 5, none⟩ = some (.int .u16 (65535 - (col : Int))) ∧ w'.cell? ⟨cb, col, none⟩ = some (.slice (some ⟨(R col).b, (R col).o, none⟩) (colOf log col).length (R col).cap))) (by kernel_rfl) ?_ (fun hHeld => ?_)
  · exact ⟨e3, z0, z1, z2, z3, z4, z5, f1⟩
  refine Upto.take (i := 0) (v := ?_) at0 (by kernel_rfl) (by kernel_rfl) (by kernel_rfl) (by kernel_rfl) (fun _ _ _ h => h) (by rfl) ?_ hHeld ?_
  rotate_left
  · intro w hSw
    try dsimp only at hSw
    go_simp
    try with_reducible rfl
  try simp only [Act.put, List.setIfInBounds_toArray, List.set_cons_zero, List.set_cons_succ]
  refine Upto.take (i := 1) (v := ?_) at1 (by kernel_rfl) (by kernel_rfl) (by kernel_rfl) (by kernel_rfl) (fun _ _ _ h => h) (by rfl) ?_ hHeld ?_
  rotate_left
  · intro w hSw
    try dsimp only at hSw
    go_simp
    try with_reducible rfl
  try simp only [Act.put, List.setIfInBounds_toArray, List.set_cons_zero, List.set_cons_succ]
  refine Upto.take (i := 2) (v := ?_) at2 (by kernel_rfl) (by kernel_rfl) (by kernel_rfl) (by kernel_rfl) (fun _ _ _ h => h) (by rfl) ?_ hHeld ?_
  rotate_left
  · intro w hSw
    try dsimp only at hSw
    go_simp
    try with_reducible rfl
  try simp only [Act.put, List.setIfInBounds_toArray, List.set_cons_zero, List.set_cons_succ]
  refine Upto.take (i := 3) (v := ?_) at3 (by kernel_rfl) (by kernel_rfl) (by kernel_rfl) (by kernel_rfl) (fun _ _ _ h => h) (by rfl) ?_ hHeld ?_
  rotate_left
  · intro w hSw
    try dsimp only at hSw
    go_simp
    try with_reducible rfl
  try simp only [Act.put, List.setIfInBounds_toArray, List.set_cons_zero, List.set_cons_succ]
  refine Upto.take (i := 4) (v := ?_) at4 (by kernel_rfl) (by kernel_rfl) (by kernel_rfl) (by kernel_rfl) (fun _ _ _ h => h) (by rfl) ?_ hHeld ?_
  rotate_left
  · intro w hSw
    try dsimp only at hSw
    go_simp
    try with_reducible rfl
  try simp only [Act.put, List.setIfInBounds_toArray, List.set_cons_zero, List.set_cons_succ]
  refine Upto.take (i := 5) (v := ?_) at5 (by kernel_rfl) (by kernel_rfl) (by kernel_rfl) (by kernel_rfl) (fun _ _ _ h => h) (by rfl) ?_ hHeld ?_
  rotate_left
  · intro w hSw
    try dsimp only at hSw
    go_simp
    try with_reducible rfl
  try simp only [Act.put, List.setIfInBounds_toArray, List.set_cons_zero, List.set_cons_succ]
  refine Upto.take (i := 6) (v := ?_) at6 (by kernel_rfl) (by kernel_rfl) (by kernel_rfl) (by kernel_rfl) (fun _ _ _ h => h) (by rfl) ?_ hHeld ?_
  rotate_left
  · intro w hSw
    try dsimp only at hSw
    go_simp
    try with_reducible rfl
  try simp only [Act.put, List.setIfInBounds_toArray, List.set_cons_zero, List.set_cons_succ]
  refine Upto.step (i := 7) (by kernel_rfl) at7 (fun K' hK => ?_)
  go_simp
  refine hK.out _ _ (.inr ?_) (fun hHeld1 => ?_)
  · first | go_keep | (exact ⟨(cold (w := w7.drew) (by show _ < w7.heap.size; omega)).trans e3, (cold (w := w7.drew) (by show _ < w7.heap.size; omega)).trans z0, (cold (w := w7.drew) (by show _ < w7.heap.size; omega)).trans z1, (cold (w := w7.drew) (by show _ < w7.heap.size; omega)).trans z2, (cold (w := w7.drew) (by show _ < w7.heap.size; omega)).trans z3, (cold (w := w7.drew) (by show _ < w7.heap.size; omega)).trans z4, (cold (w := w7.drew) (by show _ < w7.heap.size; omega)).trans z5, f1c⟩)
  clear hK K'
  replace hHeld := hHeld1.resolve_left (by decide)
  clear hHeld1
  try simp only [Act.put, List.setIfInBounds_toArray, List.set_cons_zero, List.set_cons_succ]
  refine Upto.step (i := 8) (by kernel_rfl) at8 (fun K' hK => ?_)
  refine step_append_one (by rfl) _ _ _ (by rfl) 76 i76 _ 6 40 Tryz.underlying62 J1.out J2.out J3.out J4.out rfl (by decide) (R col).b (R col).o (colOf log col).length (R col).cap (HC8.out.olds col) (by rfl) (HC8.out.olds_length col) (HC8.out.olds_get hcol) ⟨w7.heap.size, 0, none⟩ 1 (vlCells D dn dc u ⟨col, rl, dl, false, k, num, t⟩) (by rfl) rfl (World.news_of_block (heap_alloc_new w7.drew _)) (by simp [Value.oneCell']) (fun hr j hj => by rw [Nat.add_assoc]; exact HC8.out.room col hcol _ (by have : j < 6 := hj; omega)) (by simp only [maxLen]; omega) (by omega) ?_
  intro b' o' cap' w9 hap
  have hfr9 : ∀ g i, g < w7.heap.size → g ≠ (R col).b → w9.cell? ⟨g, i, none⟩ = w7.cell? ⟨g, i, none⟩ := fun g i hg hne => (World.cell?_of_block (a := ⟨g, i, none⟩) (appOne_block hap (by show g < _; simp; omega) hne)).trans (cold (w := w7.drew) hg)
  have hst : ∀ v g i, g ≠ cb → (w9.setCell ⟨cb, col, none⟩ v).cell? ⟨g, i, none⟩ = w9.cell? ⟨g, i, none⟩ := fun v g i hne => World.cell?_of_block (a := ⟨g, i, none⟩) (setCell_other _ _ _ hne)
  have hc9 := (hfr9 cb col (by omega) (by omega)).trans f1
  have hz9 : w9.frozen? ⟨cb, col, none⟩ = false := (HC8.out.row.of_eq (appOne_block hap (by simp; omega) (by omega))).free col
  refine hK.out _ _ (.inr ?_) (fun hHeld1 => ?_)
  · exact ⟨(hfr9 _ _ (by omega) (by omega)).trans e3, (hfr9 _ _ (by omega) (by omega)).trans z0, (hfr9 _ _ (by omega) (by omega)).trans z1, (hfr9 _ _ (by omega) (by omega)).trans z2, (hfr9 _ _ (by omega) (by omega)).trans z3, (hfr9 _ _ (by omega) (by omega)).trans z4, (hfr9 _ _ (by omega) (by omega)).trans z5, hc9⟩
  clear hK K'
  replace hHeld := hHeld1.resolve_left (by decide)
  clear hHeld1
  try simp only [Act.put, List.setIfInBounds_toArray, List.set_cons_zero, List.set_cons_succ]
  refine Upto.take (i := 9) (v := ?_) at9 (by kernel_rfl) (by kernel_rfl) (by kernel_rfl) (by kernel_rfl) (fun _ _ _ h => h) (by rfl) ?_ hHeld ?_
  rotate_left
  · intro w hSw
    try dsimp only at hSw
    go_simp
    try with_reducible rfl
  try simp only [Act.put, List.setIfInBounds_toArray, List.set_cons_zero, List.set_cons_succ]
  refine Upto.step (i := 10) (by kernel_rfl) at10 (fun K' hK => ?_)
  go_simp
  refine hK.out _ _ (.inl rfl) (fun _ => ?_)
  clear hK K'
  try simp only [Act.put, List.setIfInBounds_toArray, List.set_cons_zero, List.set_cons_succ]
  refine Upto.done (by kernel_rfl) ?_ _
  all_goals
    go_end0
    obtain ⟨hp, hbl, hkp⟩ := HC8.out.pushK HKC.out HKR.out (fun g hg => by have := HKK.out g hg; show g < (w7.drew.alloc _).heap.size; rw [size_alloc1]; show g < w7.heap.size + 1; omega) hcol (x := ⟨col, rl, dl, false, k, num, t⟩) rfl (HV.out.mono ((hb7.mono hB).trans (((Below.refl B w7).drew).alloc (by show B ≤ w7.heap.size; omega) _)) (Nat.le_refl _)) hap
    exact ⟨rfl, hp, (hb7.mono hB).trans ((((Below.refl B w7).drew).alloc (by show B ≤ w7.heap.size; omega) _).trans hbl), fun g hg => by have hg2 := HKK.out g hg; exact (hkp g hg).trans ((Below.heap_alloc w7.drew _ g (by show g < w7.heap.size; omega)).trans (hb7.block g hg2))⟩
end Go.Proofs.YtglgclkgppomiaaGreat

namespace Go.Proofs.YtglgclkgppomiaaGreat
open Go Go.RowKit

theorem below_set8 {B : Nat} {w w' : World} (h : Below B w w') {g : Nat} (hg : B ≤ g) (b0 b1 b2 b3 b4 b5 b6 b7 : Value) :
    Below B w ((((((((w'.setCell ⟨g, 0, none⟩ b0).setCell ⟨g, 1, none⟩ b1).setCell ⟨g, 2, none⟩ b2).setCell ⟨g, 3, none⟩ b3).setCell ⟨g, 4, none⟩ b4).setCell ⟨g, 5, none⟩ b5).setCell ⟨g, 6, none⟩ b6).setCell ⟨g, 7, none⟩ b7) :=
  below_setCell (below_setCell (below_set6 h hg b0 b1 b2 b3 b4 b5) hg _) hg _

set_option maxRecDepth 100000 in
set_option maxHeartbeats 2000000 in
theorem opt136_none (B cb n a rd rl dl : Nat) (f : FuncId) (cap : Array Value) (log : List Cl) (K : Nat → Prop) (w : World) (hK : ∀ g, K g → g < w.heap.size) (hent : Enters f) (hc : w.cell? ⟨a, 0, none⟩ = some (.func (.func f) #[] cap)) (ha : a < w.heap.size) (hB : B ≤ w.heap.size)
    (hin : ∀ W, Below w.heap.size w W → Calls Tryz.prog f (decArgs cb n rd rl dl noTree ++ cap) W (Took B cb n log K W)) :
    Calls Tryz.prog 136 (decArgs cb n rd rl dl noTree ++ #[.pointer (some ⟨a, 0, none⟩)]) w (Took B cb n log K w) := by
  have HIN := Lib.hid hin
  have HKK := Lib.hid hK
  have hent1 : ∀ args W, (callFunc f args).run Tryz.prog W = .ok (.enter f args) W := hent
  show Calls Tryz.prog 136 #[.slice (some ⟨cb, 0, none⟩) n n, .agg #[.int .u8 (rd : Int), .int .u8 (rl : Int), .int .u8 (dl : Int)], .agg (trCells 0 none 0 0 0 0 none 0 0), .pointer (some ⟨a, 0, none⟩)] w _
  unfold trCells
  clear hin hK
  go_enter Tryz.func136, Tryz.ntmps136
  go_wp2_with fail
  refine (valid137 _ _ _ _ _ _ _ _ _ _).mono ?_
  rintro e w1 ⟨rfl, hb⟩
  have r1 : RowB w1 w.heap.size 124 #[.int .u8 rd, .int .u8 rl, .int .u8 dl] := ((RowB.new w 124 _).alloc _).keep hb (by simp; omega)
  have r2 : RowB w1 (w.heap.size + 1) 79 (trCells 0 none 0 0 0 0 none 0 0) := (rowB_new (by simp)).keep hb (by simp)
  have hb2 : Below w.heap.size w w1 := (((Below.refl _ _).alloc (Nat.le_refl _) _).alloc (by simp) _).trans (hb.mono (by simp; omega))
  have hc1 := (bcell hb2 ha).trans hc
  clear hb hc
  obtain ⟨l0, l1, l2⟩ := r1.c3
  obtain ⟨t0, t1, t2, t3, t4, t5, t6, t7⟩ := r2.c8
  clear r1 r2
  go_wp2_with fail
  refine (HIN.out w1 hb2).mono ?_
  rintro e w2 ⟨rfl, hcols, hb3, hkp⟩
  have HC := Lib.hid hcols
  have HKP := Lib.hid hkp
  clear hcols hkp
  go_wp2_with fail
  go_end0
  exact ⟨rfl, HC.out, (hb2.mono hB).trans hb3, fun g hg => (HKP.out g hg).trans (hb2.block g (HKK.out g hg))⟩
set_option maxRecDepth 100000 in
set_option maxHeartbeats 2000000 in
theorem opt136_null (B cb n a rd rl dl : Nat) (D : Option Addr) (dn dc : Nat) (u kd : Int) (A : Option Addr) (nn c : Nat) (f : FuncId) (cap : Array Value) (log : List Cl) (K : Nat → Prop) (w : World) (hK : ∀ g, K g → g < w.heap.size) (hent : Enters f) (hc : w.cell? ⟨a, 0, none⟩ = some (.func (.func f) #[] cap)) (ha : a < w.heap.size) (hB : B ≤ w.heap.size)
    (hin : ∀ W, Below w.heap.size w W → Calls Tryz.prog f (decArgs cb n rd rl dl noTree ++ cap) W (Took B cb n log K W)) :
    Calls Tryz.prog 136 (decArgs cb n rd rl dl (trVal 1 D dn dc u kd A nn c) ++ #[.pointer (some ⟨a, 0, none⟩)]) w (Took B cb n log K w) := by
  have HIN := Lib.hid hin
  have HKK := Lib.hid hK
  have hent1 : ∀ args W, (callFunc f args).run Tryz.prog W = .ok (.enter f args) W := hent
  show Calls Tryz.prog 136 #[.slice (some ⟨cb, 0, none⟩) n n, .agg #[.int .u8 (rd : Int), .int .u8 (rl : Int), .int .u8 (dl : Int)], .agg (trCells 1 D dn dc u kd A nn c), .pointer (some ⟨a, 0, none⟩)] w _
  unfold trCells
  clear hin hK
  go_enter Tryz.func136, Tryz.ntmps136
  go_wp2_with fail
  refine (valid137 _ _ _ _ _ _ _ _ _ _).mono ?_
  rintro e w1 ⟨rfl, hb⟩
  have r1 : RowB w1 w.heap.size 124 #[.int .u8 rd, .int .u8 rl, .int .u8 dl] := ((RowB.new w 124 _).alloc _).keep hb (by simp; omega)
  have r2 : RowB w1 (w.heap.size + 1) 79 (trCells 1 D dn dc u kd A nn c) := (rowB_new (by simp)).keep hb (by simp)
  have hb2 : Below w.heap.size w w1 := (((Below.refl _ _).alloc (Nat.le_refl _) _).alloc (by simp) _).trans (hb.mono (by simp; omega))
  have hc1 := (bcell hb2 ha).trans hc
  clear hb hc
  obtain ⟨l0, l1, l2⟩ := r1.c3
  obtain ⟨t0, t1, t2, t3, t4, t5, t6, t7⟩ := r2.c8
  have hsz := hb2.size
  go_wp2_with fail
  refine (null138 1 (by decide) _ _ _ _ _ _ _ _ _).mono ?_
  rintro e w2 ⟨rfl, hbm⟩
  have r1' := r1.keep hbm r1.lt
  have r2' := r2.keep hbm r2.lt
  have hc2 := (bcell hbm (b := a) (o := 0) (by omega)).trans hc1
  have hb3 := hb2.trans (hbm.mono hb2.size)
  clear r1 r2 hc1 l0 l1 l2 t0 t1 t2 t3 t4 t5 t6 t7 hbm
  obtain ⟨l0, l1, l2⟩ := r1'.c3
  obtain ⟨t0, t1, t2, t3, t4, t5, t6, t7⟩ := r2'.c8
  have y0 := r2'.free 0
  have y1 := r2'.free 1
  have y2 := r2'.free 2
  have y3 := r2'.free 3
  have y4 := r2'.free 4
  have y5 := r2'.free 5
  have y6 := r2'.free 6
  have y7 := r2'.free 7
  go_wp2_with fail
  have hb4 := below_set8 hb3 (g := w.heap.size + 1) (by omega) (.int .i8 0) (.slice none 0 0) (.int .u64 0) (.int .i8 0) (.int .u8 0) (.int .u8 0) (.int .u16 0) (.slice none 0 0)
  refine (HIN.out _ hb4).mono ?_
  rintro e w5 ⟨rfl, hcols, hb5, hkp⟩
  have HC := Lib.hid hcols
  have HKP := Lib.hid hkp
  clear hkp
  have HB4 := Lib.hid hb4
  clear hcols hb4
  go_wp2_with fail
  go_end0
  exact ⟨rfl, HC.out, (HB4.out.mono hB).trans hb5, fun g hg => (HKP.out g hg).trans (HB4.out.block g (HKK.out g hg))⟩
set_option maxRecDepth 100000 in
set_option maxHeartbeats 2000000 in
theorem opt136_some (B cb n a rd rl dl : Nat) (k : Int) (hk : k ≠ 0 ∧ k ≠ 1) (D : Option Addr) (dn dc : Nat) (u kd : Int) (A : Option Addr) (nn c : Nat) (hdl : dl < 255) (f : FuncId) (cap : Array Value) (log : List Cl) (K : Nat → Prop) (w : World) (hK : ∀ g, K g → g < w.heap.size) (hent : Enters f) (hc : w.cell? ⟨a, 0, none⟩ = some (.func (.func f) #[] cap)) (ha : a < w.heap.size) (hB : B ≤ w.heap.size)
    (hin : ∀ W, Below w.heap.size w W → Calls Tryz.prog f (decArgs cb n rd rl (dl + 1) (trVal k D dn dc u kd A nn c) ++ cap) W (Took B cb n log K W)) :
    Calls Tryz.prog 136 (decArgs cb n rd rl dl (trVal k D dn dc u kd A nn c) ++ #[.pointer (some ⟨a, 0, none⟩)]) w (Took B cb n log K w) := by
  have HIN := Lib.hid hin
  have HKK := Lib.hid hK
  have HK := Lib.hid hk
  have hk0 : (k != 0) = true := by simpa using hk.1
  have hk1 : (k == 1) = false := by simpa using hk.2
  have hent1 : ∀ args W, (callFunc f args).run Tryz.prog W = .ok (.enter f args) W := hent
  show Calls Tryz.prog 136 #[.slice (some ⟨cb, 0, none⟩) n n, .agg #[.int .u8 (rd : Int), .int .u8 (rl : Int), .int .u8 (dl : Int)], .agg (trCells k D dn dc u kd A nn c), .pointer (some ⟨a, 0, none⟩)] w _
  unfold trCells
  clear hin hk hK
  go_enter Tryz.func136, Tryz.ntmps136
  go_wp2_with fail
  refine (valid137 _ _ _ _ _ _ _ _ _ _).mono ?_
  rintro e w1 ⟨rfl, hb⟩
  have r1 : RowB w1 w.heap.size 124 #[.int .u8 rd, .int .u8 rl, .int .u8 dl] := ((RowB.new w 124 _).alloc _).keep hb (by simp; omega)
  have r2 : RowB w1 (w.heap.size + 1) 79 (trCells k D dn dc u kd A nn c) := (rowB_new (by simp)).keep hb (by simp)
  have hb2 : Below w.heap.size w w1 := (((Below.refl _ _).alloc (Nat.le_refl _) _).alloc (by simp) _).trans (hb.mono (by simp; omega))
  have hc1 := (bcell hb2 ha).trans hc
  clear hb hc
  obtain ⟨l0, l1, l2⟩ := r1.c3
  obtain ⟨t0, t1, t2, t3, t4, t5, t6, t7⟩ := r2.c8
  have hsz := hb2.size
  rw [hk0]
  go_wp2_with fail
  refine (null138 k HK.out.1 _ _ _ _ _ _ _ _ _).mono ?_
  rintro e w2 ⟨rfl, hbm⟩
  have r1' := r1.keep hbm r1.lt
  have r2' := r2.keep hbm r2.lt
  have hc2 := (bcell hbm (b := a) (o := 0) (by omega)).trans hc1
  have hb3 := hb2.trans (hbm.mono hb2.size)
  clear r1 r2 hc1 l0 l1 l2 t0 t1 t2 t3 t4 t5 t6 t7 hbm
  obtain ⟨l0, l1, l2⟩ := r1'.c3
  obtain ⟨t0, t1, t2, t3, t4, t5, t6, t7⟩ := r2'.c8
  have y2 := r1'.free 2
  rw [hk1]
  go_wp2_with fail
  have hb4 := below_setCell hb3 (p := ⟨w.heap.size, 2, none⟩) (by show _ ≤ w.heap.size; omega) (.int .u8 ((dl : Int) + 1))
  refine (HIN.out _ hb4).mono ?_
  rintro e w5 ⟨rfl, hcols, hb5, hkp⟩
  have HC := Lib.hid hcols
  have HKP := Lib.hid hkp
  clear hkp
  have HB4 := Lib.hid hb4
  clear hcols hb4
  go_wp2_with fail
  go_end0
  exact ⟨rfl, HC.out, (HB4.out.mono hB).trans hb5, fun g hg => (HKP.out g hg).trans (HB4.out.block g (HKK.out g hg))⟩
end Go.Proofs.YtglgclkgppomiaaGreat

namespace Go.Proofs.YtglgclkgppomiaaGreat
open Go Go.RowKit

set_option maxRecDepth 100000 in
set_option maxHeartbeats 2000000 in
theorem rep139_none (B cb n a rd rl dl : Nat) (f : FuncId) (cap : Array Value) (log : List Cl) (K : Nat → Prop) (w : World) (hK : ∀ g, K g → g < w.heap.size) (hent : Enters f) (hc : w.cell? ⟨a, 0, none⟩ = some (.func (.func f) #[] cap)) (ha : a < w.heap.size) (hB : B ≤ w.heap.size)
    (hin : ∀ W, Below w.heap.size w W → Calls Tryz.prog f (decArgs cb n rd rl dl noTree ++ cap) W (Took B cb n log K W)) :
    Calls Tryz.prog 139 (decArgs cb n rd rl dl noTree ++ #[.pointer (some ⟨a, 0, none⟩)]) w (Took B cb n log K w) := by
  have HIN := Lib.hid hin
  have HKK := Lib.hid hK
  have hent1 : ∀ args W, (callFunc f args).run Tryz.prog W = .ok (.enter f args) W := hent
  show Calls Tryz.prog 139 #[.slice (some ⟨cb, 0, none⟩) n n, .agg #[.int .u8 (rd : Int), .int .u8 (rl : Int), .int .u8 (dl : Int)], .agg (trCells 0 none 0 0 0 0 none 0 0), .pointer (some ⟨a, 0, none⟩)] w _
  unfold trCells
  clear hin hK
  go_enter Tryz.func139, Tryz.ntmps139
  go_wp2_with fail
  refine (valid137 _ _ _ _ _ _ _ _ _ _).mono ?_
  rintro e w1 ⟨rfl, hb⟩
  have r1 : RowB w1 w.heap.size 124 #[.int .u8 rd, .int .u8 rl, .int .u8 dl] := ((RowB.new w 124 _).alloc _).keep hb (by simp; omega)
  have r2 : RowB w1 (w.heap.size + 1) 79 (trCells 0 none 0 0 0 0 none 0 0) := (rowB_new (by simp)).keep hb (by simp)
  have hb2 : Below w.heap.size w w1 := (((Below.refl _ _).alloc (Nat.le_refl _) _).alloc (by simp) _).trans (hb.mono (by simp; omega))
  have hc1 := (bcell hb2 ha).trans hc
  clear hb hc
  obtain ⟨l0, l1, l2⟩ := r1.c3
  obtain ⟨t0, t1, t2, t3, t4, t5, t6, t7⟩ := r2.c8
  clear r1 r2
  go_wp2_with fail
  refine (HIN.out w1 hb2).mono ?_
  rintro e w2 ⟨rfl, hcols, hb3, hkp⟩
  have HC := Lib.hid hcols
  have HKP := Lib.hid hkp
  clear hcols hkp
  go_wp2_with fail
  go_end0
  exact ⟨rfl, HC.out, (hb2.mono hB).trans hb3, fun g hg => (HKP.out g hg).trans (hb2.block g (HKK.out g hg))⟩

set_option maxRecDepth 100000 in
set_option maxHeartbeats 2000000 in
theorem rep139_empty (B cb n a rd rl dl : Nat) (D : Option Addr) (dn dc : Nat) (u kd : Int) (A : Option Addr) (c : Nat) (f : FuncId) (cap : Array Value) (log : List Cl) (K : Nat → Prop) (w : World) (hK : ∀ g, K g → g < w.heap.size) (hent : Enters f) (hc : w.cell? ⟨a, 0, none⟩ = some (.func (.func f) #[] cap)) (ha : a < w.heap.size) (hB : B ≤ w.heap.size)
    (hin : ∀ W, Below w.heap.size w W → Calls Tryz.prog f (decArgs cb n rd rl dl noTree ++ cap) W (Took B cb n log K W)) :
    Calls Tryz.prog 139 (decArgs cb n rd rl dl (trVal 3 D dn dc u kd A 0 c) ++ #[.pointer (some ⟨a, 0, none⟩)]) w (Took B cb n log K w) := by
  have HIN := Lib.hid hin
  have HKK := Lib.hid hK
  have hent1 : ∀ args W, (callFunc f args).run Tryz.prog W = .ok (.enter f args) W := hent
  show Calls Tryz.prog 139 #[.slice (some ⟨cb, 0, none⟩) n n, .agg #[.int .u8 (rd : Int), .int .u8 (rl : Int), .int .u8 (dl : Int)], .agg (trCells 3 D dn dc u kd A 0 c), .pointer (some ⟨a, 0, none⟩)] w _
  unfold trCells
  clear hin hK
  go_enter Tryz.func139, Tryz.ntmps139
  go_wp2_with fail
  refine (valid137 _ _ _ _ _ _ _ _ _ _).mono ?_
  rintro e w1 ⟨rfl, hb⟩
  have r1 : RowB w1 w.heap.size 124 #[.int .u8 rd, .int .u8 rl, .int .u8 dl] := ((RowB.new w 124 _).alloc _).keep hb (by simp; omega)
  have r2 : RowB w1 (w.heap.size + 1) 79 (trCells 3 D dn dc u kd A 0 c) := (rowB_new (by simp)).keep hb (by simp)
  have hb2 : Below w.heap.size w w1 := (((Below.refl _ _).alloc (Nat.le_refl _) _).alloc (by simp) _).trans (hb.mono (by simp; omega))
  have hc1 := (bcell hb2 ha).trans hc
  clear hb hc
  obtain ⟨l0, l1, l2⟩ := r1.c3
  obtain ⟨t0, t1, t2, t3, t4, t5, t6, t7⟩ := r2.c8
  have hsz := hb2.size
  go_wp2_with fail
  refine (len132 _ _ _ _ _ _ _ _ _ _).mono ?_
  rintro e w2 ⟨rfl, hbm⟩
  have r1' := r1.keep hbm r1.lt
  have r2' := r2.keep hbm r2.lt
  have hc2 := (bcell hbm (b := a) (o := 0) (by omega)).trans hc1
  have hb3 := hb2.trans (hbm.mono hb2.size)
  clear r1 r2 hc1 l0 l1 l2 t0 t1 t2 t3 t4 t5 t6 t7 hbm
  obtain ⟨l0, l1, l2⟩ := r1'.c3
  obtain ⟨t0, t1, t2, t3, t4, t5, t6, t7⟩ := r2'.c8
  clear r1' r2'
  go_wp2_with fail
  refine (HIN.out w2 hb3).mono ?_
  rintro e w5 ⟨rfl, hcols, hb5, hkp⟩
  have HC := Lib.hid hcols
  have HKP := Lib.hid hkp
  clear hcols hkp
  go_wp2_with fail
  go_end0
  exact ⟨rfl, HC.out, (hb3.mono hB).trans hb5, fun g hg => (HKP.out g hg).trans (hb3.block g (HKK.out g hg))⟩
end Go.Proofs.YtglgclkgppomiaaGreat

namespace Go.Proofs.YtglgclkgppomiaaGreat
open Go Go.RowKit

/-- The first j parts of a list of cells. -/
def parts (X : Nat → List Cl) (j : Nat) : List Cl := ((List.range j).map X).flatten
theorem parts_zero (X : Nat → List Cl) : parts X 0 = [] := rfl
theorem parts_succ (X : Nat → List Cl) (j : Nat) : parts X (j + 1) = parts X j ++ X j := by simp [parts, List.range_succ]
/-- The level of repetition at the j-th item. -/
def repAt (rl rd j : Nat) : Nat := if j = 0 then rl else rd + 1

set_option maxRecDepth 100000 in
set_option maxHeartbeats 4000000 in
theorem rep139_some (B cb n a rd rl dl : Nat) (hrd : rd < 255) (hdl : dl < 255) (D : Option Addr) (dn dc : Nat) (u kd : Int) (A : Option Addr) (m c : Nat) (hm : 0 < m) (ts : List Tr) (X : Nat → List Cl) (f : FuncId) (cap : Array Value) (log : List Cl) (K : Nat → Prop) (w : World)
    (hK : ∀ g, K g → g < w.heap.size) (hent : Enters f) (hc : w.cell? ⟨a, 0, none⟩ = some (.func (.func f) #[] cap)) (ha : a < B) (hB : B ≤ w.heap.size) (htr : TrsAt w 0 B A m c ts) (hcols : ColsK w B cb n log K) (hm63 : m ≤ 1000000000)
    (hin : ∀ W j t D dn dc u A c (K' : Nat → Prop), ts[j]? = some t → TrAt W 0 B t D dn dc u A c → Below B w W → B ≤ W.heap.size → (∀ g, K' g → g < W.heap.size) → ColsK W B cb n (log ++ parts X j) K' →
      Calls Tryz.prog f (decArgs cb n (rd + 1) (repAt rl rd j) (dl + 1) (trVal t.k D dn dc u (kdOf (t.k != 2) t.lk) A t.items.length c) ++ cap) W (Took B cb n (log ++ parts X (j + 1)) K' W)) :
    Calls Tryz.prog 139 (decArgs cb n rd rl dl (trVal 3 D dn dc u kd A m c) ++ #[.pointer (some ⟨a, 0, none⟩)]) w (Took B cb n (log ++ parts X m) K w) := by
  have HIN := Lib.hid hin
  have HKK := Lib.hid hK
  have HTR := Lib.hid htr
  have HCOLS := Lib.hid hcols
  have hent1 : ∀ args W, (callFunc f args).run Tryz.prog W = .ok (.enter f args) W := hent
  have hm0 : ((m : Int) == 0) = false := by simp; omega
  have hm1 : ¬ ((m : Int) = 0) := by omega
  show Calls Tryz.prog 139 #[.slice (some ⟨cb, 0, none⟩) n n, .agg #[.int .u8 (rd : Int), .int .u8 (rl : Int), .int .u8 (dl : Int)], .agg (trCells 3 D dn dc u kd A m c), .pointer (some ⟨a, 0, none⟩)] w _
  unfold trCells
  clear hin hK htr hcols
  go_enter Tryz.func139, Tryz.ntmps139
  go_wp2_with fail
  refine (valid137 _ _ _ _ _ _ _ _ _ _).mono ?_
  rintro e w1 ⟨rfl, hb⟩
  have r1 : RowB w1 w.heap.size 124 #[.int .u8 rd, .int .u8 rl, .int .u8 dl] := ((RowB.new w 124 _).alloc _).keep hb (by simp; omega)
  have r2 : RowB w1 (w.heap.size + 1) 79 (trCells 3 D dn dc u kd A m c) := (rowB_new (by simp)).keep hb (by simp)
  have hb2 : Below w.heap.size w w1 := (((Below.refl _ _).alloc (Nat.le_refl _) _).alloc (by simp) _).trans (hb.mono (by simp; omega))
  clear hb
  obtain ⟨l0, l1, l2⟩ := r1.c3
  obtain ⟨t0, t1, t2, t3, t4, t5, t6, t7⟩ := r2.c8
  have hsz := hb2.size
  go_wp2_with fail
  refine (len132 _ _ _ _ _ _ _ _ _ _).mono ?_
  rintro e w2 ⟨rfl, hbm⟩
  have r1' := r1.keep hbm r1.lt
  have r2' := r2.keep hbm r2.lt
  have hb3 := hb2.trans (hbm.mono hb2.size)
  clear r1 r2 l0 l1 l2 t0 t1 t2 t3 t4 t5 t6 t7 hbm hb2 hsz
  obtain ⟨l0, l1, l2⟩ := r1'.c3
  obtain ⟨t0, t1, t2, t3, t4, t5, t6, t7⟩ := r2'.c8
  have y0 := r1'.free 0
  have y2 := r1'.free 2
  go_wp2_with fail
  refine (len132 _ _ _ _ _ _ _ _ _ _).mono ?_
  rintro e w3 ⟨rfl, hbm⟩
  have hlv : w.heap.size < w2.heap.size := r1'.lt
  have hlv1 : w.heap.size + 1 < w2.heap.size := r2'.lt
  have r3 : RowB w3 w.heap.size 124 #[.int .u8 ((rd : Int) + 1), .int .u8 rl, .int .u8 ((dl : Int) + 1)] := ((r1'.set 0 (.int .u8 ((rd : Int) + 1))).set 2 (.int .u8 ((dl : Int) + 1))).keep hbm (by simp only [setCell_size]; exact hlv)
  have r4 : RowB w3 (w.heap.size + 1) 79 (trCells 3 D dn dc u kd A m c) := ((r2'.of_eq (setCell_other _ ⟨w.heap.size, 0, none⟩ (.int .u8 ((rd : Int) + 1)) (by show w.heap.size + 1 ≠ w.heap.size; omega))).of_eq (setCell_other _ ⟨w.heap.size, 2, none⟩ (.int .u8 ((dl : Int) + 1)) (by show w.heap.size + 1 ≠ w.heap.size; omega))).keep hbm (by simp only [setCell_size]; exact hlv1)
  have hb4 : Below w.heap.size w w3 := (below_setCell (below_setCell hb3 (p := ⟨w.heap.size, 0, none⟩) (Nat.le_refl _) (.int .u8 ((rd : Int) + 1))) (p := ⟨w.heap.size, 2, none⟩) (Nat.le_refl _) (.int .u8 ((dl : Int) + 1))).trans (hbm.mono (by simp only [setCell_size]; omega))
  have hsz4 : w.heap.size + 2 ≤ w3.heap.size := by have := hbm.size; simp only [setCell_size] at this; omega
  have R3 := Lib.hid r3
  have R4 := Lib.hid r4
  have HB4 := Lib.hid hb4
  clear r1' r2' hb3 hbm l0 l1 l2 t0 t1 t2 t3 t4 t5 t6 t7 y0 y2 r3 r4 hb4 hlv hlv1
  go_wp2_with fail
  go_loopw [7] (fun i wr => ∃ j : Nat, j ≤ m ∧ i = .int .i64 j ∧ RowB wr w.heap.size 124 #[.int .u8 ((rd : Int) + 1), .int .u8 (repAt rl rd j), .int .u8 ((dl : Int) + 1)] ∧ RowB wr (w.heap.size + 1) 79 (trCells 3 D dn dc u kd A m c) ∧
      ColsK wr B cb n (log ++ parts X j) (fun g => K g ∨ g = w.heap.size ∨ g = w.heap.size + 1) ∧ Below B w wr ∧ (∀ g, K g → wr.heap[g]? = w.heap[g]?) ∧ w.heap.size + 2 ≤ wr.heap.size) (fun i _ => m - (intOf i).toNat)
  case atStart =>
    refine ⟨0, Nat.zero_le _, rfl, R3.out, R4.out, ?_, HB4.out.mono hB, fun g hg => HB4.out.block g (HKK.out g hg), hsz4⟩
    rw [parts_zero, List.append_nil]
    exact HCOLS.out.more HB4.out (fun g hg => by rcases hg with h | h | h; exact .inl h; exact .inr (by omega); exact .inr (by omega))
  case round =>
    obtain ⟨j, hj, rfl, hr3, hr4, hcols, hb5, hkp, hsz5⟩ := hrel
    have HR3 := Lib.hid hr3
    have HR4 := Lib.hid hr4
    have HC5 := Lib.hid hcols
    have HB5 := Lib.hid hb5
    have HKP5 := Lib.hid hkp
    clear hcols hkp
    by_cases hlt : j < m
    · obtain ⟨l0, l1, l2⟩ := hr3.c3
      obtain ⟨t0, t1, t2, t3, t4, t5, t6, t7⟩ := hr4.c8
      have hc5 : wr.cell? ⟨a, 0, none⟩ = some (.func (.func f) #[] cap) := (bcell hb5 ha).trans hc
      have hlen := HTR.out.len.1
      have htj : ts[j]? = some (ts[j]'(by omega)) := List.getElem?_eq_getElem _
      have HTJ := Lib.hid htj
      have htr5 : TrsAt wr.drew 0 B A m c ts := HTR.out.mono hb5.drew (Nat.le_refl _)
      have HTR5 := Lib.hid htr5
      have hBw : B ≤ wr.heap.size := by omega
      clear hr3 hr4 hb5 htj htr5
      go_wp2_with fail
      go_region_held3 (fun w' => w'.cell? ⟨a, 0, none⟩ = some (.func (.func f) #[] cap) ∧ w'.cell? ⟨w.heap.size, 0, none⟩ = some (.int .u8 ((rd : Int) + 1)) ∧ w'.cell? ⟨w.heap.size, 1, none⟩ = some (.int .u8 (repAt rl rd j)) ∧ w'.cell? ⟨w.heap.size, 2, none⟩ = some (.int .u8 ((dl : Int) + 1)) ∧
          w'.cell? ⟨w.heap.size + 1, 0, none⟩ = some (.int .i8 3) ∧ w'.cell? ⟨w.heap.size + 1, 1, none⟩ = some (.slice D dn dc) ∧ w'.cell? ⟨w.heap.size + 1, 2, none⟩ = some (.int .u64 u) ∧ w'.cell? ⟨w.heap.size + 1, 3, none⟩ = some (.int .i8 kd) ∧
          w'.cell? ⟨w.heap.size + 1, 4, none⟩ = some (.int .u8 0) ∧ w'.cell? ⟨w.heap.size + 1, 5, none⟩ = some (.int .u8 0) ∧ w'.cell? ⟨w.heap.size + 1, 6, none⟩ = some (.int .u16 0) ∧ w'.cell? ⟨w.heap.size + 1, 7, none⟩ = some (.slice A m c))
        (first
          | (simp [*]; done)
          | (exact ⟨(bcell hbA (by omega)).trans hc5, (bcell hbA (by omega)).trans l0, (bcell hbA (by omega)).trans l1, (bcell hbA (by omega)).trans l2, (bcell hbA (by omega)).trans t0, (bcell hbA (by omega)).trans t1, (bcell hbA (by omega)).trans t2, (bcell hbA (by omega)).trans t3, (bcell hbA (by omega)).trans t4, (bcell hbA (by omega)).trans t5, (bcell hbA (by omega)).trans t6, (bcell hbA (by omega)).trans t7⟩)
          | (exact ⟨(bcell hbZ ha).trans ((bcell hbA (by omega)).trans hc5), (hcZ _ _ (.inr (.inl rfl))).trans ((bcell hbA (by omega)).trans l0), (hcZ _ _ (.inr (.inl rfl))).trans ((bcell hbA (by omega)).trans l1), (hcZ _ _ (.inr (.inl rfl))).trans ((bcell hbA (by omega)).trans l2), (hcZ _ _ (.inr (.inr rfl))).trans ((bcell hbA (by omega)).trans t0), (hcZ _ _ (.inr (.inr rfl))).trans ((bcell hbA (by omega)).trans t1), (hcZ _ _ (.inr (.inr rfl))).trans ((bcell hbA (by omega)).trans t2), (hcZ _ _ (.inr (.inr rfl))).trans ((bcell hbA (by omega)).trans t3), (hcZ _ _ (.inr (.inr rfl))).trans ((bcell hbA (by omega)).trans t4), (hcZ _ _ (.inr (.inr rfl))).trans ((bcell hbA (by omega)).trans t5), (hcZ _ _ (.inr (.inr rfl))).trans ((bcell hbA (by omega)).trans t6), (hcZ _ _ (.inr (.inr rfl))).trans ((bcell hbA (by omega)).trans t7)⟩))
        ((first
          | (go_at_call 133
             refine (index133 3 D dn dc u kd A m c B ts j _ _ HTR5.out hBw hlt HTJ.out).mono ?_
             rintro e w6 ⟨D6, dn6, dc6, u6, A6, c6, rfl, hat6, hb6⟩
             have hbA : Below wr.heap.size wr w6 := below_of_drew hb6
             have hKW : ∀ g, (K g ∨ g = w.heap.size ∨ g = w.heap.size + 1) → g < w6.heap.size := fun g hg => by
               have := hbA.size
               rcases hg with h | h | h
               · have := HKK.out g h; omega
               · omega
               · omega
             have HAT6 := Lib.hid (hat6.mono (hb6.mono hBw) (Nat.le_refl _)))
          | (refine (HIN.out w6 j _ D6 dn6 dc6 u6 A6 c6 (fun g => K g ∨ g = w.heap.size ∨ g = w.heap.size + 1) HTJ.out HAT6.out (HB5.out.trans (hbA.mono hBw)) (Nat.le_trans hBw hbA.size) hKW (HC5.out.keep hbA)).mono ?_
             rintro e w7 ⟨rfl, hcols7, hbZ, hkZ⟩
             have hcZ : ∀ g i, (K g ∨ g = w.heap.size ∨ g = w.heap.size + 1) → w7.cell? ⟨g, i, none⟩ = w6.cell? ⟨g, i, none⟩ := fun g i hg => World.cell?_of_block (a := ⟨g, i, none⟩) (hkZ g hg))))
      have r7 : RowB w7 w.heap.size 124 #[.int .u8 ((rd : Int) + 1), .int .u8 (repAt rl rd j), .int .u8 ((dl : Int) + 1)] := (HR3.out.of_eq (hbA.block _ (by omega))).of_eq (hkZ _ (.inr (.inl rfl)))
      have r8 : RowB w7 (w.heap.size + 1) 79 (trCells 3 D dn dc u kd A m c) := (HR4.out.of_eq (hbA.block _ (by omega))).of_eq (hkZ _ (.inr (.inr rfl)))
      obtain ⟨g0, g1, g2⟩ := r7.c3
      have gy := r7.free 1
      have hC8 := hcols7.poke (g := w.heap.size) (.inr (.inl rfl)) hB 1 (.int .u8 ((rd : Int) + 1))
      have hr8 : RowB (w7.setCell ⟨w.heap.size, 1, none⟩ (.int .u8 ((rd : Int) + 1))) w.heap.size 124 #[.int .u8 ((rd : Int) + 1), .int .u8 ((rd : Int) + 1), .int .u8 ((dl : Int) + 1)] := r7.set 1 _
      have ht8 : RowB (w7.setCell ⟨w.heap.size, 1, none⟩ (.int .u8 ((rd : Int) + 1))) (w.heap.size + 1) 79 (trCells 3 D dn dc u kd A m c) := r8.of_eq (setCell_other _ _ _ (by show w.heap.size + 1 ≠ w.heap.size; omega))
      have hb8 : Below B w (w7.setCell ⟨w.heap.size, 1, none⟩ (.int .u8 ((rd : Int) + 1))) := below_setCell (HB5.out.trans ((hbA.mono hBw).trans hbZ)) (p := ⟨w.heap.size, 1, none⟩) hB _
      have hk8 : ∀ g, K g → (w7.setCell ⟨w.heap.size, 1, none⟩ (.int .u8 ((rd : Int) + 1))).heap[g]? = w.heap[g]? := fun g hg => by
        have hlt2 := HKK.out g hg
        rw [setCell_other (b := g) w7 ⟨w.heap.size, 1, none⟩ _ (by show g ≠ w.heap.size; omega), hkZ g (.inl hg), hbA.block g (by omega)]
        exact HKP5.out g hg
      have hsz8 : w.heap.size + 2 ≤ (w7.setCell ⟨w.heap.size, 1, none⟩ (.int .u8 ((rd : Int) + 1))).heap.size := by
        have := hbA.size
        have := hbZ.size
        rw [setCell_size]; omega
      have hrep : repAt rl rd (j + 1) = rd + 1 := by simp [repAt]
      have HREP := Lib.hid hrep
      have HC8 := Lib.hid hC8
      have HR8 := Lib.hid hr8
      have HT8 := Lib.hid ht8
      have HB8 := Lib.hid hb8
      have HK8 := Lib.hid hk8
      clear hC8 hr8 ht8 hb8 hk8 hrep r7 r8 hcols7 hbZ hkZ hcZ hbA hKW
      go_wp2_with fail
      go_roundw
      case rel => exact ⟨j + 1, by omega, by go_num, by rw [HREP.out]; exact HR8.out, HT8.out, HC8.out, HB8.out, HK8.out, hsz8⟩
      case measure => simp [intOf]; omega
    · obtain rfl : j = m := by omega
      go_wp2_with fail
      go_end0
      exact ⟨rfl, HC5.out.less (fun g hg => .inl hg), HB5.out, HKP5.out⟩
end Go.Proofs.YtglgclkgppomiaaGreat

namespace Go.Proofs.YtglgclkgppomiaaGreat
open Go Go.RowKit

theorem parts_cons (X : Nat → List Cl) (m : Nat) : parts X (m + 1) = X 0 ++ parts (fun j => X (j + 1)) m := by
  unfold parts
  rw [List.range_succ_eq_map]
  simp [List.map_map, Function.comp_def]
theorem parts_congr {X Y : Nat → List Cl} {m : Nat} (h : ∀ j, j < m → X j = Y j) : parts X m = parts Y m := by
  unfold parts
  congr 1
  exact List.map_congr_left fun j hj => h j (List.mem_range.1 hj)
theorem parts_length_le (X : Nat → List Cl) {j m : Nat} (h : j ≤ m) : (parts X j).length ≤ (parts X m).length := by
  induction m with
  | zero => obtain rfl : j = 0 := by omega
            exact Nat.le_refl _
  | succ m ih =>
    by_cases he : j = m + 1
    · subst he; exact Nat.le_refl _
    · rw [parts_succ, List.length_append]
      have := ih (by omega)
      omega
theorem nonesOf_length (n col rep de : Nat) : (nonesOf n col rep de).length = n := by simp [nonesOf]
theorem nonesOf_add (a b col rep de : Nat) : nonesOf (a + b) col rep de = nonesOf a col rep de ++ nonesOf b (col + a) rep de := by
  unfold nonesOf
  rw [List.range_add, List.map_append, List.map_map]
  congr 1
  apply List.map_congr_left
  intro i _
  simp [Function.comp_def, Nat.add_assoc]
/-- What stands at a place of the fields, or something else. -/
def fdAt (kids : List Fd) (j : Nat) : Fd := (kids[j]?).getD (.mk .empty 0 0 [])
theorem fdAt_some {kids : List Fd} {j : Nat} {g : Fd} (h : kids[j]? = some g) : fdAt kids j = g := by simp [fdAt, h]
theorem nones_parts (kids : List Fd) (col rep de : Nat) : ∀ m, m ≤ kids.length → parts (fun j => nonesOf (leavesOf (fdAt kids j)) (col + leaves (kids.take j)) rep de) m = nonesOf (leaves (kids.take m)) col rep de := by
  intro m
  induction m with
  | zero => intro _; simp [parts_zero, leaves, nonesOf]
  | succ m ih =>
    intro hm
    have hk : kids[m]? = some (kids[m]'(by omega)) := List.getElem?_eq_getElem _
    rw [parts_succ, ih (by omega), fdAt_some hk, leaves_snoc _ _ _ hk, nonesOf_add]
/-- The fields' cells, one field behind the other. -/
def shPart (kids : List Fd) (ds : List Dt) (col dep rep de j : Nat) : List Cl :=
  shField (fdAt kids j).way (leavesOf (fdAt kids j)) (fun d col dep rep de => shOnce (fdAt kids j) d col dep rep de) (headDt (ds.drop j)) (col + leaves (kids.take j)) dep rep de
theorem shFields_parts : ∀ (kids : List Fd) (ds : List Dt) (col dep rep de : Nat), shFields kids ds col dep rep de = parts (shPart kids ds col dep rep de) kids.length
  | [], _, _, _, _, _ => by simp [shFields, parts]
  | f :: r, ds, col, dep, rep, de => by
    rw [List.length_cons, parts_cons, shFields, shFields_parts r ds.tail (col + leavesOf f) dep rep de]
    congr 1
    apply parts_congr
    intro j _
    unfold shPart
    have h1 : fdAt (f :: r) (j + 1) = fdAt r j := by simp [fdAt]
    have h2 : leaves ((f :: r).take (j + 1)) = leavesOf f + leaves (r.take j) := by simp [leaves]
    have h3 : ds.drop (j + 1) = ds.tail.drop j := by simp
    rw [h1, h2, h3, Nat.add_assoc]
theorem trFields_length : ∀ (kids : List Fd) (ds : List Dt), (trFields kids ds).length = kids.length
  | [], _ => by simp [trFields]
  | f :: r, ds => by simp [trFields, trFields_length r]
theorem trFields_get : ∀ (kids : List Fd) (ds : List Dt) (j : Nat) (g : Fd), kids[j]? = some g → (trFields kids ds)[j]? = some (trField g.way (fun d => trOnce g d) (headDt (ds.drop j)))
  | [], _, _, _, h => by simp at h
  | f :: r, ds, 0, g, h => by
    simp at h; subst h
    simp [trFields]
  | f :: r, ds, j + 1, g, h => by
    have := trFields_get r ds.tail j g (by simpa using h)
    rw [trFields, List.getElem?_cons_succ, this]
    simp
/-- What of a field counts once it is there. -/
abbrev bareFd (k : Int) (kids : List Fd) : Fd := .mk .empty 0 k kids
theorem shOnce_bare (g : Fd) (d : Dt) (col dep rep de : Nat) : shOnce (bareFd g.kind g.kids) d col dep rep de = shOnce g d col dep rep de := by
  obtain ⟨n, w, k, kids⟩ := g
  cases kids <;> simp [shOnce, Fd.kind, Fd.kids]
theorem trOnce_bare (g : Fd) (d : Dt) : trOnce (bareFd g.kind g.kids) d = trOnce g d := by
  obtain ⟨n, w, k, kids⟩ := g
  cases kids <;> simp [trOnce, Fd.kind, Fd.kids]
def wayOf (o r : Bool) : Int := if o then 1 else if r then 2 else 0
theorem wayOf_eq {w : Int} (h0 : 0 ≤ w) (h2 : w ≤ 2) : wayOf (w == 1) (w == 2) = w := by
  have : w = 0 ∨ w = 1 ∨ w = 2 := by omega
  rcases this with rfl | rfl | rfl <;> rfl
theorem shOnce_leaf (k : Int) (d : Dt) (col dep rep de : Nat) : shOnce (bareFd k []) d col dep rep de = [⟨col, rep, de, false, k, d.num, d.text⟩] := by simp [shOnce]
theorem shOnce_group (k : Int) (kids : List Fd) (hne : kids ≠ []) (d : Dt) (col dep rep de : Nat) : shOnce (bareFd k kids) d col dep rep de = shFields kids d.items col dep rep de := by
  cases kids with
  | nil => exact absurd rfl hne
  | cons f r => simp [shOnce]
theorem trOnce_leaf (k : Int) (d : Dt) : trOnce (bareFd k []) d = .mk 2 k d.num d.text [] := by simp [trOnce]
theorem trOnce_group (k : Int) (kids : List Fd) (hne : kids ≠ []) (d : Dt) : trOnce (bareFd k kids) d = .mk 4 0 0 .empty (trFields kids d.items) := by
  cases kids with
  | nil => exact absurd rfl hne
  | cons f r => simp [trOnce]
theorem trOnce_k (k : Int) (kids : List Fd) (d : Dt) : (trOnce (bareFd k kids) d).k ≠ 0 ∧ (trOnce (bareFd k kids) d).k ≠ 1 := by
  cases kids <;> simp [trOnce, Tr.k]
/-- The cells of a repeated field, item by item. -/
theorem rep_parts (n : Nat) (once : Dt → Nat → Nat → Nat → Nat → List Cl) (d : Dt) (hne : d.items ≠ []) (col dep rep de : Nat) :
    shField 2 n once d col dep rep de = parts (fun j => once (headDt (d.items.drop j)) col (dep + 1) (repAt rep dep j) (de + 1)) d.items.length := by
  unfold shField
  rw [if_neg (by decide), if_pos rfl]
  cases hd : d.items with
  | nil => exact absurd hd hne
  | cons x xs =>
    rw [List.length_cons, parts_cons]
    show once x col (dep + 1) rep (de + 1) ++ (xs.map fun y => once y col (dep + 1) (dep + 1) (de + 1)).flatten = _
    have h2 : (xs.map fun y => once y col (dep + 1) (dep + 1) (de + 1)) = (List.range xs.length).map fun j => once (headDt ((x :: xs).drop (j + 1))) col (dep + 1) (repAt rep dep (j + 1)) (de + 1) := by
      apply List.ext_getElem?
      intro i
      simp only [List.getElem?_map]
      by_cases hi : i < xs.length
      · rw [List.getElem?_range hi, List.getElem?_eq_getElem hi]
        simp only [Option.map_some]
        rw [show headDt ((x :: xs).drop (i + 1)) = xs[i] from by rw [List.drop_succ_cons, List.drop_eq_getElem_cons hi]; rfl]
        rfl
      · rw [List.getElem?_eq_none (by omega), List.getElem?_eq_none (by simp; omega)]
        rfl
    rw [h2]
    rfl
end Go.Proofs.YtglgclkgppomiaaGreat

namespace Go.Proofs.YtglgclkgppomiaaGreat
open Go Go.RowKit

/-- append's second argument may be of another slice type. -/
theorem append_types {P : Program} {t tx e e' : TypeId} (ht : P.underlying t = some (.slice e)) (hx : P.underlying tx = some (.slice e')) (ty : TypeId) (args : Array Value) (w : World) :
    (Builtin.append_ #[t, tx] ty args).run P w = (Builtin.append_ #[t, t] ty args).run P w := by
  unfold Builtin.append_
  simp only [Array.getElem?_eq_getElem, List.size_toArray, List.length_cons, List.length_nil, Nat.reduceAdd, Nat.reduceLT, List.getElem_toArray, List.getElem_cons_zero, List.getElem_cons_succ]
  rcases args[0]? with _ | s
  · rfl
  rcases args[1]? with _ | x
  · rfl
  cases s <;> simp [run_underlying ht, run_underlying hx]

theorem wpList_append2 {P : Program} (w : World) {ops : Array Oper} {rest : List Oper} {o : Oper} {a : Act} {Q : Exit → Act → World → Prop} (hgd : o.guard = none) (s x : Operand) (t tx : TypeId)
    (ho : o.op = .call { callee := .builtin .append, args := #[s, x], argTypes := #[t, tx] })
    (base : Nat) (e e' : TypeId) (i : TypeInfo) (z : Value) (size bytes : Nat) (ht : P.underlying t = some (.slice e)) (htx : P.underlying tx = some (.slice e')) (hi : P.info? e = some i) (hz : i.zero = some z)
    (hsize : i.size = size) (hby : i.bytes = bytes) (hzs : z.cells.size = size) (hsz : 0 < size)
    (v : Value) (n : Nat) (xs : List Value) (hs : a.eval s = v) (hown : w.ownsRow base e size v n xs)
    (ad : Addr) (m c : Nat) (news : List Value) (hx : a.eval x = .slice (some ad) m c) (hl : news.length = m * size) (hnews : ∀ j u, news[j]? = some u → w.cell? (ad.add j) = some u) (h1 : ∀ u ∈ news, u.oneCell' = true)
    (h63 : n + m ≤ maxLen) (hbytes : (n + m) * bytes ≤ 140737488355328) (hbase : base ≤ w.heap.size)
    (h : ∀ v' w', w'.ownsRow base e size v' (n + m) (xs ++ news) → w.grownBy w' v.ownBlock → wpList P ops Q rest (a.put o.dst v') w') : wpList P ops Q (o :: rest) a w :=
  wpList_plain hgd fun K hK => by
    obtain ⟨v', w', hr, h2, h3, _⟩ := run_append_own (P := P) w base t o.type e i z size bytes ht hi hz hsize hby hzs hsz v n xs hown ad m c news hl hnews h1 h63 hbytes hbase
    rw [← append_types ht htx] at hr
    unfold Oper.wp execOp
    simp only [ho, resolve, invoke, builtin, Sem.run_bind, Sem.run_pure, Result.andThen_ok, List.map_toArray, List.map_cons, List.map_nil, hs, hx, hr]
    exact hK _ _ (h v' w' h2 h3)

/-- Cells that are those of values, one behind the other. -/
def Flat (w : World) (B : Nat) (xs : List Value) (cs : List Cl) : Prop :=
  xs.length = cs.length * 6 ∧ ∀ i x, cs[i]? = some x → ∃ A n c u, VR w 0 B x.null x.kind x.num x.text A n c u ∧ xs[i * 6]? = some (.slice A n c) ∧ xs[i * 6 + 1]? = some (.int .u64 u) ∧ xs[i * 6 + 2]? = some (.int .i8 (kdOf x.null x.kind)) ∧
    xs[i * 6 + 3]? = some (.int .u8 x.de) ∧ xs[i * 6 + 4]? = some (.int .u8 x.rep) ∧ xs[i * 6 + 5]? = some (.int .u16 (65535 - x.col))
theorem Flat.nil (w : World) (B : Nat) : Flat w B [] [] := ⟨rfl, fun i x h => by simp at h⟩
theorem Flat.mono {w w' : World} {B B' : Nat} {xs : List Value} {cs : List Cl} (h : Flat w B xs cs) (hb : Below B w w') (hB : B ≤ B') : Flat w' B' xs cs :=
  ⟨h.1, fun i x hx => by
    obtain ⟨A, n, c, u, hv, r⟩ := h.2 i x hx
    exact ⟨A, n, c, u, hv.mono hb hB, r⟩⟩
theorem Flat.append {w : World} {B : Nat} {xs ys : List Value} {cs ds : List Cl} (h : Flat w B xs cs) (h' : Flat w B ys ds) : Flat w B (xs ++ ys) (cs ++ ds) := by
  refine ⟨by rw [List.length_append, List.length_append, h.1, h'.1]; omega, fun i x hx => ?_⟩
  by_cases hi : i < cs.length
  · rw [List.getElem?_append_left hi] at hx
    obtain ⟨A, n, c, u, hv, h0, h1, h2, h3, h4, h5⟩ := h.2 i x hx
    have hl := h.1
    exact ⟨A, n, c, u, hv, by rw [List.getElem?_append_left (by omega)]; exact h0, by rw [List.getElem?_append_left (by omega)]; exact h1, by rw [List.getElem?_append_left (by omega)]; exact h2,
      by rw [List.getElem?_append_left (by omega)]; exact h3, by rw [List.getElem?_append_left (by omega)]; exact h4, by rw [List.getElem?_append_left (by omega)]; exact h5⟩
  · rw [List.getElem?_append_right (by omega)] at hx
    obtain ⟨A, n, c, u, hv, h0, h1, h2, h3, h4, h5⟩ := h'.2 _ x hx
    have hl := h.1
    have e : ∀ r, r < 6 → (xs ++ ys)[i * 6 + r]? = ys[(i - cs.length) * 6 + r]? := fun r hr => by
      rw [List.getElem?_append_right (by omega)]
      congr 1
      omega
    exact ⟨A, n, c, u, hv, (e 0 (by omega)).trans h0, (e 1 (by omega)).trans h1, (e 2 (by omega)).trans h2, (e 3 (by omega)).trans h3, (e 4 (by omega)).trans h4, (e 5 (by omega)).trans h5⟩
theorem Flat.one {w : World} {B : Nat} {xs : List Value} {cs : List Cl} (h : Flat w B xs cs) : ∀ u ∈ xs, u.oneCell' = true := by
  intro u hu
  obtain ⟨k, hk⟩ := List.mem_iff_getElem?.1 hu
  have hlt : k < xs.length := (List.getElem?_eq_some_iff.1 hk).1
  have hl := h.1
  have hq : k / 6 < cs.length := by omega
  obtain ⟨A, n, c, v, hv, h0, h1, h2, h3, h4, h5⟩ := h.2 (k / 6) _ (List.getElem?_eq_getElem hq)
  have hm : k = k / 6 * 6 + k % 6 := by omega
  have hr : k % 6 < 6 := Nat.mod_lt _ (by omega)
  generalize k / 6 = q at *
  generalize k % 6 = r at *
  have : r = 0 ∨ r = 1 ∨ r = 2 ∨ r = 3 ∨ r = 4 ∨ r = 5 := by omega
  rcases this with rfl | rfl | rfl | rfl | rfl | rfl <;> subst hm <;> simp_all [Value.oneCell'] <;> (subst hk; rfl)
theorem ColsAt.flat {w : World} {B cb n : Nat} {log : List Cl} {cs : Array Value} {R : Nat → ColPl} (h : ColsAt w B cb n log cs R) {j : Nat} (hj : j < n) : Flat w B (h.olds j) (colOf log j) := by
  have hget : ∀ i, i < (colOf log j).length * 6 → (h.olds j)[i]? = w.cell? ⟨(R j).b, (R j).o + i, none⟩ := fun i hi => by
    have : (h.olds j)[i]? = some ((h.olds j)[i]'(by rw [h.olds_length]; exact hi)) := List.getElem?_eq_getElem _
    rw [this, h.olds_get hj i _ this]
  refine ⟨h.olds_length j, fun i x hx => ?_⟩
  have hi : i < (colOf log j).length := (List.getElem?_eq_some_iff.1 hx).1
  obtain ⟨A, nn, c, u, hv, h0, h1, h2, h3, h4, h5⟩ := h.vals j i x hj hx
  refine ⟨A, nn, c, u, hv, (hget _ (by omega)).trans h0, (hget _ (by omega)).trans ?_, (hget _ (by omega)).trans ?_, (hget _ (by omega)).trans ?_, (hget _ (by omega)).trans ?_, (hget _ (by omega)).trans ?_⟩
  · rw [← Nat.add_assoc]; exact h1
  · rw [← Nat.add_assoc]; exact h2
  · rw [← Nat.add_assoc]; exact h3
  · rw [← Nat.add_assoc]; exact h4
  · rw [← Nat.add_assoc]; exact h5
/-- A row of values behind a slice. -/
def RowAt (w : World) (B : Nat) (A : Option Addr) (n c : Nat) (cs : List Cl) : Prop :=
  cs.length = n ∧ n ≤ c ∧ (0 < n → ∃ b o, A = some ⟨b, o, none⟩ ∧ b < B ∧ ∀ i x, cs[i]? = some x → VlAt w B b (o + i * 6) x)
end Go.Proofs.YtglgclkgppomiaaGreat

namespace Go.Proofs.YtglgclkgppomiaaGreat
open Go Go.RowKit

theorem below_grownRow {B : Nat} {w w' : World} {row : Option Nat} (h : w.grownBy w' row) (hB : B ≤ w.heap.size) (hr : ∀ k, row = some k → B ≤ k) : Below B w w' :=
  ⟨h.os, h.tape, h.output, h.size, fun b hb => h.block b (by omega) (fun he => by have := hr b he.symm; omega)⟩
/-- The call hands back a row of these values. -/
def GivesRow (cs : List Cl) (w : World) (e : Ending) (w' : World) : Prop := ∃ A N c, e = .returned (.slice A N c) ∧ RowAt w' w'.heap.size A N c cs ∧ Below w.heap.size w w'
theorem rowAt_owns {w : World} {B base : Nat} {v : Value} {N : Nat} {xs : List Value} {cs : List Cl} (h : w.ownsRow base 76 6 v N xs) (hN : cs.length = N) (hf : Flat w B xs cs) (hB : B ≤ w.heap.size) : ∃ A c, v = .slice A N c ∧ RowAt w w.heap.size A N c cs := by
  have hcells := fun g hg => h.cells (g := g) hg
  have hlt := h.lt
  rcases h.2 with ⟨rfl, rfl⟩ | ⟨g, cap, cur, rfl, hb, hcur, hle, hmax, hsz, htk⟩
  · exact ⟨none, 0, rfl, hN, Nat.le_refl _, fun h0 => absurd h0 (by omega)⟩
  · refine ⟨_, cap, rfl, hN, hle, fun _ => ⟨g, 0, rfl, (hlt g rfl).2, fun i x hx => ?_⟩⟩
    obtain ⟨A, n, c, u, hv, h0, h1, h2, h3, h4, h5⟩ := hf.2 i x hx
    have hg : ∀ k u, xs[k]? = some u → w.cell? ⟨g, k, none⟩ = some u := fun k u hu => by
      have := hcells g rfl k u hu
      rw [Addr.add_lit, Nat.zero_add] at this
      exact this
    refine ⟨A, n, c, u, hv.mono (Below.refl _ _) hB, ?_, ?_, ?_, ?_, ?_, ?_⟩ <;> rw [Nat.zero_add]
    · exact hg _ _ h0
    · exact hg _ _ h1
    · exact hg _ _ h2
    · exact hg _ _ h3
    · exact hg _ _ h4
    · exact hg _ _ h5

set_option maxRecDepth 100000 in
set_option maxHeartbeats 2000000 in
theorem append81 (B cb n : Nat) (log : List Cl) (cs : Array Value) (R : Nat → ColPl) (w : World) (hC : ColsAt w B cb n log cs R) (hn : n ≤ 65535) (hB : B ≤ w.heap.size) (hlen : (parts (colOf log) n).length ≤ 1000000000) :
    Calls Tryz.prog 81 #[.slice none 0 0, .slice (some ⟨cb, 0, none⟩) n n] w (GivesRow (parts (colOf log) n) w) := by
  have HC := Lib.hid hC
  have HB := Lib.hid hB
  obtain ⟨i76, j1, j2, j3, j4⟩ := info_parts info76
  have J1 := Lib.hid j1
  have J2 := Lib.hid j2
  have J3 := Lib.hid j3
  have J4 := Lib.hid j4
  clear hC j1 j2 j3 j4 hB
  go_enter Tryz.func81, Tryz.ntmps81
  go_wp2_with fail
  go_loopw [0, 9] (fun v i wr => ∃ (j : Nat) (xs : List Value), j ≤ n ∧ i = .int .i64 j ∧ wr.ownsRow w.heap.size 76 6 v (parts (colOf log) j).length xs ∧ Flat wr B xs (parts (colOf log) j) ∧ Below w.heap.size w wr) (fun _ i _ => n - (intOf i).toNat)
  case atStart => exact ⟨0, [], Nat.zero_le _, rfl, World.ownsRow_nil _ _ _ _, Flat.nil _ _, Below.refl _ _⟩
  case round =>
    obtain ⟨j, xs, hj, rfl, hown, hflat, hb5⟩ := hrel
    have HOWN := Lib.hid hown
    have HFLAT := Lib.hid hflat
    have HB5 := Lib.hid hb5
    clear hown hflat
    by_cases hlt : j < n
    · have hC5 := HC.out.keep hb5
      have HC5 := Lib.hid hC5
      have hj0 : (0 : Int) ≤ (j : Int) := Int.natCast_nonneg _
      have c0 : wr.cell? ⟨cb, j, none⟩ = some (.slice (some ⟨(R j).b, (R j).o, none⟩) (colOf log j).length (R j).cap) := (hC5.row.cell j).trans (hC5.slot j hlt)
      have hple := parts_length_le (colOf log) (show j + 1 ≤ n from hlt)
      have hps : (parts (colOf log) (j + 1)).length = (parts (colOf log) j).length + (colOf log j).length := by rw [parts_succ, List.length_append]
      have hsz := hb5.size
      clear hC5 hb5
      go_wp2_with (at_builtin; refine wpList_append2 _ rfl _ _ 63 62 rfl w.heap.size 76 76 i76 _ 6 40 Tryz.underlying63 Tryz.underlying62 J1.out J2.out J3.out J4.out rfl (by decide) _ _ xs (by rfl) HOWN.out ⟨(R j).b, (R j).o, none⟩ (colOf log j).length (R j).cap (HC5.out.olds j) (by rfl) (HC5.out.olds_length j) (fun i u hu => by rw [Addr.add_lit]; exact HC5.out.olds_get hlt i u hu) (HC5.out.flat hlt).one (by simp only [maxLen]; omega) (by omega) hsz ?_; intro v' w' hown' hgrow')
      have hb6 : Below w.heap.size w w' := HB5.out.trans (below_grownRow hgrow' hsz (fun k hk => (HOWN.out.lt k hk).1))
      have hb7 : Below B _ w' := below_grownRow hgrow' (Nat.le_trans HB.out hsz) (fun k hk => Nat.le_trans HB.out (HOWN.out.lt k hk).1)
      refine ⟨⟨j + 1, xs ++ HC5.out.olds j, by omega, by go_num, ?_, ?_, hb6⟩, by simp [intOf]; omega⟩
      · rw [hps]; exact hown'
      · rw [parts_succ]
        exact (HFLAT.out.append (HC5.out.flat hlt)).mono hb7 (Nat.le_refl _)
    · obtain rfl : j = n := by omega
      go_wp2_with fail
      go_ret
      obtain ⟨A, c, rfl, hrow⟩ := rowAt_owns HOWN.out rfl HFLAT.out (Nat.le_trans HB.out HB5.out.size)
      exact ⟨A, _, c, rfl, hrow, HB5.out⟩
end Go.Proofs.YtglgclkgppomiaaGreat

namespace Go.Proofs.YtglgclkgppomiaaGreat
open Go Go.RowKit

set_option maxRecDepth 100000 in
set_option maxHeartbeats 4000000 in
theorem grp155_none (B cb n a fb rd rl dl m : Nat) (X : Nat → List Cl) (F : Nat → FuncId) (C : Nat → Array Value) (log : List Cl) (K : Nat → Prop) (w : World)
    (hK : ∀ g, K g → g < w.heap.size) (hent : ∀ i, i < m → Enters (F i)) (hc : w.cell? ⟨a, 0, none⟩ = some (.slice (some ⟨fb, 0, none⟩) m m)) (hk : ∀ i, i < m → w.cell? ⟨fb, i, none⟩ = some (.func (.func (F i)) #[] (C i))) (ha : a < B) (hfb : fb < B) (hB : B ≤ w.heap.size)
    (hcols : ColsK w B cb n log K) (hm63 : m ≤ 1000000000)
    (hin : ∀ W j (K' : Nat → Prop), j < m → Below B w W → B ≤ W.heap.size → (∀ g, K' g → g < W.heap.size) → ColsK W B cb n (log ++ parts X j) K' →
      Calls Tryz.prog (F j) (decArgs cb n rd rl dl noTree ++ C j) W (Took B cb n (log ++ parts X (j + 1)) K' W)) :
    Calls Tryz.prog 155 (decArgs cb n rd rl dl noTree ++ #[.pointer (some ⟨a, 0, none⟩)]) w (Took B cb n (log ++ parts X m) K w) := by
  have HIN := Lib.hid hin
  have HKK := Lib.hid hK
  have HCOLS := Lib.hid hcols
  have HENT := Lib.hid hent
  have HF := Lib.hid hk
  show Calls Tryz.prog 155 #[.slice (some ⟨cb, 0, none⟩) n n, .agg #[.int .u8 (rd : Int), .int .u8 (rl : Int), .int .u8 (dl : Int)], .agg (trCells 0 none 0 0 0 0 none 0 0), .pointer (some ⟨a, 0, none⟩)] w _
  unfold trCells
  clear hin hK hcols hent hk
  go_enter Tryz.func155, Tryz.ntmps155
  go_wp2_with fail
  refine (valid137 _ _ _ _ _ _ _ _ _ _).mono ?_
  rintro e w1 ⟨rfl, hb⟩
  have r1 : RowB w1 w.heap.size 124 #[.int .u8 rd, .int .u8 rl, .int .u8 dl] := ((RowB.new w 124 _).alloc _).keep hb (by simp; omega)
  have r2 : RowB w1 (w.heap.size + 1) 79 (trCells 0 none 0 0 0 0 none 0 0) := (rowB_new (by simp)).keep hb (by simp)
  have hb2 : Below w.heap.size w w1 := (((Below.refl _ _).alloc (Nat.le_refl _) _).alloc (by simp) _).trans (hb.mono (by simp; omega))
  have hsz4 : w.heap.size + 2 ≤ w1.heap.size := by have := hb.size; simp only [size_alloc1] at this; omega
  have hc1 := (bcell hb2 (b := a) (o := 0) (by omega)).trans hc
  clear hb
  have R3 := Lib.hid r1
  have R4 := Lib.hid r2
  have HB4 := Lib.hid hb2
  clear r1 r2 hb2
  go_wp2_with fail
  go_loopw [30] (fun i wr => ∃ j : Nat, j ≤ m ∧ i = .int .i64 j ∧ RowB wr w.heap.size 124 #[.int .u8 rd, .int .u8 rl, .int .u8 dl] ∧ RowB wr (w.heap.size + 1) 79 (trCells 0 none 0 0 0 0 none 0 0) ∧
      ColsK wr B cb n (log ++ parts X j) (fun g => K g ∨ g = w.heap.size ∨ g = w.heap.size + 1) ∧ Below B w wr ∧ (∀ g, K g → wr.heap[g]? = w.heap[g]?) ∧ w.heap.size + 2 ≤ wr.heap.size) (fun i _ => m - (intOf i).toNat)
  case atStart =>
    refine ⟨0, Nat.zero_le _, rfl, R3.out, R4.out, ?_, HB4.out.mono hB, fun g hg => HB4.out.block g (HKK.out g hg), hsz4⟩
    rw [parts_zero, List.append_nil]
    exact HCOLS.out.more HB4.out (fun g hg => by rcases hg with h | h | h; exact .inl h; exact .inr (by omega); exact .inr (by omega))
  case round =>
    obtain ⟨j, hj, rfl, hr3, hr4, hcols, hb5, hkp, hsz5⟩ := hrel
    have HR3 := Lib.hid hr3
    have HR4 := Lib.hid hr4
    have HC5 := Lib.hid hcols
    have HB5 := Lib.hid hb5
    have HKP5 := Lib.hid hkp
    clear hcols hkp
    by_cases hlt : j < m
    · obtain ⟨l0, l1, l2⟩ := hr3.c3
      obtain ⟨t0, t1, t2, t3, t4, t5, t6, t7⟩ := hr4.c8
      have hf5 : wr.cell? ⟨fb, j, none⟩ = some (.func (.func (F j)) #[] (C j)) := (bcell hb5 hfb).trans (HF.out j hlt)
      have hent1 : ∀ args W, (callFunc (F j) args).run Tryz.prog W = .ok (.enter (F j) args) W := HENT.out j hlt
      have hBw : B ≤ wr.heap.size := by omega
      have hj0 : (0 : Int) ≤ (j : Int) := Int.natCast_nonneg _
      clear hr3 hr4 hb5
      have hKW : ∀ g, (K g ∨ g = w.heap.size ∨ g = w.heap.size + 1) → g < wr.heap.size := fun g hg => by
        rcases hg with h | h | h
        · have := HKK.out g h; omega
        · omega
        · omega
      have HKW := Lib.hid hKW
      clear hKW
      go_wp2_with fail
      refine (HIN.out wr j (fun g => K g ∨ g = w.heap.size ∨ g = w.heap.size + 1) hlt HB5.out hBw HKW.out HC5.out).mono ?_
      rintro e w7 ⟨rfl, hcols7, hbZ, hkZ⟩
      have HC8 := Lib.hid hcols7
      have HR8 := Lib.hid (HR3.out.of_eq (hkZ _ (.inr (.inl rfl))))
      have HT8 := Lib.hid (HR4.out.of_eq (hkZ _ (.inr (.inr rfl))))
      have HB8 := Lib.hid (HB5.out.trans hbZ)
      have HK8 : Hid (∀ g, K g → w7.heap[g]? = w.heap[g]?) := fun g hg => (hkZ g (.inl hg)).trans (HKP5.out g hg)
      have hsz8 : w.heap.size + 2 ≤ w7.heap.size := by have := hbZ.size; omega
      clear hcols7 hkZ hbZ
      go_wp2_with fail
      go_roundw
      case rel => exact ⟨j + 1, by omega, by go_num, HR8.out, HT8.out, HC8.out, HB8.out, HK8.out, hsz8⟩
      case measure => simp [intOf]; omega
    · obtain rfl : j = m := by omega
      go_wp2_with fail
      go_end0
      exact ⟨rfl, HC5.out.less (fun g hg => .inl hg), HB5.out, HKP5.out⟩

set_option maxRecDepth 100000 in
set_option maxHeartbeats 4000000 in
theorem grp155_some (B cb n a fb rd rl dl m : Nat) (D : Option Addr) (dn dc : Nat) (u kd : Int) (A : Option Addr) (c : Nat) (ts : List Tr) (X : Nat → List Cl) (F : Nat → FuncId) (C : Nat → Array Value) (log : List Cl) (K : Nat → Prop) (w : World)
    (hK : ∀ g, K g → g < w.heap.size) (hent : ∀ i, i < m → Enters (F i)) (hc : w.cell? ⟨a, 0, none⟩ = some (.slice (some ⟨fb, 0, none⟩) m m)) (hk : ∀ i, i < m → w.cell? ⟨fb, i, none⟩ = some (.func (.func (F i)) #[] (C i))) (ha : a < B) (hfb : fb < B) (hB : B ≤ w.heap.size)
    (hcols : ColsK w B cb n log K) (htr : TrsAt w 0 B A m c ts) (hm63 : m ≤ 1000000000)
    (hin : ∀ W j t D dn dc u A c (K' : Nat → Prop), j < m → ts[j]? = some t → TrAt W 0 B t D dn dc u A c → Below B w W → B ≤ W.heap.size → (∀ g, K' g → g < W.heap.size) → ColsK W B cb n (log ++ parts X j) K' →
      Calls Tryz.prog (F j) (decArgs cb n rd rl dl (trVal t.k D dn dc u (kdOf (t.k != 2) t.lk) A t.items.length c) ++ C j) W (Took B cb n (log ++ parts X (j + 1)) K' W)) :
    Calls Tryz.prog 155 (decArgs cb n rd rl dl (trVal 4 D dn dc u kd A m c) ++ #[.pointer (some ⟨a, 0, none⟩)]) w (Took B cb n (log ++ parts X m) K w) := by
  have HIN := Lib.hid hin
  have HKK := Lib.hid hK
  have HTR := Lib.hid htr
  have HCOLS := Lib.hid hcols
  have HENT := Lib.hid hent
  have HF := Lib.hid hk
  show Calls Tryz.prog 155 #[.slice (some ⟨cb, 0, none⟩) n n, .agg #[.int .u8 (rd : Int), .int .u8 (rl : Int), .int .u8 (dl : Int)], .agg (trCells 4 D dn dc u kd A m c), .pointer (some ⟨a, 0, none⟩)] w _
  unfold trCells
  clear hin hK hcols hent hk htr
  go_enter Tryz.func155, Tryz.ntmps155
  go_wp2_with fail
  refine (valid137 _ _ _ _ _ _ _ _ _ _).mono ?_
  rintro e w1 ⟨rfl, hb⟩
  have r1 : RowB w1 w.heap.size 124 #[.int .u8 rd, .int .u8 rl, .int .u8 dl] := ((RowB.new w 124 _).alloc _).keep hb (by simp; omega)
  have r2 : RowB w1 (w.heap.size + 1) 79 (trCells 4 D dn dc u kd A m c) := (rowB_new (by simp)).keep hb (by simp)
  have hb2 : Below w.heap.size w w1 := (((Below.refl _ _).alloc (Nat.le_refl _) _).alloc (by simp) _).trans (hb.mono (by simp; omega))
  have hsz4 : w.heap.size + 2 ≤ w1.heap.size := by have := hb.size; simp only [size_alloc1] at this; omega
  have hc1 := (bcell hb2 (b := a) (o := 0) (by omega)).trans hc
  clear hb
  have R3 := Lib.hid r1
  have R4 := Lib.hid r2
  have HB4 := Lib.hid hb2
  clear r1 r2 hb2
  go_wp2_with fail
  go_loopw [15] (fun i wr => ∃ j : Nat, j ≤ m ∧ i = .int .i64 j ∧ RowB wr w.heap.size 124 #[.int .u8 rd, .int .u8 rl, .int .u8 dl] ∧ RowB wr (w.heap.size + 1) 79 (trCells 4 D dn dc u kd A m c) ∧
      ColsK wr B cb n (log ++ parts X j) (fun g => K g ∨ g = w.heap.size ∨ g = w.heap.size + 1) ∧ Below B w wr ∧ (∀ g, K g → wr.heap[g]? = w.heap[g]?) ∧ w.heap.size + 2 ≤ wr.heap.size) (fun i _ => m - (intOf i).toNat)
  case atStart =>
    refine ⟨0, Nat.zero_le _, rfl, R3.out, R4.out, ?_, HB4.out.mono hB, fun g hg => HB4.out.block g (HKK.out g hg), hsz4⟩
    rw [parts_zero, List.append_nil]
    exact HCOLS.out.more HB4.out (fun g hg => by rcases hg with h | h | h; exact .inl h; exact .inr (by omega); exact .inr (by omega))
  case round =>
    obtain ⟨j, hj, rfl, hr3, hr4, hcols, hb5, hkp, hsz5⟩ := hrel
    have HR3 := Lib.hid hr3
    have HR4 := Lib.hid hr4
    have HC5 := Lib.hid hcols
    have HB5 := Lib.hid hb5
    have HKP5 := Lib.hid hkp
    clear hcols hkp
    by_cases hlt : j < m
    · obtain ⟨l0, l1, l2⟩ := hr3.c3
      obtain ⟨t0, t1, t2, t3, t4, t5, t6, t7⟩ := hr4.c8
      have hf5 : wr.cell? ⟨fb, j, none⟩ = some (.func (.func (F j)) #[] (C j)) := (bcell hb5 hfb).trans (HF.out j hlt)
      have hent1 : ∀ args W, (callFunc (F j) args).run Tryz.prog W = .ok (.enter (F j) args) W := HENT.out j hlt
      have hBw : B ≤ wr.heap.size := by omega
      have hj0 : (0 : Int) ≤ (j : Int) := Int.natCast_nonneg _
      have hlen := HTR.out.len.1
      have htj : ts[j]? = some (ts[j]'(by omega)) := List.getElem?_eq_getElem _
      have HTJ := Lib.hid htj
      have htr5 : TrsAt wr.drew 0 B A m c ts := HTR.out.mono hb5.drew (Nat.le_refl _)
      have HTR5 := Lib.hid htr5
      clear hr3 hr4 hb5 htj htr5
      go_wp2_with fail
      go_region_held3 (fun w' => w'.cell? ⟨w.heap.size, 0, none⟩ = some (.int .u8 rd) ∧ w'.cell? ⟨w.heap.size, 1, none⟩ = some (.int .u8 rl) ∧ w'.cell? ⟨w.heap.size, 2, none⟩ = some (.int .u8 dl) ∧
          w'.cell? ⟨w.heap.size + 1, 0, none⟩ = some (.int .i8 4) ∧ w'.cell? ⟨w.heap.size + 1, 1, none⟩ = some (.slice D dn dc) ∧ w'.cell? ⟨w.heap.size + 1, 2, none⟩ = some (.int .u64 u) ∧ w'.cell? ⟨w.heap.size + 1, 3, none⟩ = some (.int .i8 kd) ∧
          w'.cell? ⟨w.heap.size + 1, 4, none⟩ = some (.int .u8 0) ∧ w'.cell? ⟨w.heap.size + 1, 5, none⟩ = some (.int .u8 0) ∧ w'.cell? ⟨w.heap.size + 1, 6, none⟩ = some (.int .u16 0) ∧ w'.cell? ⟨w.heap.size + 1, 7, none⟩ = some (.slice A m c))
        (first
          | (simp [*]; done)
          | (exact ⟨(bcell hbA (by omega)).trans l0, (bcell hbA (by omega)).trans l1, (bcell hbA (by omega)).trans l2, (bcell hbA (by omega)).trans t0, (bcell hbA (by omega)).trans t1, (bcell hbA (by omega)).trans t2, (bcell hbA (by omega)).trans t3, (bcell hbA (by omega)).trans t4, (bcell hbA (by omega)).trans t5, (bcell hbA (by omega)).trans t6, (bcell hbA (by omega)).trans t7⟩)
          | (exact ⟨(hcZ _ _ (.inr (.inl rfl))).trans ((bcell hbA (by omega)).trans l0), (hcZ _ _ (.inr (.inl rfl))).trans ((bcell hbA (by omega)).trans l1), (hcZ _ _ (.inr (.inl rfl))).trans ((bcell hbA (by omega)).trans l2), (hcZ _ _ (.inr (.inr rfl))).trans ((bcell hbA (by omega)).trans t0), (hcZ _ _ (.inr (.inr rfl))).trans ((bcell hbA (by omega)).trans t1), (hcZ _ _ (.inr (.inr rfl))).trans ((bcell hbA (by omega)).trans t2), (hcZ _ _ (.inr (.inr rfl))).trans ((bcell hbA (by omega)).trans t3), (hcZ _ _ (.inr (.inr rfl))).trans ((bcell hbA (by omega)).trans t4), (hcZ _ _ (.inr (.inr rfl))).trans ((bcell hbA (by omega)).trans t5), (hcZ _ _ (.inr (.inr rfl))).trans ((bcell hbA (by omega)).trans t6), (hcZ _ _ (.inr (.inr rfl))).trans ((bcell hbA (by omega)).trans t7)⟩))
        ((first
          | (go_at_call 88
             refine (field88 D dn dc u kd A m c B ts j _ _ HTR5.out hBw hlt HTJ.out).mono ?_
             rintro e w6 ⟨D6, dn6, dc6, u6, A6, c6, rfl, hat6, hb6⟩
             have hbA : Below wr.heap.size wr w6 := below_of_drew hb6
             have hKW : ∀ g, (K g ∨ g = w.heap.size ∨ g = w.heap.size + 1) → g < w6.heap.size := fun g hg => by
               have := hbA.size
               rcases hg with h | h | h
               · have := HKK.out g h; omega
               · omega
               · omega
             have HAT6 := Lib.hid (hat6.mono (hb6.mono hBw) (Nat.le_refl _)))
          | (refine (HIN.out w6 j _ D6 dn6 dc6 u6 A6 c6 (fun g => K g ∨ g = w.heap.size ∨ g = w.heap.size + 1) hlt HTJ.out HAT6.out (HB5.out.trans (hbA.mono hBw)) (Nat.le_trans hBw hbA.size) hKW (HC5.out.keep hbA)).mono ?_
             rintro e w7 ⟨rfl, hcols7, hbZ, hkZ⟩
             have hcZ : ∀ g i, (K g ∨ g = w.heap.size ∨ g = w.heap.size + 1) → w7.cell? ⟨g, i, none⟩ = w6.cell? ⟨g, i, none⟩ := fun g i hg => World.cell?_of_block (a := ⟨g, i, none⟩) (hkZ g hg))))
      have HC8 := Lib.hid hcols7
      have HR8 := Lib.hid ((HR3.out.of_eq (hbA.block _ (by omega))).of_eq (hkZ _ (.inr (.inl rfl))))
      have HT8 := Lib.hid ((HR4.out.of_eq (hbA.block _ (by omega))).of_eq (hkZ _ (.inr (.inr rfl))))
      have HB8 := Lib.hid (HB5.out.trans ((hbA.mono hBw).trans hbZ))
      have HK8 : Hid (∀ g, K g → w7.heap[g]? = w.heap[g]?) := fun g hg => by
        have hlt2 := HKK.out g hg
        exact (hkZ g (.inl hg)).trans ((hbA.block g (by omega)).trans (HKP5.out g hg))
      have hsz8 : w.heap.size + 2 ≤ w7.heap.size := by have := hbZ.size; have := hbA.size; omega
      clear hcols7 hkZ hbZ hcZ hbA hKW
      go_wp2_with fail
      go_roundw
      case rel => exact ⟨j + 1, by omega, by go_num, HR8.out, HT8.out, HC8.out, HB8.out, HK8.out, hsz8⟩
      case measure => simp [intOf]; omega
    · obtain rfl : j = m := by omega
      go_wp2_with fail
      go_end0
      exact ⟨rfl, HC5.out.less (fun g hg => .inl hg), HB5.out, HKP5.out⟩
end Go.Proofs.YtglgclkgppomiaaGreat
