/- The walk of impl.value (printed by tools/gen_w30.py). impl.value of a text, and of every kind. -/
import Derived.Test.YtglgclkgppomiaaGreatZ10
import Derived.Laws.IdiomStrings
set_option linter.unusedVariables false
set_option linter.unusedSimpArgs false
namespace Go.Proofs.YtglgclkgppomiaaGreat
open Go Go.RowKit

theorem encU_small {v : Int} (h0 : 0 ≤ v) (h1 : v < 18446744073709551616) : encU v = v := by unfold encU; omega
theorem encU_nat (v : Int) : ((encU v).toNat : Int) = encU v := by unfold encU; omega

set_option maxRecDepth 100000 in
set_option maxHeartbeats 1000000 in
theorem vl0f (t : ByteArray) (w : World) : Calls Tryz.prog 85 #[.int .i64 0, .int .i64 0, .string t] w (GivesVl none 0 0 (0) (-1) w) := by
  go_enter Tryz.func85, Tryz.ntmps85
  go_wp2_with fail
  refine (mk121 false 0 rfl _).mono ?_
  rintro e w1 ⟨rfl, hb⟩
  have r2 : RowB w1 w.heap.size 76 #[.slice none 0 0, .int .u64 0, .int .i8 0, .int .u8 0, .int .u8 0, .int .u16 0] := (RowB.new w 76 _).keep hb (by simp)
  obtain ⟨z0, z1, z2, z3, z4, z5⟩ := r2.c6
  have y0 := r2.free 0
  have y1 := r2.free 1
  have y2 := r2.free 2
  have y3 := r2.free 3
  have y4 := r2.free 4
  have y5 := r2.free 5
  have hb2 : Below w.heap.size w w1 := ((Below.refl _ _).alloc (Nat.le_refl _) _).trans (hb.mono (by simp))
  clear hb
  go_wp2_with fail
  (try simp only [Exit.inBlock, Exit.then])
  refine bodyPost_ret (results_cell_row rfl _ _ _ 76 _ (0, 0) _ rfl (r2.set6 _ _ _ _ _ _) Tryz.underlying76 rfl size76) rfl ?_
  exact ⟨rfl, below_set6 hb2 (Nat.le_refl _) _ _ _ _ _ _⟩

set_option maxRecDepth 100000 in
set_option maxHeartbeats 1000000 in
theorem vl0t (t : ByteArray) (w : World) : Calls Tryz.prog 85 #[.int .i64 0, .int .i64 1, .string t] w (GivesVl none 0 0 (1) (-1) w) := by
  go_enter Tryz.func85, Tryz.ntmps85
  go_wp2_with fail
  refine (mk121 true 1 rfl _).mono ?_
  rintro e w1 ⟨rfl, hb⟩
  have r2 : RowB w1 w.heap.size 76 #[.slice none 0 0, .int .u64 0, .int .i8 0, .int .u8 0, .int .u8 0, .int .u16 0] := (RowB.new w 76 _).keep hb (by simp)
  obtain ⟨z0, z1, z2, z3, z4, z5⟩ := r2.c6
  have y0 := r2.free 0
  have y1 := r2.free 1
  have y2 := r2.free 2
  have y3 := r2.free 3
  have y4 := r2.free 4
  have y5 := r2.free 5
  have hb2 : Below w.heap.size w w1 := ((Below.refl _ _).alloc (Nat.le_refl _) _).trans (hb.mono (by simp))
  clear hb
  go_wp2_with fail
  (try simp only [Exit.inBlock, Exit.then])
  refine bodyPost_ret (results_cell_row rfl _ _ _ 76 _ (0, 0) _ rfl (r2.set6 _ _ _ _ _ _) Tryz.underlying76 rfl size76) rfl ?_
  exact ⟨rfl, below_set6 hb2 (Nat.le_refl _) _ _ _ _ _ _⟩

set_option maxRecDepth 100000 in
set_option maxHeartbeats 1000000 in
theorem vl1 (num : Int) (h : -2147483648 ≤ num ∧ num ≤ 2147483647) (t : ByteArray) (w : World) : Calls Tryz.prog 85 #[.int .i64 1, .int .i64 num, .string t] w (GivesVl none 0 0 (encU num) (-2) w) := by
  have hw : IntKind.i32.wrap num = num := by unfold IntKind.wrap; simp [IntKind.signed, IntKind.bits]; omega
  clear h
  go_enter Tryz.func85, Tryz.ntmps85
  go_wp2_with fail
  refine (mk122 num _).mono ?_
  rintro e w1 ⟨rfl, hb⟩
  have r2 : RowB w1 w.heap.size 76 #[.slice none 0 0, .int .u64 0, .int .i8 0, .int .u8 0, .int .u8 0, .int .u16 0] := (RowB.new w 76 _).keep hb (by simp)
  obtain ⟨z0, z1, z2, z3, z4, z5⟩ := r2.c6
  have y0 := r2.free 0
  have y1 := r2.free 1
  have y2 := r2.free 2
  have y3 := r2.free 3
  have y4 := r2.free 4
  have y5 := r2.free 5
  have hb2 : Below w.heap.size w w1 := ((Below.refl _ _).alloc (Nat.le_refl _) _).trans (hb.mono (by simp))
  clear hb
  go_wp2_with fail
  (try simp only [Exit.inBlock, Exit.then])
  refine bodyPost_ret (results_cell_row rfl _ _ _ 76 _ (0, 0) _ rfl (r2.set6 _ _ _ _ _ _) Tryz.underlying76 rfl size76) rfl ?_
  exact ⟨rfl, below_set6 hb2 (Nat.le_refl _) _ _ _ _ _ _⟩

set_option maxRecDepth 100000 in
set_option maxHeartbeats 1000000 in
theorem vl2 (num : Int) (t : ByteArray) (w : World) : Calls Tryz.prog 85 #[.int .i64 2, .int .i64 num, .string t] w (GivesVl none 0 0 (encU num) (-3) w) := by
  go_enter Tryz.func85, Tryz.ntmps85
  go_wp2_with fail
  refine (mk123 num _).mono ?_
  rintro e w1 ⟨rfl, hb⟩
  have r2 : RowB w1 w.heap.size 76 #[.slice none 0 0, .int .u64 0, .int .i8 0, .int .u8 0, .int .u8 0, .int .u16 0] := (RowB.new w 76 _).keep hb (by simp)
  obtain ⟨z0, z1, z2, z3, z4, z5⟩ := r2.c6
  have y0 := r2.free 0
  have y1 := r2.free 1
  have y2 := r2.free 2
  have y3 := r2.free 3
  have y4 := r2.free 4
  have y5 := r2.free 5
  have hb2 : Below w.heap.size w w1 := ((Below.refl _ _).alloc (Nat.le_refl _) _).trans (hb.mono (by simp))
  clear hb
  go_wp2_with fail
  (try simp only [Exit.inBlock, Exit.then])
  refine bodyPost_ret (results_cell_row rfl _ _ _ 76 _ (0, 0) _ rfl (r2.set6 _ _ _ _ _ _) Tryz.underlying76 rfl size76) rfl ?_
  exact ⟨rfl, below_set6 hb2 (Nat.le_refl _) _ _ _ _ _ _⟩

set_option maxRecDepth 100000 in
set_option maxHeartbeats 1000000 in
theorem vl4 (num : Int) (h : 0 ≤ num ∧ num < 4294967296) (t : ByteArray) (w : World) : Calls Tryz.prog 85 #[.int .i64 4, .int .i64 num, .string t] w (GivesVl none 0 0 (num) (-5) w) := by
  have hw : IntKind.u32.wrap num = num := by unfold IntKind.wrap; simp [IntKind.signed, IntKind.bits]; omega
  have hd := ext125 num
  have hn : (num.toNat : Int) = num := by omega
  have HN := Lib.hid hn
  have HH : Hid (num.toNat < 4294967296) := by show _ < _; omega
  clear hn h
  go_enter Tryz.func85, Tryz.ntmps85
  go_wp2_with fail
  refine (HN.out ▸ mk124 num.toNat HH.out _).mono ?_
  rintro e w1 ⟨rfl, hb⟩
  have r2 : RowB w1 w.heap.size 76 #[.slice none 0 0, .int .u64 0, .int .i8 0, .int .u8 0, .int .u8 0, .int .u16 0] := (RowB.new w 76 _).keep hb (by simp)
  obtain ⟨z0, z1, z2, z3, z4, z5⟩ := r2.c6
  have y0 := r2.free 0
  have y1 := r2.free 1
  have y2 := r2.free 2
  have y3 := r2.free 3
  have y4 := r2.free 4
  have y5 := r2.free 5
  have hb2 : Below w.heap.size w w1 := ((Below.refl _ _).alloc (Nat.le_refl _) _).trans (hb.mono (by simp))
  clear hb
  go_wp2_with fail
  (try simp only [Exit.inBlock, Exit.then])
  refine bodyPost_ret (results_cell_row rfl _ _ _ 76 _ (0, 0) _ rfl (r2.set6 _ _ _ _ _ _) Tryz.underlying76 rfl size76) rfl ?_
  exact ⟨rfl, below_set6 hb2 (Nat.le_refl _) _ _ _ _ _ _⟩

set_option maxRecDepth 100000 in
set_option maxHeartbeats 1000000 in
theorem vl5 (num : Int) (t : ByteArray) (w : World) : Calls Tryz.prog 85 #[.int .i64 5, .int .i64 num, .string t] w (GivesVl none 0 0 (encU num) (-6) w) := by
  have hw := u64_wrap num
  have hd := ext127 (encU num)
  have HN := Lib.hid (encU_nat num)
  go_enter Tryz.func85, Tryz.ntmps85
  go_wp2_with fail
  refine (HN.out ▸ mk126 (encU num).toNat _).mono ?_
  rintro e w1 ⟨rfl, hb⟩
  have r2 : RowB w1 w.heap.size 76 #[.slice none 0 0, .int .u64 0, .int .i8 0, .int .u8 0, .int .u8 0, .int .u16 0] := (RowB.new w 76 _).keep hb (by simp)
  obtain ⟨z0, z1, z2, z3, z4, z5⟩ := r2.c6
  have y0 := r2.free 0
  have y1 := r2.free 1
  have y2 := r2.free 2
  have y3 := r2.free 3
  have y4 := r2.free 4
  have y5 := r2.free 5
  have hb2 : Below w.heap.size w w1 := ((Below.refl _ _).alloc (Nat.le_refl _) _).trans (hb.mono (by simp))
  clear hb
  go_wp2_with fail
  (try simp only [Exit.inBlock, Exit.then])
  refine bodyPost_ret (results_cell_row rfl _ _ _ 76 _ (0, 0) _ rfl (r2.set6 _ _ _ _ _ _) Tryz.underlying76 rfl size76) rfl ?_
  exact ⟨rfl, below_set6 hb2 (Nat.le_refl _) _ _ _ _ _ _⟩
end Go.Proofs.YtglgclkgppomiaaGreat

namespace Go.Proofs.YtglgclkgppomiaaGreat
open Go Go.RowKit

theorem bytesRow_get (s : ByteArray) (cap j : Nat) (h : j < s.size) : (bytesRow s cap)[j]? = some (.int .u8 (s[j].toNat : Int)) := by
  unfold bytesRow
  have hj : j < s.data.size := h
  rw [Array.getElem?_append_left (by simpa using hj), Array.getElem?_map, Array.getElem?_eq_getElem hj]
  rfl
theorem two_new {w X w1 : World} {O1 O2 : Obj} (hb : Below X.heap.size X w1) (hh : X.heap = (w.heap.push O1).push O2) (h1 : X.os = w.os) (h2 : X.tape = w.tape) (h3 : X.output = w.output) :
    w1.heap[w.heap.size]? = some O1 ∧ w1.heap[w.heap.size + 1]? = some O2 ∧ Below w.heap.size w w1 ∧ w.heap.size + 2 ≤ w1.heap.size := by
  have hs : X.heap.size = w.heap.size + 2 := by rw [hh]; simp
  have hsz := hb.size
  refine ⟨?_, ?_, ⟨hb.os.trans h1, hb.tape.trans h2, hb.output.trans h3, by omega, fun b hlt => ?_⟩, by omega⟩
  · rw [hb.block _ (by omega), hh]
    rw [Array.getElem?_push, if_neg (by simp), Array.getElem?_push, if_pos rfl]
  · rw [hb.block _ (by omega), hh]
    rw [Array.getElem?_push, if_pos (by simp)]
  · rw [hb.block _ (by omega), hh, Array.getElem?_push, if_neg (by simp; omega), Array.getElem?_push, if_neg (by omega)]
/-- The call hands back a value of that kind, number and text. -/
def MakesVl (k num : Int) (t : ByteArray) (w : World) (e : Ending) (w' : World) : Prop :=
  ∃ A n c u, e = .returned (vlVal A n c u (-(k + 1))) ∧ VR w' w.heap.size w'.heap.size false k num t A n c u ∧ Below w.heap.size w w'

set_option maxRecDepth 100000 in
set_option maxHeartbeats 1000000 in
theorem vl6 (num : Int) (t : ByteArray) (ht : t.size ≤ 1000000000000) (w : World) : Calls Tryz.prog 85 #[.int .i64 6, .int .i64 num, .string t] w (MakesVl 6 num t w) := by
  have hcv := fun w => run_bytes_of_string (P := Tryz.prog) w 9 72 5 t Tryz.underlying9 Tryz.underlying72 Tryz.underlying5
  go_enter Tryz.func85, Tryz.ntmps85
  go_wp2_with fail
  refine (mk129 _ _ _ ht _).mono ?_
  rintro e w1 ⟨rfl, hb⟩
  obtain ⟨r2, rb, hb2, hsz⟩ := two_new (w := w) hb rfl rfl rfl rfl
  have r2 : RowB w1 w.heap.size 76 #[.slice none 0 0, .int .u64 0, .int .i8 0, .int .u8 0, .int .u8 0, .int .u16 0] := r2
  have hcell : ∀ j, w1.cell? ⟨w.heap.size + 1, j, none⟩ = (bytesRow t (grownCap (w.alloc (.cells #[.slice none 0 0, .int .u64 0, .int .i8 0, .int .u8 0, .int .u8 0, .int .u16 0] 76)) t.size 0 5))[j]? := fun j => by simp [World.cell?, rb]
  have hge := grownCap_ge (w.alloc (.cells #[.slice none 0 0, .int .u64 0, .int .i8 0, .int .u8 0, .int .u8 0, .int .u16 0] 76)) t.size 0 5
  generalize grownCap (w.alloc (.cells #[.slice none 0 0, .int .u64 0, .int .i8 0, .int .u8 0, .int .u8 0, .int .u16 0] 76)) t.size 0 5 = cp at *
  have HCELL := Lib.hid hcell
  have HGE := Lib.hid hge
  clear hcell hge rb hb hcv
  obtain ⟨z0, z1, z2, z3, z4, z5⟩ := r2.c6
  have y0 := r2.free 0
  have y1 := r2.free 1
  have y2 := r2.free 2
  have y3 := r2.free 3
  have y4 := r2.free 4
  have y5 := r2.free 5
  go_wp2_with fail
  (try simp only [Exit.inBlock, Exit.then])
  refine bodyPost_ret (results_cell_row rfl _ _ _ 76 _ (0, 0) _ rfl (r2.set6 _ _ _ _ _ _) Tryz.underlying76 rfl size76) rfl ?_
  have hb3 := below_set6 hb2 (g := w.heap.size) (Nat.le_refl _) (.slice (some ⟨w.heap.size + 1, 0, none⟩) t.size cp) (.int .u64 (t.size : Int)) (.int .i8 (-7)) (.int .u8 0) (.int .u8 0) (.int .u16 0)
  refine ⟨_, _, _, _, rfl, .text num t _ _ _ ⟨rfl, HGE.out, fun _ => ⟨w.heap.size + 1, 0, rfl, ⟨by omega, by simp only [setCell_size]; omega⟩, fun j hj => ?_⟩⟩, hb3⟩
  rw [Nat.zero_add]
  have hne : w.heap.size + 1 ≠ w.heap.size := by omega
  refine (World.cell?_of_block (a := ⟨w.heap.size + 1, j, none⟩) ?_).trans ((HCELL.out j).trans (bytesRow_get t cp j hj))
  show (World.setCell _ _ _).heap[w.heap.size + 1]? = _
  rw [setCell_other (b := w.heap.size + 1) _ ⟨w.heap.size, 5, none⟩ _ hne, setCell_other (b := w.heap.size + 1) _ ⟨w.heap.size, 4, none⟩ _ hne, setCell_other (b := w.heap.size + 1) _ ⟨w.heap.size, 3, none⟩ _ hne, setCell_other (b := w.heap.size + 1) _ ⟨w.heap.size, 2, none⟩ _ hne, setCell_other (b := w.heap.size + 1) _ ⟨w.heap.size, 1, none⟩ _ hne, setCell_other (b := w.heap.size + 1) _ ⟨w.heap.size, 0, none⟩ _ hne]

/-- What a value's number may be. -/
def numOk (k num : Int) : Prop := (k = 0 → num = 0 ∨ num = 1) ∧ (k = 1 → -2147483648 ≤ num ∧ num ≤ 2147483647) ∧ (k = 4 → 0 ≤ num ∧ num < 4294967296)
theorem makes_num {k num u : Int} {t : ByteArray} {w : World} (hk : k ≠ 6) (hu : u = encU num) (h : Calls Tryz.prog 85 #[.int .i64 k, .int .i64 num, .string t] w (GivesVl none 0 0 u (-(k + 1)) w)) :
    Calls Tryz.prog 85 #[.int .i64 k, .int .i64 num, .string t] w (MakesVl k num t w) := by
  refine h.mono ?_
  rintro e w' ⟨rfl, hb⟩
  subst hu
  exact ⟨none, 0, 0, _, rfl, .num _ _ _ hk, hb⟩
theorem value85 (k num : Int) (t : ByteArray) (hk : isKd k = true) (hn : numOk k num) (ht : t.size ≤ 1000000000000) (w : World) : Calls Tryz.prog 85 #[.int .i64 k, .int .i64 num, .string t] w (MakesVl k num t w) := by
  have hk' : k = 0 ∨ k = 1 ∨ k = 2 ∨ k = 4 ∨ k = 5 ∨ k = 6 := by simp [isKd] at hk; omega
  rcases hk' with rfl | rfl | rfl | rfl | rfl | rfl
  · rcases hn.1 rfl with rfl | rfl
    · exact makes_num (by decide) rfl (vl0f t w)
    · exact makes_num (by decide) rfl (vl0t t w)
  · exact makes_num (by decide) rfl (vl1 num (hn.2.1 rfl) t w)
  · exact makes_num (by decide) rfl (vl2 num t w)
  · exact makes_num (by decide) (by rw [encU_small (hn.2.2 rfl).1 (by have := (hn.2.2 rfl).2; omega)]) (vl4 num (hn.2.2 rfl) t w)
  · exact makes_num (by decide) rfl (vl5 num t w)
  · exact vl6 num t ht w
end Go.Proofs.YtglgclkgppomiaaGreat
