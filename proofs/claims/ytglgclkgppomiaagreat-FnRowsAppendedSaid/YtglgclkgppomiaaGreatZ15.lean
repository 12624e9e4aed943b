/- The walks of the small functions on values. The walks of the readers of a value's data (printed by tools/gen_w38.py). The walk of impl.plain (printed by tools/gen_w39.py). The walk of impl.cells. Plain laws: how many cells a row has, and that each is one that a value can bear. Plain laws: what the cells of a column look like. The walk of impl.Deconstruct. Plain laws: the texts of a row's cells are texts of its data; what a row's cells are, column by column; a row's fields alone. The walk of Value.Level. -/
import Derived.Test.YtglgclkgppomiaaGreatZ09
import Derived.Test.YtglgclkgppomiaaGreatZ10
import Derived.Test.YtglgclkgppomiaaGreatZ11
import Derived.Test.YtglgclkgppomiaaGreatZ13
import Derived.Test.YtglgclkgppomiaaGreatZ14
import Derived.Test.YtglgclkgppomiaaGreatZ17
import Derived.Laws.BytesArg
set_option linter.unusedVariables false
set_option linter.unusedSimpArgs false
namespace Go.Proofs.YtglgclkgppomiaaGreat
open Go Go.RowKit

/-- A value. -/
abbrev vCells (D : Option Addr) (dn dc : Nat) (u kd de rep ci : Int) : Array Value := #[.slice D dn dc, .int .u64 u, .int .i8 kd, .int .u8 de, .int .u8 rep, .int .u16 ci]
abbrev vlV (D : Option Addr) (dn dc : Nat) (u kd de rep ci : Int) : Value := .agg (vCells D dn dc u kd de rep ci)
theorem bytes_back {w : World} {lo B : Nat} {A : Option Addr} {n c : Nat} {t : ByteArray} (h : BytesAt w lo B A n c t) : (convert 72 9 (.slice A n c)).run Tryz.prog w = .ok (.string t) w := by
  obtain ⟨h1, h2, h3⟩ := h
  cases A with
  | none =>
    have hn : n = 0 := by
      rcases Nat.eq_zero_or_pos n with h | h
      · exact h
      · obtain ⟨b, o, hA, _⟩ := h3 h
        cases hA
    subst hn
    have ht : t = ByteArray.empty := by
      apply ByteArray.ext
      exact Array.eq_empty_of_size_eq_zero h1
    subst ht
    exact run_convert_bytes_nil w 72 5 Tryz.underlying72 Tryz.underlying5 _ _ 9 Tryz.underlying9
  | some a =>
    have h1' : t.data.toList.length = n := by rw [← h1, Array.length_toList]; rfl
    have hlist : (⟨t.data.toList.toArray⟩ : ByteArray) = t := by cases t; simp only [Array.toArray_toList]
    subst h1'
    have := run_convert_bytes_back (P := Tryz.prog) w 72 9 5 a c t.data.toList Tryz.underlying72 Tryz.underlying5 Tryz.underlying9 fun j hj => by
      obtain ⟨b, o, hA, _, hc⟩ := h3 (by omega)
      injection hA with hA
      subst hA
      have := hc j (by rw [h1]; exact hj)
      rw [Addr.add_lit, this]
      rfl
    rw [hlist] at this
    exact this

set_option maxHeartbeats 1000000
set_option maxRecDepth 100000
theorem rep72 (D : Option Addr) (dn dc : Nat) (u kd de rep ci : Int) (w : World) (h0 : 0 ≤ rep) (h1 : rep ≤ 255) :
    Calls Tryz.prog 72 #[vlV D dn dc u kd de rep ci] w fun e w' => e = .returned (.int .i64 rep) ∧ Below w.heap.size w w' := by
  have hb : Below w.heap.size w (w.alloc (.cells (vCells D dn dc u kd de rep ci) 76)) := (Below.refl _ _).alloc (Nat.le_refl _) _
  go_enter Tryz.func72, Tryz.ntmps72
  go_wp2_with fail
  go_ret
  exact ⟨ret_int (by first | rfl | (rw [IntKind.wrap_i64]; omega) | omega), hb⟩
theorem def73 (D : Option Addr) (dn dc : Nat) (u kd de rep ci : Int) (w : World) (h0 : 0 ≤ de) (h1 : de ≤ 255) :
    Calls Tryz.prog 73 #[vlV D dn dc u kd de rep ci] w fun e w' => e = .returned (.int .i64 de) ∧ Below w.heap.size w w' := by
  have hb : Below w.heap.size w (w.alloc (.cells (vCells D dn dc u kd de rep ci) 76)) := (Below.refl _ _).alloc (Nat.le_refl _) _
  go_enter Tryz.func73, Tryz.ntmps73
  go_wp2_with fail
  go_ret
  exact ⟨ret_int (by first | rfl | (rw [IntKind.wrap_i64]; omega) | omega), hb⟩
theorem null100 (g : Nat) (D : Option Addr) (dn dc : Nat) (u kd de rep ci : Int) (w : World) (h : RowB w g 76 (vCells D dn dc u kd de rep ci)) :
    Calls Tryz.prog 100 #[.pointer (some ⟨g, 0, none⟩)] w fun e w' => e = .returned (.bool (kd == 0)) ∧ Below w.heap.size w w' := by
  obtain ⟨c0, c1, c2, c3, c4, c5⟩ := h.c6
  go_enter Tryz.func100, Tryz.ntmps100
  go_wp2_with fail
  go_ret
  exact ⟨rfl, Below.refl _ _⟩
theorem null74 (D : Option Addr) (dn dc : Nat) (u kd de rep ci : Int) (w : World) :
    Calls Tryz.prog 74 #[vlV D dn dc u kd de rep ci] w fun e w' => e = .returned (.bool (kd == 0)) ∧ Below w.heap.size w w' := by
  go_enter Tryz.func74, Tryz.ntmps74
  go_wp2_with fail
  refine (null100 _ D dn dc u kd de rep ci _ (RowB.new _ _ _)).mono ?_
  rintro e w1 ⟨rfl, hb⟩
  go_wp2_with fail
  go_ret
  exact ⟨rfl, ((Below.refl _ _).alloc (Nat.le_refl _) _).trans (hb.mono (by simp))⟩
theorem col99 (g : Nat) (D : Option Addr) (dn dc : Nat) (u kd de rep : Int) (col : Nat) (w : World) (hc : col ≤ 65534) (h : RowB w g 76 (vCells D dn dc u kd de rep (65535 - (col : Int)))) :
    Calls Tryz.prog 99 #[.pointer (some ⟨g, 0, none⟩)] w fun e w' => e = .returned (.int .i64 col) ∧ Below w.heap.size w w' := by
  obtain ⟨c0, c1, c2, c3, c4, c5⟩ := h.c6
  obtain ⟨m, hm⟩ : ∃ m : Nat, m = 65535 - col := ⟨_, rfl⟩
  have e1 : (65535 : Int) - (col : Int) = (m : Int) := by omega
  rw [e1] at c5
  have hx := not_u16 m (by omega)
  have e2 : (65535 : Int) - (m : Int) = (col : Int) := by omega
  rw [e2] at hx
  have hne : ((col : Int) == 65535) = false := by simp; omega
  have hne' : ¬ ((col : Int) = 65535) := by omega
  have hx' : bits BinOp.xor IntKind.u16 (if IntKind.u16.signed = true then -1 else IntKind.u16.max) (m : Int) = (col : Int) := hx
  have hne2 : (bits BinOp.xor IntKind.u16 (if IntKind.u16.signed = true then -1 else IntKind.u16.max) (m : Int) == 65535) = false := by rw [hx']; exact hne
  have hcc := Lib.hid hc
  have HX := Lib.hid hx
  clear hx hm e1 e2 hne hne' hc hx'
  go_enter Tryz.func99, Tryz.ntmps99
  go_wp2_with fail
  go_ret
  exact ⟨ret_int (by rw [HX.out]; have := hcc.out; unfold wrap64; omega), Below.refl _ _⟩
theorem col71 (D : Option Addr) (dn dc : Nat) (u kd de rep : Int) (col : Nat) (w : World) (hc : col ≤ 65534) :
    Calls Tryz.prog 71 #[vlV D dn dc u kd de rep (65535 - (col : Int))] w fun e w' => e = .returned (.int .i64 col) ∧ Below w.heap.size w w' := by
  have HC := Lib.hid hc
  clear hc
  go_enter Tryz.func71, Tryz.ntmps71
  go_wp2_with fail
  refine (col99 _ D dn dc u kd de rep col _ HC.out (RowB.new _ _ _)).mono ?_
  rintro e w1 ⟨rfl, hb⟩
  go_wp2_with fail
  go_ret
  exact ⟨rfl, ((Below.refl _ _).alloc (Nat.le_refl _) _).trans (hb.mono (by simp))⟩
end Go.Proofs.YtglgclkgppomiaaGreat

namespace Go.Proofs.YtglgclkgppomiaaGreat
open Go Go.RowKit

set_option maxHeartbeats 1000000
set_option maxRecDepth 100000
theorem bool91 (g : Nat) (D : Option Addr) (dn dc : Nat) (u kd de rep ci : Int)  (w : World) (h : RowB w g 76 (vCells D dn dc u kd de rep ci)) :
    Calls Tryz.prog 91 #[.pointer (some ⟨g, 0, none⟩)] w fun e w' => e = .returned (.bool (u != 0)) ∧ Below w.heap.size w w' := by
  obtain ⟨c0, c1, c2, c3, c4, c5⟩ := h.c6
  go_enter Tryz.func91, Tryz.ntmps91
  go_wp2_with fail
  go_ret
  exact ⟨rfl, Below.refl _ _⟩
theorem bool101 (D : Option Addr) (dn dc : Nat) (u kd de rep ci : Int)  (w : World) :
    Calls Tryz.prog 101 #[vlV D dn dc u kd de rep ci] w fun e w' => e = .returned (.bool (u != 0)) ∧ Below w.heap.size w w' := by
  go_enter Tryz.func101, Tryz.ntmps101
  go_wp2_with fail
  refine (bool91 _ D dn dc u kd de rep ci _ (RowB.new _ _ _)).mono ?_
  rintro e w1 ⟨rfl, hb⟩
  go_wp2_with fail
  go_ret
  exact ⟨rfl, ((Below.refl _ _).alloc (Nat.le_refl _) _).trans (hb.mono (by simp))⟩
theorem i3292 (g : Nat) (D : Option Addr) (dn dc : Nat) (u kd de rep ci : Int) (r : Int) (hr : wrap32 u = r) (w : World) (h : RowB w g 76 (vCells D dn dc u kd de rep ci)) :
    Calls Tryz.prog 92 #[.pointer (some ⟨g, 0, none⟩)] w fun e w' => e = .returned (.int .i32 r) ∧ Below w.heap.size w w' := by
  obtain ⟨c0, c1, c2, c3, c4, c5⟩ := h.c6
  have HR := Lib.hid hr
  clear hr
  go_enter Tryz.func92, Tryz.ntmps92
  go_wp2_with fail
  go_ret
  exact ⟨ret_int HR.out, Below.refl _ _⟩
theorem i32102 (D : Option Addr) (dn dc : Nat) (u kd de rep ci : Int) (r : Int) (hr : wrap32 u = r) (w : World) :
    Calls Tryz.prog 102 #[vlV D dn dc u kd de rep ci] w fun e w' => e = .returned (.int .i32 r) ∧ Below w.heap.size w w' := by
  have HR := Lib.hid hr
  clear hr
  go_enter Tryz.func102, Tryz.ntmps102
  go_wp2_with fail
  refine (i3292 _ D dn dc u kd de rep ci r HR.out _ (RowB.new _ _ _)).mono ?_
  rintro e w1 ⟨rfl, hb⟩
  go_wp2_with fail
  go_ret
  exact ⟨rfl, ((Below.refl _ _).alloc (Nat.le_refl _) _).trans (hb.mono (by simp))⟩
theorem i6493 (g : Nat) (D : Option Addr) (dn dc : Nat) (u kd de rep ci : Int) (r : Int) (hr : wrap64 u = r) (w : World) (h : RowB w g 76 (vCells D dn dc u kd de rep ci)) :
    Calls Tryz.prog 93 #[.pointer (some ⟨g, 0, none⟩)] w fun e w' => e = .returned (.int .i64 r) ∧ Below w.heap.size w w' := by
  obtain ⟨c0, c1, c2, c3, c4, c5⟩ := h.c6
  have HR := Lib.hid hr
  clear hr
  go_enter Tryz.func93, Tryz.ntmps93
  go_wp2_with fail
  go_ret
  exact ⟨ret_int HR.out, Below.refl _ _⟩
theorem i64103 (D : Option Addr) (dn dc : Nat) (u kd de rep ci : Int) (r : Int) (hr : wrap64 u = r) (w : World) :
    Calls Tryz.prog 103 #[vlV D dn dc u kd de rep ci] w fun e w' => e = .returned (.int .i64 r) ∧ Below w.heap.size w w' := by
  have HR := Lib.hid hr
  clear hr
  go_enter Tryz.func103, Tryz.ntmps103
  go_wp2_with fail
  refine (i6493 _ D dn dc u kd de rep ci r HR.out _ (RowB.new _ _ _)).mono ?_
  rintro e w1 ⟨rfl, hb⟩
  go_wp2_with fail
  go_ret
  exact ⟨rfl, ((Below.refl _ _).alloc (Nat.le_refl _) _).trans (hb.mono (by simp))⟩
theorem f3294 (g : Nat) (D : Option Addr) (dn dc : Nat) (u kd de rep ci : Int) (r : Int) (hr : u % 4294967296 = r) (w : World) (h : RowB w g 76 (vCells D dn dc u kd de rep ci)) :
    Calls Tryz.prog 94 #[.pointer (some ⟨g, 0, none⟩)] w fun e w' => e = .returned (.float .f32 r.toNat) ∧ Below w.heap.size w w' := by
  obtain ⟨c0, c1, c2, c3, c4, c5⟩ := h.c6
  have HR := Lib.hid hr
  clear hr
  have hd := ext125
  go_enter Tryz.func94, Tryz.ntmps94
  go_wp2_with fail
  go_ret
  exact ⟨by rw [HR.out]; rfl, Below.refl _ _⟩
theorem f32105 (D : Option Addr) (dn dc : Nat) (u kd de rep ci : Int) (r : Int) (hr : u % 4294967296 = r) (w : World) :
    Calls Tryz.prog 105 #[vlV D dn dc u kd de rep ci] w fun e w' => e = .returned (.float .f32 r.toNat) ∧ Below w.heap.size w w' := by
  have HR := Lib.hid hr
  clear hr
  go_enter Tryz.func105, Tryz.ntmps105
  go_wp2_with fail
  refine (f3294 _ D dn dc u kd de rep ci r HR.out _ (RowB.new _ _ _)).mono ?_
  rintro e w1 ⟨rfl, hb⟩
  go_wp2_with fail
  go_ret
  exact ⟨rfl, ((Below.refl _ _).alloc (Nat.le_refl _) _).trans (hb.mono (by simp))⟩
theorem f6495 (g : Nat) (D : Option Addr) (dn dc : Nat) (u kd de rep ci : Int)  (w : World) (h : RowB w g 76 (vCells D dn dc u kd de rep ci)) :
    Calls Tryz.prog 95 #[.pointer (some ⟨g, 0, none⟩)] w fun e w' => e = .returned (.float .f64 u.toNat) ∧ Below w.heap.size w w' := by
  obtain ⟨c0, c1, c2, c3, c4, c5⟩ := h.c6
  have hd := ext127
  go_enter Tryz.func95, Tryz.ntmps95
  go_wp2_with fail
  go_ret
  exact ⟨rfl, Below.refl _ _⟩
theorem f64107 (D : Option Addr) (dn dc : Nat) (u kd de rep ci : Int)  (w : World) :
    Calls Tryz.prog 107 #[vlV D dn dc u kd de rep ci] w fun e w' => e = .returned (.float .f64 u.toNat) ∧ Below w.heap.size w w' := by
  go_enter Tryz.func107, Tryz.ntmps107
  go_wp2_with fail
  refine (f6495 _ D dn dc u kd de rep ci _ (RowB.new _ _ _)).mono ?_
  rintro e w1 ⟨rfl, hb⟩
  go_wp2_with fail
  go_ret
  exact ⟨rfl, ((Below.refl _ _).alloc (Nat.le_refl _) _).trans (hb.mono (by simp))⟩
theorem bytes97 (g : Nat) (D : Option Addr) (dn dc : Nat) (u kd de rep ci : Int)  (w : World) (h : RowB w g 76 (vCells D dn dc u kd de rep ci)) :
    Calls Tryz.prog 97 #[.pointer (some ⟨g, 0, none⟩)] w fun e w' => e = .returned (.slice D dn dc) ∧ Below w.heap.size w w' := by
  obtain ⟨c0, c1, c2, c3, c4, c5⟩ := h.c6
  go_enter Tryz.func97, Tryz.ntmps97
  go_wp2_with fail
  go_ret
  exact ⟨rfl, Below.refl _ _⟩
theorem bytes108 (D : Option Addr) (dn dc : Nat) (u kd de rep ci : Int)  (w : World) :
    Calls Tryz.prog 108 #[vlV D dn dc u kd de rep ci] w fun e w' => e = .returned (.slice D dn dc) ∧ Below w.heap.size w w' := by
  go_enter Tryz.func108, Tryz.ntmps108
  go_wp2_with fail
  refine (bytes97 _ D dn dc u kd de rep ci _ (RowB.new _ _ _)).mono ?_
  rintro e w1 ⟨rfl, hb⟩
  go_wp2_with fail
  go_ret
  exact ⟨rfl, ((Below.refl _ _).alloc (Nat.le_refl _) _).trans (hb.mono (by simp))⟩
end Go.Proofs.YtglgclkgppomiaaGreat

namespace Go.Proofs.YtglgclkgppomiaaGreat
open Go Go.RowKit

/-- A kind, a number and a text that a value can bear. -/
structure canOk (k num : Int) (t : ByteArray) : Prop where
  kd : isKd k = true
  ok : numOk k num
  i64 : -9223372036854775808 ≤ num ∧ num ≤ 9223372036854775807
  noText : k ≠ 6 → t = ByteArray.empty
  noNum : k = 6 → num = 0
theorem ret2_int {a b : Int} {t : ByteArray} (h : a = b) : Ending.returned (.tuple #[.int .i64 a, .string t]) = .returned (.tuple #[.int .i64 b, .string t]) := by rw [h]
theorem kd_cases {k : Int} (h : isKd k = true) : k = 0 ∨ k = 1 ∨ k = 2 ∨ k = 4 ∨ k = 5 ∨ k = 6 := by
  simp [isKd] at h; omega

set_option maxHeartbeats 300000
set_option maxRecDepth 100000
theorem plain76_0t  (D : Option Addr) (dn dc : Nat) (de rep ci : Int) (w : World) :
    Calls Tryz.prog 76 #[vlV D dn dc 1 (-1) de rep ci] w fun e w' => e = .returned (.tuple #[.int .i64 1, .string .empty]) ∧ Below w.heap.size w w' := by
  go_enter Tryz.func76, Tryz.ntmps76
  go_wp2_with fail
  refine (kind75 D dn dc 1 0 de rep ci _ (by decide)).mono ?_
  rintro e w1 ⟨rfl, hb⟩
  have r1 : RowB w1 w.heap.size 76 (vCells D dn dc 1 (-1) de rep ci) := (RowB.new w 76 _).keep hb (by simp)
  obtain ⟨c0, c1, c2, c3, c4, c5⟩ := r1.c6
  have hb1 : Below w.heap.size w w1 := ((Below.refl _ _).alloc (Nat.le_refl _) _).trans (hb.mono (by simp))
  have HB1 := Lib.hid hb1
  clear hb hb1
  go_wp2_with fail
  refine (bool101 D dn dc 1 (-1) de rep ci _).mono ?_
  rintro e w2 ⟨rfl, hb⟩
  have hb2 := HB1.out.trans (hb.mono HB1.out.size)
  clear hb
  go_wp2_with fail
  go_ret2
  exact ⟨rfl, hb2⟩
theorem plain76_0f  (D : Option Addr) (dn dc : Nat) (de rep ci : Int) (w : World) :
    Calls Tryz.prog 76 #[vlV D dn dc 0 (-1) de rep ci] w fun e w' => e = .returned (.tuple #[.int .i64 0, .string .empty]) ∧ Below w.heap.size w w' := by
  go_enter Tryz.func76, Tryz.ntmps76
  go_wp2_with fail
  refine (kind75 D dn dc 0 0 de rep ci _ (by decide)).mono ?_
  rintro e w1 ⟨rfl, hb⟩
  have r1 : RowB w1 w.heap.size 76 (vCells D dn dc 0 (-1) de rep ci) := (RowB.new w 76 _).keep hb (by simp)
  obtain ⟨c0, c1, c2, c3, c4, c5⟩ := r1.c6
  have hb1 : Below w.heap.size w w1 := ((Below.refl _ _).alloc (Nat.le_refl _) _).trans (hb.mono (by simp))
  have HB1 := Lib.hid hb1
  clear hb hb1
  go_wp2_with fail
  refine (bool101 D dn dc 0 (-1) de rep ci _).mono ?_
  rintro e w2 ⟨rfl, hb⟩
  have hb2 := HB1.out.trans (hb.mono HB1.out.size)
  clear hb
  go_wp2_with fail
  go_ret2
  exact ⟨rfl, hb2⟩
theorem plain76_1 (u : Int) (num : Int) (hr : wrap32 u = num) (h64 : -2147483648 ≤ num ∧ num ≤ 2147483647) (D : Option Addr) (dn dc : Nat) (de rep ci : Int) (w : World) :
    Calls Tryz.prog 76 #[vlV D dn dc u (-2) de rep ci] w fun e w' => e = .returned (.tuple #[.int .i64 num, .string .empty]) ∧ Below w.heap.size w w' := by
  have HR := Lib.hid hr
  have H64 := Lib.hid h64
  clear hr h64
  go_enter Tryz.func76, Tryz.ntmps76
  go_wp2_with fail
  refine (kind75 D dn dc u 1 de rep ci _ (by decide)).mono ?_
  rintro e w1 ⟨rfl, hb⟩
  have r1 : RowB w1 w.heap.size 76 (vCells D dn dc u (-2) de rep ci) := (RowB.new w 76 _).keep hb (by simp)
  obtain ⟨c0, c1, c2, c3, c4, c5⟩ := r1.c6
  have hb1 : Below w.heap.size w w1 := ((Below.refl _ _).alloc (Nat.le_refl _) _).trans (hb.mono (by simp))
  have HB1 := Lib.hid hb1
  clear hb hb1
  go_wp2_with fail
  refine (i32102 D dn dc u (-2) de rep ci num HR.out _).mono ?_
  rintro e w2 ⟨rfl, hb⟩
  have hb2 := HB1.out.trans (hb.mono HB1.out.size)
  clear hb
  go_wp2_with fail
  go_ret2
  exact ⟨ret2_int (by have := H64.out; unfold wrap64; omega), hb2⟩
theorem plain76_2 (u : Int) (num : Int) (hr : wrap64 u = num) (D : Option Addr) (dn dc : Nat) (de rep ci : Int) (w : World) :
    Calls Tryz.prog 76 #[vlV D dn dc u (-3) de rep ci] w fun e w' => e = .returned (.tuple #[.int .i64 num, .string .empty]) ∧ Below w.heap.size w w' := by
  have HR := Lib.hid hr
  clear hr
  go_enter Tryz.func76, Tryz.ntmps76
  go_wp2_with fail
  refine (kind75 D dn dc u 2 de rep ci _ (by decide)).mono ?_
  rintro e w1 ⟨rfl, hb⟩
  have r1 : RowB w1 w.heap.size 76 (vCells D dn dc u (-3) de rep ci) := (RowB.new w 76 _).keep hb (by simp)
  obtain ⟨c0, c1, c2, c3, c4, c5⟩ := r1.c6
  have hb1 : Below w.heap.size w w1 := ((Below.refl _ _).alloc (Nat.le_refl _) _).trans (hb.mono (by simp))
  have HB1 := Lib.hid hb1
  clear hb hb1
  go_wp2_with fail
  refine (i64103 D dn dc u (-3) de rep ci num HR.out _).mono ?_
  rintro e w2 ⟨rfl, hb⟩
  have hb2 := HB1.out.trans (hb.mono HB1.out.size)
  clear hb
  go_wp2_with fail
  go_ret2
  exact ⟨rfl, hb2⟩
theorem plain76_4 (u : Int) (num : Int) (hr : u % 4294967296 = num) (h64 : 0 ≤ num ∧ num ≤ 4294967295) (D : Option Addr) (dn dc : Nat) (de rep ci : Int) (w : World) :
    Calls Tryz.prog 76 #[vlV D dn dc u (-5) de rep ci] w fun e w' => e = .returned (.tuple #[.int .i64 num, .string .empty]) ∧ Below w.heap.size w w' := by
  have HR := Lib.hid hr
  have H64 := Lib.hid h64
  clear hr h64
  have hd := ext104
  go_enter Tryz.func76, Tryz.ntmps76
  go_wp2_with fail
  refine (kind75 D dn dc u 4 de rep ci _ (by decide)).mono ?_
  rintro e w1 ⟨rfl, hb⟩
  have r1 : RowB w1 w.heap.size 76 (vCells D dn dc u (-5) de rep ci) := (RowB.new w 76 _).keep hb (by simp)
  obtain ⟨c0, c1, c2, c3, c4, c5⟩ := r1.c6
  have hb1 : Below w.heap.size w w1 := ((Below.refl _ _).alloc (Nat.le_refl _) _).trans (hb.mono (by simp))
  have HB1 := Lib.hid hb1
  clear hb hb1
  go_wp2_with fail
  refine (f32105 D dn dc u (-5) de rep ci num HR.out _).mono ?_
  rintro e w2 ⟨rfl, hb⟩
  have hb2 := HB1.out.trans (hb.mono HB1.out.size)
  clear hb
  go_wp2_with fail
  go_ret2
  exact ⟨ret2_int (by have := H64.out; unfold wrap64; omega), hb2⟩
theorem plain76_5 (u : Int) (num : Int) (hr : wrap64 u = num) (h64 : 0 ≤ u) (D : Option Addr) (dn dc : Nat) (de rep ci : Int) (w : World) :
    Calls Tryz.prog 76 #[vlV D dn dc u (-6) de rep ci] w fun e w' => e = .returned (.tuple #[.int .i64 num, .string .empty]) ∧ Below w.heap.size w w' := by
  have HR := Lib.hid hr
  have H64 := Lib.hid h64
  clear hr h64
  have hd := ext106
  go_enter Tryz.func76, Tryz.ntmps76
  go_wp2_with fail
  refine (kind75 D dn dc u 5 de rep ci _ (by decide)).mono ?_
  rintro e w1 ⟨rfl, hb⟩
  have r1 : RowB w1 w.heap.size 76 (vCells D dn dc u (-6) de rep ci) := (RowB.new w 76 _).keep hb (by simp)
  obtain ⟨c0, c1, c2, c3, c4, c5⟩ := r1.c6
  have hb1 : Below w.heap.size w w1 := ((Below.refl _ _).alloc (Nat.le_refl _) _).trans (hb.mono (by simp))
  have HB1 := Lib.hid hb1
  clear hb hb1
  go_wp2_with fail
  refine (f64107 D dn dc u (-6) de rep ci _).mono ?_
  rintro e w2 ⟨rfl, hb⟩
  have hb2 := HB1.out.trans (hb.mono HB1.out.size)
  clear hb
  go_wp2_with fail
  go_ret2
  exact ⟨ret2_int (by have := H64.out; rw [Int.max_eq_left this]; exact HR.out), hb2⟩
theorem plain76_6 (t : ByteArray) (u : Int) (lo B : Nat) (D : Option Addr) (dn dc : Nat) (de rep ci : Int) (w : World) (hv : BytesAt w lo B D dn dc t) (hB : B ≤ w.heap.size) :
    Calls Tryz.prog 76 #[vlV D dn dc u (-7) de rep ci] w fun e w' => e = .returned (.tuple #[.int .i64 0, .string t]) ∧ Below w.heap.size w w' := by
  have HV := Lib.hid hv
  have HB := Lib.hid hB
  clear hv hB
  go_enter Tryz.func76, Tryz.ntmps76
  go_wp2_with fail
  refine (kind75 D dn dc u 6 de rep ci _ (by decide)).mono ?_
  rintro e w1 ⟨rfl, hb⟩
  have r1 : RowB w1 w.heap.size 76 (vCells D dn dc u (-7) de rep ci) := (RowB.new w 76 _).keep hb (by simp)
  obtain ⟨c0, c1, c2, c3, c4, c5⟩ := r1.c6
  have hb1 : Below w.heap.size w w1 := ((Below.refl _ _).alloc (Nat.le_refl _) _).trans (hb.mono (by simp))
  have HB1 := Lib.hid hb1
  have hcv : ∀ w2, Below w1.heap.size w1 w2 → (convert 72 9 (.slice D dn dc)).run Tryz.prog w2 = .ok (.string t) w2 := fun w2 h2 => bytes_back ((HV.out.frame (fun b _ h => (h2.block b (Nat.lt_of_lt_of_le h (Nat.le_trans HB.out HB1.out.size))).trans (HB1.out.block b (Nat.lt_of_lt_of_le h HB.out))) (Nat.le_refl _) (Nat.le_refl _)))
  have HCV := Lib.hid hcv
  clear hb hb1 hcv
  go_wp2_with fail
  refine Upto.region (m := 4) (S := (fun w' => w'.cell? ⟨w.heap.size, 0, none⟩ = some (.slice D dn dc) ∧ w'.cell? ⟨w.heap.size, 1, none⟩ = some (.int .u64 u) ∧ w'.cell? ⟨w.heap.size, 2, none⟩ = some (.int .i8 (-7)) ∧ w'.cell? ⟨w.heap.size, 3, none⟩ = some (.int .u8 de) ∧ w'.cell? ⟨w.heap.size, 4, none⟩ = some (.int .u8 rep) ∧ w'.cell? ⟨w.heap.size, 5, none⟩ = some (.int .u16 ci))) (by kernel_rfl) ?_ (fun hHeld => ?_)
  · exact ⟨c0, c1, c2, c3, c4, c5⟩
  refine Upto.take (i := 0) (v := ?_) at0 (by kernel_rfl) (by kernel_rfl) (by kernel_rfl) (by kernel_rfl) (fun _ _ _ h => h) (by rfl) ?_ hHeld ?_
  rotate_left
  · intro w hSw
    try dsimp only at hSw
    go_simp
    try with_reducible rfl
  try simp only [Act.put, List.setIfInBounds_toArray, List.set_cons_zero, List.set_cons_succ]
  refine Upto.step (i := 1) (by kernel_rfl) at1 (fun K' hK => ?_)
  go_simp
  go_at_call 108
  refine (bytes108 D dn dc u (-7) de rep ci _).mono ?_
  rintro e w2 ⟨rfl, hb2⟩
  have hbA : Below w1.heap.size w1 w2 := below_of_drew hb2
  have hcvA : (convert 72 9 (.slice D dn dc)).run Tryz.prog w2 = .ok (.string t) w2 := HCV.out w2 hbA
  try go_wp2_with fail
  refine hK.out _ _ (.inr ?_) (fun hHeld1 => ?_)
  · exact ⟨(bcell hbA (by have := r1.lt; omega)).trans c0, (bcell hbA (by have := r1.lt; omega)).trans c1, (bcell hbA (by have := r1.lt; omega)).trans c2, (bcell hbA (by have := r1.lt; omega)).trans c3, (bcell hbA (by have := r1.lt; omega)).trans c4, (bcell hbA (by have := r1.lt; omega)).trans c5⟩
  clear hK K'
  replace hHeld := hHeld1.resolve_left (by decide)
  clear hHeld1
  try simp only [Act.put, List.setIfInBounds_toArray, List.set_cons_zero, List.set_cons_succ]
  refine Upto.take (i := 3) (v := ?_) at3 (by kernel_rfl) (by kernel_rfl) (by kernel_rfl) (by kernel_rfl) (fun _ _ _ h => h) (by rfl) ?_ hHeld ?_
  rotate_left
  · intro w hSw
    try dsimp only at hSw
    go_simp
    try with_reducible rfl
  try simp only [Act.put, List.setIfInBounds_toArray, List.set_cons_zero, List.set_cons_succ]
  refine Upto.step (i := 2) (by kernel_rfl) at2 (fun K' hK => ?_)
  go_simp
  refine hK.out _ _ (.inr ?_) (fun hHeld1 => ?_)
  · exact ⟨(bcell hbA (by have := r1.lt; omega)).trans c0, (bcell hbA (by have := r1.lt; omega)).trans c1, (bcell hbA (by have := r1.lt; omega)).trans c2, (bcell hbA (by have := r1.lt; omega)).trans c3, (bcell hbA (by have := r1.lt; omega)).trans c4, (bcell hbA (by have := r1.lt; omega)).trans c5⟩
  clear hK K'
  replace hHeld := hHeld1.resolve_left (by decide)
  clear hHeld1
  try simp only [Act.put, List.setIfInBounds_toArray, List.set_cons_zero, List.set_cons_succ]
  refine Upto.step (i := 4) (by kernel_rfl) at4 (fun K' hK => ?_)
  go_simp
  refine hK.out _ _ (.inl rfl) (fun _ => ?_)
  clear hK K'
  try simp only [Act.put, List.setIfInBounds_toArray, List.set_cons_zero, List.set_cons_succ]
  refine Upto.done (by kernel_rfl) ?_ _
  all_goals
    go_wp2_with fail
    go_ret2
    exact ⟨rfl, HB1.out.trans (hbA.mono HB1.out.size)⟩
/-- What impl.plain tells. -/
theorem plain76 (k num : Int) (t : ByteArray) (hc : canOk k num t) (lo B : Nat) (D : Option Addr) (dn dc : Nat) (u de rep ci : Int) (w : World) (hv : VR w lo B false k num t D dn dc u) (hB : B ≤ w.heap.size) :
    Calls Tryz.prog 76 #[vlV D dn dc u (-(k + 1)) de rep ci] w fun e w' => e = .returned (.tuple #[.int .i64 num, .string t]) ∧ Below w.heap.size w w' := by
  have h64 := hc.i64
  obtain ⟨n0, n1, n4⟩ := hc.ok
  have ht := hc.noText
  have hn := hc.noNum
  have e0 : (-((0 : Int) + 1)) = -1 := by decide
  have e1 : (-((1 : Int) + 1)) = -2 := by decide
  have e2 : (-((2 : Int) + 1)) = -3 := by decide
  have e4 : (-((4 : Int) + 1)) = -5 := by decide
  have e5 : (-((5 : Int) + 1)) = -6 := by decide
  have e6 : (-((6 : Int) + 1)) = -7 := by decide
  have hu : k ≠ 6 → u = encU num := fun h => by
    cases hv with
    | num => rfl
    | text => exact absurd rfl h
  rcases kd_cases hc.kd with rfl | rfl | rfl | rfl | rfl | rfl
  · obtain rfl := ht (by decide)
    obtain rfl := hu (by decide)
    rw [e0]
    rcases n0 rfl with rfl | rfl
    · have e : encU 0 = 0 := by decide
      rw [e]
      exact plain76_0f D dn dc de rep ci w
    · have e : encU 1 = 1 := by decide
      rw [e]
      exact plain76_0t D dn dc de rep ci w
  · obtain rfl := ht (by decide)
    obtain rfl := hu (by decide)
    rw [e1]
    exact plain76_1 (encU num) num (by have := n1 rfl; unfold wrap32 encU; omega) (n1 rfl) D dn dc de rep ci w
  · obtain rfl := ht (by decide)
    obtain rfl := hu (by decide)
    rw [e2]
    exact plain76_2 (encU num) num (by unfold wrap64 encU; omega) D dn dc de rep ci w
  · obtain rfl := ht (by decide)
    obtain rfl := hu (by decide)
    rw [e4]
    exact plain76_4 (encU num) num (by have := n4 rfl; unfold encU; omega) (by have := n4 rfl; omega) D dn dc de rep ci w
  · obtain rfl := ht (by decide)
    obtain rfl := hu (by decide)
    rw [e5]
    exact plain76_5 (encU num) num (by unfold wrap64 encU; omega) (by unfold encU; omega) D dn dc de rep ci w
  · obtain rfl := hn rfl
    rw [e6]
    cases hv with
    | num _ _ _ hk => exact absurd rfl hk
    | text _ _ _ _ _ h => exact plain76_6 t _ lo B _ _ _ de rep ci w h hB
end Go.Proofs.YtglgclkgppomiaaGreat

namespace Go.Proofs.YtglgclkgppomiaaGreat
open Go Go.RowKit

/-- A cell that a value can bear. -/
structure ClOk (x : Cl) : Prop where
  col : 0 ≤ x.col ∧ x.col ≤ 65534
  rep : 0 ≤ x.rep ∧ x.rep ≤ 255
  de : 0 ≤ x.de ∧ x.de ≤ 255
  nul : x.null = true → x.kind = 0 ∧ x.num = 0 ∧ x.text = ByteArray.empty
  there : x.null = false → canOk x.kind x.num x.text
theorem RowAt.at_ {w : World} {B : Nat} {A : Option Addr} {n c : Nat} {cs : List Cl} (h : RowAt w B A n c cs) {i : Nat} (hi : i < n) :
    ∃ b o x D dn dc u, A = some ⟨b, o, none⟩ ∧ b < B ∧ cs[i]? = some x ∧ VR w 0 B x.null x.kind x.num x.text D dn dc u ∧ w.cell? ⟨b, o + i * 6, none⟩ = some (.slice D dn dc) ∧ w.cell? ⟨b, o + i * 6 + 1, none⟩ = some (.int .u64 u) ∧ w.cell? ⟨b, o + i * 6 + 2, none⟩ = some (.int .i8 (kdOf x.null x.kind)) ∧
    w.cell? ⟨b, o + i * 6 + 3, none⟩ = some (.int .u8 x.de) ∧ w.cell? ⟨b, o + i * 6 + 4, none⟩ = some (.int .u8 x.rep) ∧ w.cell? ⟨b, o + i * 6 + 5, none⟩ = some (.int .u16 (65535 - x.col)) := by
  obtain ⟨h1, h2, h3⟩ := h
  obtain ⟨b, o, hA, hb, h⟩ := h3 (by omega)
  have hl : i < cs.length := by omega
  obtain ⟨D, dn, dc, u, r⟩ := h i _ (List.getElem?_eq_getElem hl)
  exact ⟨b, o, cs[i], D, dn, dc, u, hA, hb, List.getElem?_eq_getElem hl, r⟩
theorem kind75k (D : Option Addr) (dn dc : Nat) (u k de rep col : Int) (w : World) (hk : 0 ≤ k ∧ k ≤ 7) :
    Calls Tryz.prog 75 #[vlV D dn dc u (kdOf false k) de rep col] w fun e w' => e = .returned (.int .i8 k) ∧ Below w.heap.size w w' := kind75 D dn dc u k de rep col w hk
theorem plain76k (k num : Int) (t : ByteArray) (hc : canOk k num t) (lo B : Nat) (D : Option Addr) (dn dc : Nat) (u de rep ci : Int) (w : World) (hv : VR w lo B false k num t D dn dc u) (hB : B ≤ w.heap.size) :
    Calls Tryz.prog 76 #[vlV D dn dc u (kdOf false k) de rep ci] w fun e w' => e = .returned (.tuple #[.int .i64 num, .string t]) ∧ Below w.heap.size w w' := plain76 k num t hc lo B D dn dc u de rep ci w hv hB
theorem below_grownRow_alloc {B : Nat} {w w' : World} {o : Obj} {row : Option Nat} (h : (w.alloc o).grownBy w' row) (hB : B ≤ w.heap.size) (hr : ∀ k, row = some k → B ≤ k) : Below B w w' :=
  ((Below.refl B w).alloc hB o).trans (below_grownRow h (by rw [size_alloc1]; omega) hr)
theorem null74i (D : Option Addr) (dn dc : Nat) (u kd de rep ci : Int) (nl : Bool) (w : World) (h : (kd == 0) = nl) :
    Calls Tryz.prog 74 #[vlV D dn dc u kd de rep ci] w fun e w' => e = .returned (.bool nl) ∧ Below w.heap.size w w' := h ▸ null74 D dn dc u kd de rep ci w
theorem col71i (D : Option Addr) (dn dc : Nat) (u kd de rep col : Int) (w : World) (hc : 0 ≤ col ∧ col ≤ 65534) :
    Calls Tryz.prog 71 #[vlV D dn dc u kd de rep (65535 - col)] w fun e w' => e = .returned (.int .i64 col) ∧ Below w.heap.size w w' := by
  obtain ⟨m, rfl⟩ := Int.eq_ofNat_of_zero_le hc.1
  exact col71 D dn dc u kd de rep m w (by omega)
def clFlat (cs : List Cl) : List Value := (cs.map Cl.vals).flatten
theorem clFlat_snoc (cs : List Cl) (x : Cl) : clFlat (cs ++ [x]) = clFlat cs ++ x.vals := by simp [clFlat]
theorem clFlat_length (cs : List Cl) : (clFlat cs).length = cs.length * 7 := by
  induction cs with
  | nil => rfl
  | cons c cs ih => simp only [clFlat, List.map_cons, List.flatten_cons, List.length_append] at ih ⊢; rw [ih]; simp [Cl.vals]; omega
theorem clFlat_get : ∀ (cs : List Cl) (k : Nat) (x : Cl) (r : Nat), cs[k]? = some x → r < 7 → (clFlat cs)[k * 7 + r]? = x.vals[r]?
  | [], k, x, r, h, _ => by simp at h
  | c :: cs, 0, x, r, h, hr => by
    simp at h; subst h
    simp only [clFlat, List.map_cons, List.flatten_cons]
    rw [Nat.zero_mul, Nat.zero_add, List.getElem?_append_left (by simpa [Cl.vals] using hr)]
  | c :: cs, k + 1, x, r, h, hr => by
    have ih := clFlat_get cs k x r (by simpa using h) hr
    simp only [clFlat, List.map_cons, List.flatten_cons] at ih ⊢
    rw [List.getElem?_append_right (by simp [Cl.vals]; omega)]
    rw [← ih]
    congr 1
    simp [Cl.vals]; omega
/-- A row of cells of its own is a list of cells. -/
theorem clsAt_owns {w : World} {base : Nat} {v : Value} {cs : List Cl} {n : Nat} (h : w.ownsRow base 39 7 v n (clFlat cs)) (hn : cs.length = n) : ∃ A c, v = .slice A n c ∧ ClsAt w w.heap.size A n c cs := by
  have hcells := fun g hg => h.cells (g := g) hg
  have hlt := h.lt
  rcases h.2 with ⟨rfl, rfl⟩ | ⟨g, cap, cur, rfl, hb, hcur, hle, hmax, hsz, htk⟩
  · exact ⟨none, 0, rfl, hn, Nat.le_refl _, fun h => absurd h (by omega)⟩
  · have hg : ∀ k u, (clFlat cs)[k]? = some u → w.cell? ⟨g, k, none⟩ = some u := fun k u hu => by
      have := hcells g rfl k u hu
      rw [Addr.add_lit, Nat.zero_add] at this
      exact this
    refine ⟨_, cap, rfl, hn, hle, fun _ => ⟨g, 0, rfl, (hlt g rfl).2, fun k x hk => ?_⟩⟩
    rw [Nat.zero_add]
    exact ⟨hg _ _ (clFlat_get cs k x 0 hk (by omega)), hg _ _ (clFlat_get cs k x 1 hk (by omega)), hg _ _ (clFlat_get cs k x 2 hk (by omega)), hg _ _ (clFlat_get cs k x 3 hk (by omega)), hg _ _ (clFlat_get cs k x 4 hk (by omega)), hg _ _ (clFlat_get cs k x 5 hk (by omega)), hg _ _ (clFlat_get cs k x 6 hk (by omega))⟩
theorem RowB.set7 {w : World} {g : Nat} {t : TypeId} {a0 a1 a2 a3 a4 a5 a6 : Value} (h : RowB w g t #[a0, a1, a2, a3, a4, a5, a6]) (b0 b1 b2 b3 b4 b5 b6 : Value) :
    RowB (((((((w.setCell ⟨g, 0, none⟩ b0).setCell ⟨g, 1, none⟩ b1).setCell ⟨g, 2, none⟩ b2).setCell ⟨g, 3, none⟩ b3).setCell ⟨g, 4, none⟩ b4).setCell ⟨g, 5, none⟩ b5).setCell ⟨g, 6, none⟩ b6) g t #[b0, b1, b2, b3, b4, b5, b6] := by
  have h0 : RowB _ g t #[b0, a1, a2, a3, a4, a5, a6] := h.set 0 b0
  have h1 : RowB _ g t #[b0, b1, a2, a3, a4, a5, a6] := h0.set 1 b1
  have h2 : RowB _ g t #[b0, b1, b2, a3, a4, a5, a6] := h1.set 2 b2
  have h3 : RowB _ g t #[b0, b1, b2, b3, a4, a5, a6] := h2.set 3 b3
  have h4 : RowB _ g t #[b0, b1, b2, b3, b4, a5, a6] := h3.set 4 b4
  have h5 : RowB _ g t #[b0, b1, b2, b3, b4, b5, a6] := h4.set 5 b5
  exact h5.set 6 b6
theorem below_set7 {B : Nat} {w w' : World} (h : Below B w w') {g : Nat} (hg : B ≤ g) (b0 b1 b2 b3 b4 b5 b6 : Value) :
    Below B w (((((((w'.setCell ⟨g, 0, none⟩ b0).setCell ⟨g, 1, none⟩ b1).setCell ⟨g, 2, none⟩ b2).setCell ⟨g, 3, none⟩ b3).setCell ⟨g, 4, none⟩ b4).setCell ⟨g, 5, none⟩ b5).setCell ⟨g, 6, none⟩ b6) :=
  below_setCell (below_setCell (below_setCell (below_setCell (below_setCell (below_setCell (below_setCell h hg _) hg _) hg _) hg _) hg _) hg _) hg _
theorem RowB.c7 {w : World} {g : Nat} {t : TypeId} {a b c d e f i : Value} (h : RowB w g t #[a, b, c, d, e, f, i]) : w.cell? ⟨g, 0, none⟩ = some a ∧ w.cell? ⟨g, 1, none⟩ = some b ∧ w.cell? ⟨g, 2, none⟩ = some c ∧ w.cell? ⟨g, 3, none⟩ = some d ∧
    w.cell? ⟨g, 4, none⟩ = some e ∧ w.cell? ⟨g, 5, none⟩ = some f ∧ w.cell? ⟨g, 6, none⟩ = some i := ⟨h.cell 0, h.cell 1, h.cell 2, h.cell 3, h.cell 4, h.cell 5, h.cell 6⟩
theorem RowB.f7 {w : World} {g : Nat} {t : TypeId} {cs : Array Value} (h : RowB w g t cs) : w.frozen? ⟨g, 0, none⟩ = false ∧ w.frozen? ⟨g, 1, none⟩ = false ∧ w.frozen? ⟨g, 2, none⟩ = false ∧ w.frozen? ⟨g, 3, none⟩ = false ∧
    w.frozen? ⟨g, 4, none⟩ = false ∧ w.frozen? ⟨g, 5, none⟩ = false ∧ w.frozen? ⟨g, 6, none⟩ = false := ⟨h.free 0, h.free 1, h.free 2, h.free 3, h.free 4, h.free 5, h.free 6⟩
theorem outW {w5 W : World} {q : Nat} {cs : Array Value} (h : RowB W q 39 cs) (hb : Below w5.heap.size w5 W) (hq : w5.heap.size ≤ q) : ∃ W' q', W' = W ∧ q' = q ∧ RowB W' q' 39 cs ∧ Below w5.heap.size w5 W' ∧ w5.heap.size ≤ q' := ⟨W, q, rfl, rfl, h, hb, hq⟩
abbrev clZero : Array Value := #[.int .i64 0, .int .i64 0, .int .i64 0, .bool false, .int .i64 0, .int .i64 0, .string .empty]
theorem info39 : (Tryz.prog.info? 39).map (fun i => (i.zero, i.size, i.bytes)) = some (some (.agg #[.int .i64 0, .int .i64 0, .int .i64 0, .bool false, .int .i64 0, .int .i64 0, .string .empty]), 7, 64) := by kernel_rfl
/-- The call hands back cells. -/
def GivesCls (cs : List Cl) (w : World) (e : Ending) (w' : World) : Prop := ∃ A c, e = .returned (.slice A cs.length c) ∧ ClsAt w' w'.heap.size A cs.length c cs ∧ Below w.heap.size w w'

set_option maxRecDepth 100000 in
set_option maxHeartbeats 1000000 in
theorem cells47 (cs : List Cl) (A : Option Addr) (n c : Nat) (w : World) (hrow : RowAt w w.heap.size A n c cs) (hok : ∀ x ∈ cs, ClOk x) (hn : n ≤ 1000000000) :
    Calls Tryz.prog 47 #[.slice A n c] w (GivesCls cs w) := by
  have HROW := Lib.hid hrow
  have HOK := Lib.hid hok
  obtain ⟨i39, j1, j2, j3, j4⟩ := info_parts info39
  have J1 := Lib.hid j1
  have J2 := Lib.hid j2
  have J3 := Lib.hid j3
  have J4 := Lib.hid j4
  have hlen := hrow.1
  have HLEN := Lib.hid hlen
  clear hrow hok j1 j2 j3 j4 hlen
  go_enter Tryz.func47, Tryz.ntmps47
  go_wp2_with fail
  go_loopw [3, 9] (fun v i wr => ∃ (j : Nat), j ≤ n ∧ i = .int .i64 j ∧ wr.ownsRow w.heap.size 39 7 v j (clFlat (cs.take j)) ∧ Below w.heap.size w wr) (fun _ i _ => n - (intOf i).toNat)
  case atStart => exact ⟨0, Nat.zero_le _, rfl, World.ownsRow_nil _ _ _ _, Below.refl _ _⟩
  case round =>
    obtain ⟨j, hj, rfl, hown, hb5⟩ := hrel
    have HOWN := Lib.hid hown
    have HB5 := Lib.hid hb5
    clear hown
    by_cases hlt : j < n
    · obtain ⟨b, o, x, D, dn, dc, u, rfl, hb, hx, hv, c0, c1, c2, c3, c4, c5⟩ := HROW.out.at_ hlt
      have HX := Lib.hid hx
      have HV := Lib.hid hv
      have hxok := HOK.out x (List.mem_of_getElem? hx)
      have HXO := Lib.hid hxok
      have c0' := (bcell hb5 hb).trans c0
      have c1' := (bcell hb5 hb).trans c1
      have c2' := (bcell hb5 hb).trans c2
      have c3' := (bcell hb5 hb).trans c3
      have c4' := (bcell hb5 hb).trans c4
      have c5' := (bcell hb5 hb).trans c5
      have hnb : (kdOf x.null x.kind == 0) = x.null := by
        cases hxn : x.null with
        | true => rfl
        | false => have := kd_cases (hxok.there hxn).kd; simp [kdOf]; omega
      generalize hnl : x.null = nl at *
      have HNL := Lib.hid hnl
      have HNB := Lib.hid hnb
      have hj0 : (0 : Int) ≤ (j : Int) := Int.natCast_nonneg _
      have hj1 : (j : Int) < (n : Int) := by omega
      have hsz5 := hb5.size
      clear c0 c1 c2 c3 c4 c5 hx hv hxok hb5 hnl hnb
      go_wp2_with fail
      have x0 : RowB (wr.alloc (.cells #[.slice D dn dc, .int .u64 u, .int .i8 (kdOf nl x.kind), .int .u8 x.de, .int .u8 x.rep, .int .u16 (65535 - x.col)] 76)) wr.heap.size 76 (vCells D dn dc u (kdOf nl x.kind) x.de x.rep (65535 - x.col)) := RowB.new _ _ _
      have x3 := HOWN.out.alloc (.cells #[.slice D dn dc, .int .u64 u, .int .i8 (kdOf nl x.kind), .int .u8 x.de, .int .u8 x.rep, .int .u16 (65535 - x.col)] 76)
      have x4 : Below w.heap.size w (wr.alloc (.cells #[.slice D dn dc, .int .u64 u, .int .i8 (kdOf nl x.kind), .int .u8 x.de, .int .u8 x.rep, .int .u16 (65535 - x.col)] 76)) := HB5.out.alloc hsz5 _
      have x6 : (wr.alloc (.cells #[.slice D dn dc, .int .u64 u, .int .i8 (kdOf nl x.kind), .int .u8 x.de, .int .u8 x.rep, .int .u16 (65535 - x.col)] 76)).heap.size = wr.heap.size + 1 := size_alloc1 _ _
      have X3 := Lib.hid x3
      have X4 := Lib.hid x4
      have X0 := Lib.hid x0
      obtain ⟨k0, k1, k2, k3, k4, k5⟩ := x0.c6
      clear c0' c1' c2' c3' c4' c5' x3 x4 x0
      generalize (wr.alloc (.cells #[.slice D dn dc, .int .u64 u, .int .i8 (kdOf nl x.kind), .int .u8 x.de, .int .u8 x.rep, .int .u16 (65535 - x.col)] 76)) = w5 at *
      have S6 : ∀ W, Below w5.heap.size w5 W → W.cell? ⟨wr.heap.size, 0, none⟩ = some (.slice D dn dc) ∧ W.cell? ⟨wr.heap.size, 1, none⟩ = some (.int .u64 u) ∧ W.cell? ⟨wr.heap.size, 2, none⟩ = some (.int .i8 (kdOf nl x.kind)) ∧ W.cell? ⟨wr.heap.size, 3, none⟩ = some (.int .u8 x.de) ∧ W.cell? ⟨wr.heap.size, 4, none⟩ = some (.int .u8 x.rep) ∧ W.cell? ⟨wr.heap.size, 5, none⟩ = some (.int .u16 (65535 - x.col)) := fun W hW =>
        ⟨(bcell hW (by omega)).trans k0, (bcell hW (by omega)).trans k1, (bcell hW (by omega)).trans k2, (bcell hW (by omega)).trans k3, (bcell hW (by omega)).trans k4, (bcell hW (by omega)).trans k5⟩
      have S6 := Lib.hid S6
      have X6 := Lib.hid x6
      clear x6 k0 k1 k2 k3 k4 k5
      go_region_held3 (fun w' => w'.cell? ⟨wr.heap.size, 0, none⟩ = some (.slice D dn dc) ∧ w'.cell? ⟨wr.heap.size, 1, none⟩ = some (.int .u64 u) ∧ w'.cell? ⟨wr.heap.size, 2, none⟩ = some (.int .i8 (kdOf nl x.kind)) ∧ w'.cell? ⟨wr.heap.size, 3, none⟩ = some (.int .u8 x.de) ∧ w'.cell? ⟨wr.heap.size, 4, none⟩ = some (.int .u8 x.rep) ∧ w'.cell? ⟨wr.heap.size, 5, none⟩ = some (.int .u16 (65535 - x.col)))
        (first
          | (with_reducible exact S6.out _ hbAd)
          | (with_reducible exact S6.out _ (hbAd.alloc hbAd.size _))
          | (with_reducible exact S6.out _ (below_set7 hbAd hq _ _ _ _ _ _ _))
          | (with_reducible exact S6.out _ (below_set7 (hbAd.alloc hbAd.size _) hbAd.size _ _ _ _ _ _ _))
          | (with_reducible exact S6.out _ hbAc)
          | (with_reducible exact S6.out _ (hbAc.alloc hbAc.size _))
          | (with_reducible exact S6.out _ hbAb)
          | (with_reducible exact S6.out _ (hbAb.alloc hbAb.size _))
          | (with_reducible exact S6.out _ hbAa)
          | (with_reducible exact S6.out _ (hbAa.alloc hbAa.size _))
          | (with_reducible exact S6.out _ ((Below.refl w5.heap.size w5).drew))
          | (with_reducible exact S6.out _ ((Below.refl w5.heap.size w5).drew.alloc (Nat.le_refl _) _))
          | (with_reducible exact S6.out _ (((Below.refl w5.heap.size w5).alloc (Nat.le_refl _) _).drew)))
        (first
          | (go_at_call 71
             refine (col71i D dn dc u (kdOf nl x.kind) x.de x.rep x.col _ HXO.out.col).mono ?_
             rintro e wa ⟨rfl, hba⟩
             have hbAa : Below w5.heap.size w5 wa := by
               first
                 | exact ((Below.refl w5.heap.size w5).drew).trans (hba.mono ((Below.refl w5.heap.size w5).drew).size)
                 | exact (((Below.refl w5.heap.size w5).alloc (Nat.le_refl _) _).drew).trans (hba.mono (((Below.refl w5.heap.size w5).alloc (Nat.le_refl _) (.cells clZero 39)).drew).size)
                 | exact (((Below.refl w5.heap.size w5).drew).alloc ((Below.refl w5.heap.size w5).drew).size _).trans (hba.mono (Nat.le_trans ((Below.refl w5.heap.size w5).drew).size (by rw [size_alloc1]; exact Nat.le_succ _)))
             (first
               | (have rq : RowB wa w5.drew.heap.size 39 clZero := (RowB.new w5.drew 39 clZero).keep hba (by simp only [size_alloc1]; omega)
                  have hq : w5.heap.size ≤ w5.drew.heap.size := ((Below.refl w5.heap.size w5).drew).size)
               | (have rq : RowB wa w5.heap.size 39 clZero := (RowB.new w5 39 clZero).keep (below_of_drew hba) (by simp only [size_alloc1]; omega)
                  have hq : w5.heap.size ≤ w5.heap.size := Nat.le_refl _)
               | (have rq := rq.keep hba rq.lt)
               | skip))
          | (go_at_call 72
             refine (rep72 D dn dc u (kdOf nl x.kind) x.de x.rep (65535 - x.col) _ HXO.out.rep.1 HXO.out.rep.2).mono ?_
             rintro e wb ⟨rfl, hbb⟩
             have hbAb : Below w5.heap.size w5 wb := by
               first
                 | exact (hbAa).trans (hbb.mono (hbAa).size)
                 | exact (((Below.refl w5.heap.size w5).alloc (Nat.le_refl _) _).drew).trans (hbb.mono (((Below.refl w5.heap.size w5).alloc (Nat.le_refl _) (.cells clZero 39)).drew).size)
                 | exact ((hbAa).alloc (hbAa).size _).trans (hbb.mono (Nat.le_trans (hbAa).size (by rw [size_alloc1]; exact Nat.le_succ _)))
             (first
               | (have rq : RowB wb wa.heap.size 39 clZero := (RowB.new wa 39 clZero).keep hbb (by simp only [size_alloc1]; omega)
                  have hq : w5.heap.size ≤ wa.heap.size := (hbAa).size)
               | (have rq : RowB wb w5.heap.size 39 clZero := (RowB.new w5 39 clZero).keep (below_of_drew hbb) (by simp only [size_alloc1]; omega)
                  have hq : w5.heap.size ≤ w5.heap.size := Nat.le_refl _)
               | (have rq := rq.keep hbb rq.lt)
               | skip))
          | (go_at_call 73
             refine (def73 D dn dc u (kdOf nl x.kind) x.de x.rep (65535 - x.col) _ HXO.out.de.1 HXO.out.de.2).mono ?_
             rintro e wc ⟨rfl, hbc⟩
             have hbAc : Below w5.heap.size w5 wc := by
               first
                 | exact (hbAb).trans (hbc.mono (hbAb).size)
                 | exact (((Below.refl w5.heap.size w5).alloc (Nat.le_refl _) _).drew).trans (hbc.mono (((Below.refl w5.heap.size w5).alloc (Nat.le_refl _) (.cells clZero 39)).drew).size)
                 | exact ((hbAb).alloc (hbAb).size _).trans (hbc.mono (Nat.le_trans (hbAb).size (by rw [size_alloc1]; exact Nat.le_succ _)))
             (first
               | (have rq : RowB wc wb.heap.size 39 clZero := (RowB.new wb 39 clZero).keep hbc (by simp only [size_alloc1]; omega)
                  have hq : w5.heap.size ≤ wb.heap.size := (hbAb).size)
               | (have rq : RowB wc w5.heap.size 39 clZero := (RowB.new w5 39 clZero).keep (below_of_drew hbc) (by simp only [size_alloc1]; omega)
                  have hq : w5.heap.size ≤ w5.heap.size := Nat.le_refl _)
               | (have rq := rq.keep hbc rq.lt)
               | skip))
          | (go_at_call 74
             refine (null74i D dn dc u (kdOf nl x.kind) x.de x.rep (65535 - x.col) nl _ HNB.out).mono ?_
             rintro e wd ⟨rfl, hbd⟩
             have hbAd : Below w5.heap.size w5 wd := by
               first
                 | exact (hbAc).trans (hbd.mono (hbAc).size)
                 | exact (((Below.refl w5.heap.size w5).alloc (Nat.le_refl _) _).drew).trans (hbd.mono (((Below.refl w5.heap.size w5).alloc (Nat.le_refl _) (.cells clZero 39)).drew).size)
                 | exact ((hbAc).alloc (hbAc).size _).trans (hbd.mono (Nat.le_trans (hbAc).size (by rw [size_alloc1]; exact Nat.le_succ _)))
             (first
               | (have rq : RowB wd wc.heap.size 39 clZero := (RowB.new wc 39 clZero).keep hbd (by simp only [size_alloc1]; omega)
                  have hq : w5.heap.size ≤ wc.heap.size := (hbAc).size)
               | (have rq : RowB wd w5.heap.size 39 clZero := (RowB.new w5 39 clZero).keep (below_of_drew hbd) (by simp only [size_alloc1]; omega)
                  have hq : w5.heap.size ≤ w5.heap.size := Nat.le_refl _)
               | (have rq := rq.keep hbd rq.lt)
               | skip)
             (first
               | (obtain ⟨q0, q1, q2, q3, q4, q5, q6⟩ := rq.c7
                  obtain ⟨f0, f1, f2, f3, f4, f5, f6⟩ := rq.f7)
               | skip)))
      all_goals
        (first
          | (obtain ⟨W, q, hWe, hqe, rW, hW, hqW⟩ := outW (q := wd.heap.size) (RowB.new wd 39 #[.int .i64 x.col, .int .i64 x.rep, .int .i64 x.de, .bool nl, .int .i64 0, .int .i64 0, .string { data := #[] }]) (hbAd.alloc hbAd.size _) hbAd.size
             rw [← hWe, ← hqe])
          | (obtain ⟨W, q, hWe, hqe, rW, hW, hqW⟩ := outW (rq.set7 (.int .i64 x.col) (.int .i64 x.rep) (.int .i64 x.de) (.bool nl) (.int .i64 0) (.int .i64 0) (.string { data := #[] })) (below_set7 hbAd hq _ _ _ _ _ _ _) hq
             rw [← hWe, ← hqe]))
        have RW := Lib.hid rW
        have HW := Lib.hid hW
        obtain ⟨b0, b1, b2, b3, b4, b5⟩ := S6.out W hW
        obtain ⟨g0, g1, g2, g3, g4, g5, g6⟩ := rW.c7
        obtain ⟨y0, y1, y2, y3, y4, y5, y6⟩ := rW.f7
        have hqlt := rW.lt
        clear hWe hqe rW hW
        try clear q0 q1 q2 q3 q4 q5 q6 f0 f1 f2 f3 f4 f5 f6
        try clear rq hq
        try clear hba
        try clear hbb
        try clear hbc
        try clear hbd
        try clear hHeld
        clear hbAa hbAb hbAc hbAd
        cases nl with
        | true =>
          obtain ⟨z1, z2, z3⟩ := HXO.out.nul HNL.out
          have HF := HW
          have HOWNF := Lib.hid (X3.out.kept (row := none) ⟨HF.out.os, HF.out.tape, HF.out.output, HF.out.size, fun k hk _ => HF.out.block k hk⟩ (by cases u3.ownBlock <;> simp))
          have hvals : x.vals = [.int .i64 x.col, .int .i64 x.rep, .int .i64 x.de, .bool true, .int .i64 0, .int .i64 0, .string { data := #[] }] := by simp only [Cl.vals, HNL.out, z1, z2, z3]; rfl
          have HVALS := Lib.hid hvals
          have HSZF : Hid (∀ o, w.heap.size ≤ (W.alloc o).heap.size) := Lib.hid fun o => by
            have := HF.out.size; have := X6.out; rw [size_alloc1]; omega
          clear hvals z1 z2 z3
          go_wp2_with (at_builtin; refine wpList_append_lies _ rfl _ _ 26 rfl w.heap.size 39 i39 _ 7 64 Tryz.underlying26 J1.out J2.out J3.out J4.out rfl (by decide) u3 j (clFlat (cs.take j)) (by rfl) (HOWNF.out.alloc _) ⟨W.heap.size, 0, none⟩ 1 1 [.int .i64 x.col, .int .i64 x.rep, .int .i64 x.de, .bool true, .int .i64 0, .int .i64 0, .string { data := #[] }] (by rfl) rfl (World.news_of_block (heap_alloc_new _ _)) (by simp [Value.oneCell']) (by decide) (by simp only [maxLen]; omega) (by omega) (HSZF.out _) _ rfl ?_; intro g cap w' hown' hgrow hat hlt')
          have hb9 : Below w.heap.size w w' := (X4.out.trans (HF.out.mono X4.out.size)).trans (below_grownRow_alloc hgrow (X4.out.trans (HF.out.mono X4.out.size)).size (fun k hk => (HOWN.out.lt k hk).1))
          refine ⟨⟨j + 1, by omega, by go_num, ?_, hb9⟩, by simp [intOf]; omega⟩
          rw [List.take_add_one, HX.out]
          show World.ownsRow w' _ _ _ _ _ (clFlat (cs.take j ++ [x]))
          rw [clFlat_snoc, HVALS.out]
          exact hown'
        | false =>
          have hkd := kd_cases (HXO.out.there HNL.out).kd
          have HKD := Lib.hid hkd
          clear hkd
          go_wp2_with fail
          refine (kind75k D dn dc u x.kind x.de x.rep (65535 - x.col) _ (by have := HKD.out; omega)).mono ?_
          rintro e w8 ⟨rfl, hb8⟩
          have rW8 := RW.out.keep hb8 hqlt
          have hW8 : Below w5.heap.size w5 w8 := HW.out.trans (hb8.mono HW.out.size)
          have RW8 := Lib.hid (rW8.set 4 (.int .i64 (wrap64 x.kind)))
          have HW8 := Lib.hid (below_setCell hW8 (p := ⟨q, 4, none⟩) hqW (.int .i64 (wrap64 x.kind)))
          obtain ⟨g0, g1, g2, g3, g4, g5, g6⟩ := rW8.c7
          obtain ⟨y0, y1, y2, y3, y4, y5, y6⟩ := rW8.f7
          obtain ⟨b0, b1, b2, b3, b4, b5⟩ := S6.out _ HW8.out
          clear rW8 hW8 hb8 hqlt
          go_wp2_with fail
          refine (plain76k x.kind x.num x.text (HXO.out.there HNL.out) 0 w.heap.size D dn dc u x.de x.rep (65535 - x.col) _ (HV.out.frame (fun b' _ h => (HW8.out.block b' (by have := X6.out; omega)).trans (X4.out.block b' h)) (Nat.le_refl _) (Nat.le_refl _)) (by have := HW8.out.size; have := X6.out; omega)).mono ?_
          rintro e w9 ⟨rfl, hb9⟩
          have rW9 := RW8.out.keep hb9 RW8.out.lt
          have hW9 : Below w5.heap.size w5 w9 := HW8.out.trans (hb9.mono HW8.out.size)
          have HF := Lib.hid (below_setCell (below_setCell hW9 (p := ⟨q, 5, none⟩) hqW (.int .i64 x.num)) (p := ⟨q, 6, none⟩) hqW (.string x.text))
          have HOWNF := Lib.hid (X3.out.kept (row := none) ⟨HF.out.os, HF.out.tape, HF.out.output, HF.out.size, fun k hk _ => HF.out.block k hk⟩ (by cases u3.ownBlock <;> simp))
          have rF := (rW9.set 5 (.int .i64 x.num)).set 6 (.string x.text)
          obtain ⟨g0, g1, g2, g3, g4, g5, g6⟩ := rW9.c7
          obtain ⟨y0, y1, y2, y3, y4, y5, y6⟩ := rW9.f7
          obtain ⟨k0, k1, k2, k3, k4, k5, k6⟩ := rF.c7
          have hwk : wrap64 x.kind = x.kind := by have := HKD.out; unfold wrap64; omega
          have hvals : x.vals = [.int .i64 x.col, .int .i64 x.rep, .int .i64 x.de, .bool false, .int .i64 (wrap64 x.kind), .int .i64 x.num, .string x.text] := by simp only [Cl.vals, HNL.out, hwk]
          have HVALS := Lib.hid hvals
          have HSZF : Hid (∀ o, w.heap.size ≤ (((w9.setCell ⟨q, 5, none⟩ (.int .i64 x.num)).setCell ⟨q, 6, none⟩ (.string x.text)).alloc o).heap.size) := Lib.hid fun o => by
            have := HF.out.size; have := X6.out; rw [size_alloc1]; omega
          have HNEWF : Hid (∀ o, (((w9.setCell ⟨q, 5, none⟩ (.int .i64 x.num)).setCell ⟨q, 6, none⟩ (.string x.text)).alloc o).heap[w9.heap.size]? = some o) := Lib.hid fun o => by
            have e : ((w9.setCell ⟨q, 5, none⟩ (.int .i64 x.num)).setCell ⟨q, 6, none⟩ (.string x.text)).heap.size = w9.heap.size := by rw [setCell_size, setCell_size]
            rw [← e]
            exact heap_alloc_new _ _
          clear hvals hwk rW9 hW9 hb9 rF
          go_wp2_with (at_builtin; refine wpList_append_lies _ rfl _ _ 26 rfl w.heap.size 39 i39 _ 7 64 Tryz.underlying26 J1.out J2.out J3.out J4.out rfl (by decide) u3 j (clFlat (cs.take j)) (by rfl) (HOWNF.out.alloc _) ⟨w9.heap.size, 0, none⟩ 1 1 [.int .i64 x.col, .int .i64 x.rep, .int .i64 x.de, .bool false, .int .i64 (wrap64 x.kind), .int .i64 x.num, .string x.text] (by rfl) rfl (World.news_of_block (HNEWF.out _)) (by simp [Value.oneCell']) (by decide) (by simp only [maxLen]; omega) (by omega) (HSZF.out _) _ rfl ?_; intro g cap w' hown' hgrow hat hlt')
          have hb9 : Below w.heap.size w w' := (X4.out.trans (HF.out.mono X4.out.size)).trans (below_grownRow_alloc hgrow (X4.out.trans (HF.out.mono X4.out.size)).size (fun k hk => (HOWN.out.lt k hk).1))
          refine ⟨⟨j + 1, by omega, by go_num, ?_, hb9⟩, by simp [intOf]; omega⟩
          rw [List.take_add_one, HX.out]
          show World.ownsRow w' _ _ _ _ _ (clFlat (cs.take j ++ [x]))
          rw [clFlat_snoc, HVALS.out]
          exact hown'
    · obtain rfl : j = n := by omega
      go_wp2_with fail
      go_ret
      have hcl := HLEN.out
      obtain ⟨A', c', rfl, hcls⟩ := clsAt_owns (cs := cs) (by have := HOWN.out; rwa [List.take_of_length_le (show cs.length ≤ j by omega)] at this) hcl
      exact ⟨A', c', by rw [hcl]; rfl, by rw [hcl]; exact hcls, HB5.out⟩
end Go.Proofs.YtglgclkgppomiaaGreat

namespace Go.Proofs.YtglgclkgppomiaaGreat
open Go Go.RowKit

/-- Each number is one of 64 bits. -/
inductive NumsFit : List Dt → Prop where
  | mk (ds : List Dt) (h : ∀ d, d ∈ ds → -9223372036854775808 ≤ d.num ∧ d.num ≤ 9223372036854775807) (hr : ∀ d, d ∈ ds → NumsFit d.items) : NumsFit ds
theorem NumsFit.at_ {ds : List Dt} (h : NumsFit ds) {d : Dt} (hd : d ∈ ds) : (-9223372036854775808 ≤ d.num ∧ d.num ≤ 9223372036854775807) ∧ NumsFit d.items := by
  cases h with
  | mk _ h hr => exact ⟨h d hd, hr d hd⟩
theorem NumsFit.tail {d : Dt} {ds : List Dt} (h : NumsFit (d :: ds)) : NumsFit ds := by
  cases h with
  | mk _ h hr => exact .mk _ (fun x hx => h x (List.mem_cons_of_mem _ hx)) (fun x hx => hr x (List.mem_cons_of_mem _ hx))

mutual
theorem cntF_eq : ∀ (f : Fd) (d : Int) (n : Nat), cntF f d = some n → n = fdSize f
  | .mk _ _ kind [], d, n, h => by
    simp only [cntF] at h
    split at h
    · injection h with h; subst h; simp [fdSize, fdsSize]
    · cases h
  | .mk _ _ kind (g :: r), d, n, h => by
    simp only [cntF] at h
    split at h
    · cases h
    · rename_i k hk
      have := cntL_eq (g :: r) none (d + 1) k hk
      split at h
      · injection h with h; subst h; simp only [fdSize]; omega
      · cases h
theorem cntL_eq : ∀ (l : List Fd) (p : Option ByteArray) (d : Int) (n : Nat), cntL p l d = some n → n = fdsSize l
  | [], p, d, n, h => by simp [cntL] at h; simp [fdsSize]; omega
  | f :: r, p, d, n, h => by
    simp only [cntL] at h
    split at h
    · split at h
      · cases h
      · rename_i a ha
        split at h
        · cases h
        · rename_i b hb
          have h1 := cntF_eq f d a ha
          have h2 := cntL_eq r _ d b hb
          injection h with h
          simp only [fdsSize]; omega
    · cases h
end
theorem areFields_facts {fs : List Fd} (h : areFields fs = true) : OkL fs 0 ∧ fdsSize fs ≤ 300 ∧ fs ≠ [] := by
  simp only [areFields, Bool.and_eq_true, decide_eq_true_eq] at h
  cases hc : cntL none fs 0 with
  | none => rw [hc] at h; simp [optInt] at h
  | some n =>
    rw [hc] at h
    simp only [optInt] at h
    have := cntL_eq fs none 0 n hc
    refine ⟨⟨n, hc⟩, by omega, fun he => ?_⟩
    subst he
    simp [fdsSize] at this
    omega
theorem OkL.tail {f : Fd} {fs : List Fd} {d : Int} (h : OkL (f :: fs) d) {k : Nat} {g : Fd} (hk : fs[k]? = some g) :
    0 ≤ g.way ∧ g.way ≤ 2 ∧ d ≤ 60 ∧ (g.kids = [] → isKd g.kind = true) ∧ (g.kids ≠ [] → g.kind = 0 ∧ OkL g.kids (d + 1)) := h.at_ (k := k + 1) (by simpa using hk)
/-- What each field of a group is (OkL without the order of the names). -/
def OkA (fs : List Fd) (d : Int) : Prop := ∀ f, f ∈ fs → 0 ≤ f.way ∧ f.way ≤ 2 ∧ d ≤ 60 ∧ (f.kids = [] → isKd f.kind = true) ∧ (f.kids ≠ [] → OkL f.kids (d + 1))
theorem OkL.all {fs : List Fd} {d : Int} (h : OkL fs d) : OkA fs d := fun f hf => by
  obtain ⟨k, hk⟩ := List.mem_iff_getElem?.1 hf
  obtain ⟨a, b, c, e, g⟩ := h.at_ hk
  exact ⟨a, b, c, e, fun hne => (g hne).2⟩

/-- A cell of n columns from col on, with levels up to lim. -/
structure InCols (col n lim : Nat) (x : Cl) : Prop where
  lo : (col : Int) ≤ x.col
  hi : x.col < ((col + n : Nat) : Int)
  rep : 0 ≤ x.rep ∧ x.rep ≤ (lim : Int)
  de : 0 ≤ x.de ∧ x.de ≤ (lim : Int)
  nul : x.null = true → x.kind = 0 ∧ x.num = 0 ∧ x.text = ByteArray.empty
  there : x.null = false → canOk x.kind x.num x.text
theorem InCols.wide {col n lim col' n' : Nat} {x : Cl} (h : InCols col n lim x) (h1 : col' ≤ col) (h2 : col + n ≤ col' + n') : InCols col' n' lim x :=
  ⟨by have := h.lo; omega, by have := h.hi; omega, h.rep, h.de, h.nul, h.there⟩
theorem InCols.ok {col n lim : Nat} {x : Cl} (h : InCols col n lim x) (hn : col + n ≤ 65535) (hl : lim ≤ 255) : ClOk x :=
  ⟨by have := h.lo; have := h.hi; omega, by have := h.rep; omega, by have := h.de; omega, h.nul, h.there⟩
theorem nonesOf_in (n col rep de lim : Nat) (h1 : rep ≤ lim) (h2 : de ≤ lim) : ∀ x ∈ nonesOf n col rep de, InCols col n lim x := by
  intro x hx
  simp only [nonesOf, List.mem_map, List.mem_range] at hx
  obtain ⟨i, hi, rfl⟩ := hx
  exact ⟨by simp; omega, by simp; omega, by simp; omega, by simp; omega, fun _ => ⟨rfl, rfl, rfl⟩, fun h => by cases h⟩
theorem canOk_of {k : Int} {d : Dt} (hk : isKd k = true) (hp : plainOk k d = true) (hi : -9223372036854775808 ≤ d.num ∧ d.num ≤ 9223372036854775807) : canOk k d.num d.text := by
  have hn := plainOk_num hp
  unfold plainOk at hp
  split at hp
  · cases hp
  · refine ⟨hk, hn, hi, fun h6 => ?_, fun h6 => ?_⟩
    · by_cases k0 : k = 0
      · simp [k0] at hp; exact hp.1
      by_cases k1 : k = 1
      · simp [k1] at hp; exact hp.1
      by_cases k4 : k = 4
      · simp [k4] at hp; exact hp.1
      simp [k0, k1, k4, h6] at hp
      exact hp
    · simp [h6] at hp
      exact hp

/-- What holds of the cells of what a field has once, out of the fields of its group. -/
def ShIn (N : Nat) : Prop := ∀ (fs : List Fd) (ds : List Dt) (dp : Int) (n0 m col dep rep de lim : Nat), fdsSize fs ≤ N → OkA fs dp → rowGo fs ds n0 = some m → NumsFit ds → (dep : Int) + (61 - dp) ≤ lim → (de : Int) + (61 - dp) ≤ lim → rep ≤ lim → dep ≤ lim → de ≤ lim →
  (∀ x ∈ shFields fs ds col dep rep de, InCols col (leaves fs) lim x) ∧ (shFields fs ds col dep rep de).length ≤ dtsSize ds * leaves fs ∧ n0 + dtsSize ds ≤ m
theorem leavesOf_pos (f : Fd) (h : f.kids ≠ [] → 1 ≤ leaves f.kids) : 1 ≤ leavesOf f := by
  by_cases hk : f.kids = []
  · rw [leavesOf_leaf hk]; exact Nat.le_refl 1
  · rw [leavesOf_group hk]; exact h hk
theorem leaves_pos : ∀ (N : Nat) (fs : List Fd), fdsSize fs ≤ N → fs ≠ [] → 1 ≤ leaves fs
  | 0, fs, hN, hne => by
    have := fdsSize_length fs
    exact absurd (List.eq_nil_of_length_eq_zero (by omega)) hne
  | N + 1, [], _, hne => absurd rfl hne
  | N + 1, f :: r, hN, _ => by
    have h1 : 1 ≤ leavesOf f := leavesOf_pos f fun hk => leaves_pos N f.kids (by have := fdSize_kids f; simp only [fdsSize] at hN; omega) hk
    simp only [leaves]; omega
theorem shOnce_in (N : Nat) (ih : ShIn N) (f : Fd) (d : Dt) (dp : Int) (k col dep rep de lim : Nat) (hs : fdSize f ≤ N + 1) (hl : f.kids = [] → isKd f.kind = true) (hg : f.kids ≠ [] → OkL f.kids dp) (hk : onceC f d = some k) (hn : (-9223372036854775808 ≤ d.num ∧ d.num ≤ 9223372036854775807) ∧ NumsFit d.items)
    (h1 : (dep : Int) + (61 - dp) ≤ lim) (h2 : (de : Int) + (61 - dp) ≤ lim) (h3 : rep ≤ lim) (h4 : dep ≤ lim) (h5 : de ≤ lim) :
    (∀ x ∈ shOnce f d col dep rep de, InCols col (leavesOf f) lim x) ∧ (shOnce f d col dep rep de).length ≤ dtSize d * leavesOf f ∧ dtSize d ≤ k := by
  by_cases hkd : f.kids = []
  · rw [onceC_leaf hkd] at hk
    have hp : plainOk f.kind d = true := by
      by_cases hp : plainOk f.kind d = true
      · exact hp
      · rw [if_neg hp] at hk; cases hk
    rw [if_pos hp] at hk
    injection hk with hk
    rw [← shOnce_bare, hkd, shOnce_leaf, leavesOf_leaf hkd]
    have hit : d.items = [] := by
      have := hp
      unfold plainOk at this
      split at this
      · cases this
      · rename_i h
        simp at h
        exact h.1.2
    have hsz := dtSize_items d
    rw [hit] at hsz
    simp only [dtsSize] at hsz
    refine ⟨fun x hx => ?_, by simp; omega, by omega⟩
    simp only [List.mem_singleton] at hx
    subst hx
    exact ⟨by simp, by simp; omega, by simp; omega, by simp; omega, (fun h => by cases h), fun _ => canOk_of (hl hkd) hp hn.1⟩
  · rw [onceC_group hkd] at hk
    split at hk
    · split at hk
      · cases hk
      · rename_i m hr
        injection hk with hk
        obtain ⟨q1, q2, q3⟩ := ih f.kids d.items dp 0 m col dep rep de lim (by have := fdSize_kids f; omega) (hg hkd).all hr hn.2 h1 h2 h3 h4 h5
        rw [← shOnce_bare, shOnce_group _ _ hkd, leavesOf_group hkd]
        have hsz := dtSize_items d
        refine ⟨q1, Nat.le_trans q2 ?_, by omega⟩
        exact Nat.mul_le_mul_right _ (by omega)
    · cases hk
theorem shField_in (N : Nat) (ih : ShIn N) (f : Fd) (d : Dt) (dp : Int) (k col dep rep de lim : Nat) (hs : fdSize f ≤ N + 1) (h0 : 0 ≤ f.way) (h2' : f.way ≤ 2) (hdp : dp ≤ 60) (hl : f.kids = [] → isKd f.kind = true) (hg : f.kids ≠ [] → OkL f.kids (dp + 1)) (hk : dataC f d = some k)
    (hn : (-9223372036854775808 ≤ d.num ∧ d.num ≤ 9223372036854775807) ∧ NumsFit d.items) (h1 : (dep : Int) + (61 - dp) ≤ lim) (h2 : (de : Int) + (61 - dp) ≤ lim) (h3 : rep ≤ lim) (h4 : dep ≤ lim) (h5 : de ≤ lim) :
    (∀ x ∈ shField f.way (leavesOf f) (fun d col dep rep de => shOnce f d col dep rep de) d col dep rep de, InCols col (leavesOf f) lim x) ∧ (shField f.way (leavesOf f) (fun d col dep rep de => shOnce f d col dep rep de) d col dep rep de).length ≤ dtSize d * leavesOf f ∧ dtSize d ≤ k := by
  have hw : f.way = 0 ∨ f.way = 1 ∨ f.way = 2 := by omega
  have hpos := dtSize_pos d
  have hnl : leavesOf f ≤ dtSize d * leavesOf f := Nat.le_mul_of_pos_left _ hpos
  unfold dataC dataOf at hk
  unfold shField
  rcases hw with hw | hw | hw
  · simp only [hw] at hk ⊢
    rw [if_neg (by simp), if_neg (by simp)] at hk
    rw [if_neg (by simp), if_neg (by simp)]
    exact shOnce_in N ih f d (dp + 1) k col dep rep de lim hs hl hg hk hn (by omega) (by omega) h3 h4 h5
  · simp only [hw] at hk ⊢
    rw [if_pos (by simp)]
    cases hdn : d.none with
    | true =>
      rw [hdn, if_pos (by simp)] at hk
      split at hk
      · rename_i hb
        injection hk with hk
        have hit : d.items = [] := List.eq_nil_of_length_eq_zero hb.2.2
        have hsz := dtSize_items d
        rw [hit] at hsz
        simp only [dtsSize] at hsz
        rw [if_pos rfl]
        exact ⟨nonesOf_in _ _ _ _ _ h3 h5, by rw [nonesOf_length]; exact hnl, by omega⟩
      · cases hk
    | false =>
      rw [hdn, if_neg (by simp), if_neg (by simp)] at hk
      rw [if_neg (by simp)]
      exact shOnce_in N ih f d (dp + 1) k col dep rep (de + 1) lim hs hl hg hk hn (by omega) (by omega) h3 h4 (by omega)
  · simp only [hw] at hk ⊢
    rw [if_neg (by simp), if_pos (by simp)] at hk
    rw [if_neg (by simp), if_pos (by simp)]
    have hi : itemsGo (onceC f) d.items 1 = some k := by
      split at hk
      · exact hk
      · cases hk
    have hsz := dtSize_items d
    have key : ∀ (xs : List Dt) (n0 m rep' : Nat), itemsGo (onceC f) xs n0 = some m → NumsFit xs → rep' ≤ lim → (∀ x ∈ (xs.map fun y => shOnce f y col (dep + 1) rep' (de + 1)).flatten, InCols col (leavesOf f) lim x) ∧ ((xs.map fun y => shOnce f y col (dep + 1) rep' (de + 1)).flatten).length ≤ dtsSize xs * leavesOf f ∧ n0 + dtsSize xs ≤ m := by
      intro xs
      induction xs with
      | nil => intro n0 m rep' h _ _; simp [itemsGo] at h; simp [dtsSize]; omega
      | cons y ys ihy =>
        intro n0 m rep' h hnf hr'
        simp only [itemsGo] at h
        split at h
        · cases h
        · rename_i ky hky
          split at h
          · cases h
          · obtain ⟨a1, a2, a3⟩ := ihy _ m rep' h hnf.tail hr'
            obtain ⟨b1, b2, b3⟩ := shOnce_in N ih f y (dp + 1) ky col (dep + 1) rep' (de + 1) lim hs hl hg hky (hnf.at_ List.mem_cons_self) (by omega) (by omega) hr' (by omega) (by omega)
            simp only [List.map_cons, List.flatten_cons, List.mem_append, List.length_append, dtsSize]
            refine ⟨fun x hx => ?_, ?_, by omega⟩
            · rcases hx with hx | hx
              · exact b1 x hx
              · exact a1 x hx
            · rw [Nat.add_mul]; omega
    cases hitems : d.items with
    | nil =>
      rw [hitems] at hsz
      simp only [dtsSize] at hsz
      rw [hitems] at hi
      simp [itemsGo] at hi
      exact ⟨nonesOf_in _ _ _ _ _ h3 h5, by show (nonesOf _ _ _ _).length ≤ _; rw [nonesOf_length]; exact hnl, by omega⟩
    | cons y ys =>
      rw [hitems] at hsz hi
      simp only [dtsSize] at hsz
      have hnf := hn.2
      rw [hitems] at hnf
      simp only [itemsGo] at hi
      split at hi
      · cases hi
      · rename_i ky hky
        split at hi
        · cases hi
        · obtain ⟨a1, a2, a3⟩ := key ys _ k (dep + 1) hi hnf.tail (by omega)
          obtain ⟨b1, b2, b3⟩ := shOnce_in N ih f y (dp + 1) ky col (dep + 1) rep (de + 1) lim hs hl hg hky (hnf.at_ List.mem_cons_self) (by omega) (by omega) h3 (by omega) (by omega)
          refine ⟨fun x hx => ?_, ?_, by omega⟩
          · rcases List.mem_append.1 hx with hx | hx
            · exact b1 x hx
            · exact a1 x hx
          · refine Nat.le_trans (Nat.le_of_eq List.length_append) ?_
            rw [hsz, Nat.add_mul, Nat.add_mul]
            omega
theorem shIn_step (N : Nat) (ih : ∀ M, N = M + 1 → ShIn M) : ShIn N := by
    intro fs
    induction fs with
    | nil =>
      intro ds dp n0 m col dep rep de lim hs hok hr hnf h1 h2 h3 h4 h5
      cases ds with
      | nil => simp [rowGo] at hr; simp [shFields, dtsSize]; omega
      | cons d ds => simp [rowGo] at hr
    | cons f fs ihf =>
      intro ds dp n0 m col dep rep de lim hs hok hr hnf h1 h2 h3 h4 h5
      cases ds with
      | nil => simp [rowGo] at hr
      | cons d ds =>
        rw [rowGo_cons] at hr
        split at hr
        · cases hr
        · rename_i k hk
          split at hr
          · cases hr
          · cases N with
            | zero => have := fdSize_pos f; simp only [fdsSize] at hs; omega
            | succ M =>
              obtain ⟨a0, a1, a2, a3, a4⟩ := hok f List.mem_cons_self
              simp only [fdsSize] at hs
              obtain ⟨b1, b2, b3⟩ := shField_in M (ih M rfl) f d dp k col dep rep de lim (by omega) a0 a1 a2 a3 a4 hk (hnf.at_ List.mem_cons_self) h1 h2 h3 h4 h5
              obtain ⟨c1, c2, c3⟩ := ihf ds dp _ m (col + leavesOf f) dep rep de lim (by omega) (fun g hg => hok g (List.mem_cons_of_mem _ hg)) hr hnf.tail h1 h2 h3 h4 h5
              have e : shFields (f :: fs) (d :: ds) col dep rep de = shField f.way (leavesOf f) (fun d col dep rep de => shOnce f d col dep rep de) d col dep rep de ++ shFields fs ds (col + leavesOf f) dep rep de := by simp only [shFields, headDt, List.tail_cons]
              rw [e]
              simp only [leaves, dtsSize]
              refine ⟨fun x hx => ?_, ?_, by omega⟩
              · rcases List.mem_append.1 hx with hx | hx
                · exact (b1 x hx).wide (Nat.le_refl _) (by omega)
                · exact (c1 x hx).wide (by omega) (by omega)
              · rw [List.length_append, Nat.add_mul, Nat.mul_add, Nat.mul_add]
                have := Nat.zero_le (dtSize d * leaves fs)
                have := Nat.zero_le (dtsSize ds * leavesOf f)
                omega
theorem shIn_all (N : Nat) : ShIn N := by
  induction N with
  | zero => exact shIn_step 0 fun M h => absurd h (by omega)
  | succ N ih =>
    refine shIn_step (N + 1) fun M h => ?_
    have e : N = M := by omega
    subst e
    exact ih
end Go.Proofs.YtglgclkgppomiaaGreat

namespace Go.Proofs.YtglgclkgppomiaaGreat
open Go Go.RowKit

/-- The cells of a column of one row: the first has the level rep, no other one has dep or less. -/
def Blk (dep rep : Nat) (L : List Cl) : Prop := ∃ h t, L = h :: t ∧ h.rep = (rep : Int) ∧ ∀ y ∈ t, (dep : Int) < y.rep
theorem Blk.deep {dep dep' rep : Nat} {L : List Cl} (h : Blk dep rep L) (hd : dep' ≤ dep) : Blk dep' rep L := by
  obtain ⟨a, t, h1, h2, h3⟩ := h
  exact ⟨a, t, h1, h2, fun y hy => by have := h3 y hy; omega⟩
theorem colOf_append (a b : List Cl) (j : Nat) : colOf (a ++ b) j = colOf a j ++ colOf b j := by simp [colOf]
theorem colOf_out {L : List Cl} {j : Nat} (h : ∀ x ∈ L, x.col ≠ (j : Int)) : colOf L j = [] := by
  simp only [colOf, List.filter_eq_nil_iff, decide_eq_true_eq]
  exact h
/-- Cells of the columns from col on, n of them, each a block, with levels of definition from de on. -/
structure Cols (col n dep rep de : Nat) (L : List Cl) : Prop where
  inc : ∀ x ∈ L, (col : Int) ≤ x.col ∧ x.col < ((col + n : Nat) : Int)
  dee : ∀ x ∈ L, (de : Int) ≤ x.de
  blk : ∀ j, j < n → Blk dep rep (colOf L (col + j))
theorem colOf_nones (n col rep de j : Nat) (hj : j < n) : colOf (nonesOf n col rep de) (col + j) = [⟨((col + j : Nat) : Int), rep, de, true, 0, 0, .empty⟩] := by
  induction n with
  | zero => omega
  | succ n ih =>
    rw [nonesOf_add n 1, colOf_append]
    by_cases h : j < n
    · rw [ih h, colOf_out (L := nonesOf 1 (col + n) rep de)]
      · rfl
      · intro x hx
        have := (nonesOf_in 1 (col + n) rep de (max rep de) (by omega) (by omega) x hx).lo
        omega
    · obtain rfl : j = n := by omega
      rw [colOf_out (L := nonesOf j col rep de)]
      · simp [nonesOf, colOf]
      · intro x hx
        have := (nonesOf_in j col rep de (max rep de) (by omega) (by omega) x hx).hi
        omega
theorem Cols.nones (n col dep rep de : Nat) : Cols col n dep rep de (nonesOf n col rep de) where
  inc := fun x hx => ⟨(nonesOf_in n col rep de (max rep de) (by omega) (by omega) x hx).lo, (nonesOf_in n col rep de (max rep de) (by omega) (by omega) x hx).hi⟩
  dee := fun x hx => by
    simp only [nonesOf, List.mem_map] at hx
    obtain ⟨i, _, rfl⟩ := hx
    exact Int.le_refl _
  blk := fun j hj => ⟨_, [], colOf_nones n col rep de j hj, rfl, fun y hy => by cases hy⟩
theorem Cols.append {col n m dep rep de : Nat} {A B : List Cl} (hA : Cols col n dep rep de A) (hB : Cols (col + n) m dep rep de B) : Cols col (n + m) dep rep de (A ++ B) where
  inc := fun x hx => by
    rcases List.mem_append.1 hx with h | h
    · have := hA.inc x h; omega
    · have := hB.inc x h; omega
  dee := fun x hx => by
    rcases List.mem_append.1 hx with h | h
    · exact hA.dee x h
    · exact hB.dee x h
  blk := fun j hj => by
    rw [colOf_append]
    by_cases h : j < n
    · rw [colOf_out (L := B) (fun x hx => by have := hB.inc x hx; omega), List.append_nil]
      exact hA.blk j h
    · rw [colOf_out (L := A) (fun x hx => by have := hA.inc x hx; omega), List.nil_append]
      have := hB.blk (j - n) (by omega)
      rwa [show col + n + (j - n) = col + j by omega] at this
/-- Cells of more rows behind those of one. -/
theorem Cols.more {col n dep rep de : Nat} {A B : List Cl} (hA : Cols col n (dep + 1) rep de A) (hB : ∀ x ∈ B, ((col : Int) ≤ x.col ∧ x.col < ((col + n : Nat) : Int)) ∧ (de : Int) ≤ x.de ∧ (dep : Int) < x.rep) : Cols col n dep rep de (A ++ B) where
  inc := fun x hx => by
    rcases List.mem_append.1 hx with h | h
    · exact hA.inc x h
    · exact (hB x h).1
  dee := fun x hx => by
    rcases List.mem_append.1 hx with h | h
    · exact hA.dee x h
    · exact (hB x h).2.1
  blk := fun j hj => by
    obtain ⟨a, t, h1, h2, h3⟩ := hA.blk j hj
    rw [colOf_append, h1]
    refine ⟨a, t ++ colOf B (col + j), rfl, h2, fun y hy => ?_⟩
    rcases List.mem_append.1 hy with h | h
    · have := h3 y h; omega
    · exact (hB y (List.mem_filter.1 h).1).2.2
theorem Cols.lower {col n dep rep de dep' de' : Nat} {L : List Cl} (h : Cols col n dep rep de L) (h1 : dep' ≤ dep) (h2 : de' ≤ de) : Cols col n dep' rep de' L :=
  ⟨h.inc, fun x hx => by have := h.dee x hx; omega, fun j hj => (h.blk j hj).deep h1⟩
theorem Cols.reps {col n dep rep de : Nat} {L : List Cl} (h : Cols col n dep rep de L) (hr : dep < rep) : ∀ x ∈ L, (dep : Int) < x.rep := fun x hx => by
  have hc := h.inc x hx
  obtain ⟨a, t, h1, h2, h3⟩ := h.blk (x.col - col).toNat (by omega)
  have hm : x ∈ colOf L (col + (x.col - col).toNat) := List.mem_filter.2 ⟨hx, by simp; omega⟩
  rw [h1] at hm
  rcases List.mem_cons.1 hm with rfl | hm
  · omega
  · exact h3 x hm
/-- What the cells are of what a field has once. -/
def OnceCols (f : Fd) : Prop := ∀ (d : Dt) (col dep rep de : Nat), Cols col (leavesOf f) dep rep de (shOnce f d col dep rep de)
theorem shField_cols {f : Fd} (h : OnceCols f) (d : Dt) (col dep rep de : Nat) : Cols col (leavesOf f) dep rep de (shField f.way (leavesOf f) (fun d col dep rep de => shOnce f d col dep rep de) d col dep rep de) := by
  unfold shField
  split
  · split
    · exact Cols.nones _ _ _ _ _
    · exact (h d col dep rep (de + 1)).lower (Nat.le_refl _) (by omega)
  · split
    · cases hi : d.items with
      | nil => exact Cols.nones _ _ _ _ _
      | cons x xs =>
        refine ((h x col (dep + 1) rep (de + 1)).lower (Nat.le_refl _) (by omega)).more fun y hy => ?_
        simp only [List.mem_flatten, List.mem_map] at hy
        obtain ⟨l, ⟨z, hz, rfl⟩, hy⟩ := hy
        have hc := h z col (dep + 1) (dep + 1) (de + 1)
        refine ⟨hc.inc y hy, by have := hc.dee y hy; omega, ?_⟩
        exact (hc.lower (dep' := dep) (de' := de) (by omega) (by omega)).reps (by omega) y hy
    · exact h d col dep rep de
theorem shFields_cols : ∀ (fs : List Fd) (_ : ∀ f ∈ fs, OnceCols f) (ds : List Dt) (col dep rep de : Nat), Cols col (leaves fs) dep rep de (shFields fs ds col dep rep de)
  | [], _, ds, col, dep, rep, de => by
    simp only [shFields, leaves]
    exact ⟨fun x hx => (by cases hx), fun x hx => (by cases hx), fun j hj => by omega⟩
  | f :: r, h, ds, col, dep, rep, de => by
    simp only [shFields, leaves]
    exact (shField_cols (h f List.mem_cons_self) (headDt ds) col dep rep de).append (shFields_cols r (fun g hg => h g (List.mem_cons_of_mem _ hg)) ds.tail (col + leavesOf f) dep rep de)
theorem onceCols_all : ∀ (N : Nat) (f : Fd), fdSize f ≤ N → OnceCols f
  | 0, f, h => by have := fdSize_pos f; omega
  | N + 1, f, h => fun d col dep rep de => by
    by_cases hk : f.kids = []
    · rw [← shOnce_bare, hk, shOnce_leaf, leavesOf_leaf hk]
      refine ⟨fun x hx => ?_, fun x hx => ?_, fun j hj => ?_⟩
      · simp only [List.mem_singleton] at hx
        subst hx
        simp; omega
      · simp only [List.mem_singleton] at hx
        subst hx
        simp
      · obtain rfl : j = 0 := by omega
        exact ⟨⟨col, rep, de, false, f.kind, d.num, d.text⟩, [], by simp [colOf], rfl, fun y hy => by cases hy⟩
    · rw [← shOnce_bare, shOnce_group _ _ hk, leavesOf_group hk]
      refine shFields_cols f.kids (fun g hg => ?_) d.items col dep rep de
      obtain ⟨k, hk⟩ := List.mem_iff_getElem?.1 hg
      exact onceCols_all N g (by have := fdsSize_get _ _ _ hk; have := fdSize_kids f; omega)
theorem onceCols (f : Fd) : OnceCols f := onceCols_all _ f (Nat.le_refl _)
theorem shCols (fs : List Fd) (ds : List Dt) (col dep rep de : Nat) : Cols col (leaves fs) dep rep de (shFields fs ds col dep rep de) := shFields_cols fs (fun f _ => onceCols f) ds col dep rep de
end Go.Proofs.YtglgclkgppomiaaGreat

namespace Go.Proofs.YtglgclkgppomiaaGreat
open Go Go.RowKit

/-- The cells that a row is taken apart into. -/
def rowCells (fs : List Fd) (ds : List Dt) : List Cl := parts (colOf (shFields fs ds 0 0 0 0)) (leaves fs)
structure RowFacts (fs : List Fd) (ds : List Dt) : Prop where
  okl : OkL fs 0
  size : fdsSize fs ≤ 300
  ne : fs ≠ []
  row : ∃ m, rowGo fs ds 0 = some m
  dsize : dtsSize ds ≤ 20000
  leaves : leaves fs ≤ 300
  cells : ∀ x ∈ shFields fs ds 0 0 0 0, InCols 0 (Go.Proofs.YtglgclkgppomiaaGreat.leaves fs) 61 x
  len : (shFields fs ds 0 0 0 0).length ≤ 6000000
theorem rowFacts {fs : List Fd} {ds : List Dt} (h : isRow fs ds = true) (hn : NumsFit ds) : RowFacts fs ds := by
  simp only [isRow, Bool.and_eq_true, Option.isSome_iff_exists] at h
  obtain ⟨ha, m, hm⟩ := h
  obtain ⟨h1, h2, h3⟩ := areFields_facts ha
  have hle := rowGo_le _ _ _ _ hm
  have hlv := leaves_le fs
  obtain ⟨a1, a2, a3⟩ := shIn_all _ fs ds 0 0 m 0 0 0 0 61 (Nat.le_refl _) h1.all hm hn (by simp) (by simp) (by simp) (by simp) (by simp)
  refine ⟨h1, h2, h3, ⟨m, hm⟩, by omega, by omega, a1, Nat.le_trans a2 ?_⟩
  exact Nat.le_trans (Nat.mul_le_mul (show dtsSize ds ≤ 20000 by omega) (show leaves fs ≤ 300 by omega)) (by decide)
theorem mem_parts {X : Nat → List Cl} {x : Cl} : ∀ {n : Nat}, x ∈ parts X n → ∃ j, j < n ∧ x ∈ X j
  | 0, h => by simp [parts] at h
  | n + 1, h => by
    rw [parts_succ, List.mem_append] at h
    rcases h with h | h
    · obtain ⟨j, hj, hx⟩ := mem_parts h
      exact ⟨j, by omega, hx⟩
    · exact ⟨n, by omega, h⟩
theorem parts_cons_len (x : Cl) (L : List Cl) : ∀ n, (parts (colOf (x :: L)) n).length = (parts (colOf L) n).length + (if 0 ≤ x.col ∧ x.col < (n : Int) then 1 else 0)
  | 0 => by
    rw [if_neg (by omega)]
    simp [parts]
  | n + 1 => by
    rw [parts_succ, parts_succ, List.length_append, List.length_append, parts_cons_len x L n]
    by_cases h : x.col = (n : Int)
    · have e : colOf (x :: L) n = x :: colOf L n := by simp [colOf, h]
      rw [e, if_neg (by omega), if_pos (by omega)]
      simp only [List.length_cons]; omega
    · have e : colOf (x :: L) n = colOf L n := by simp [colOf, h]
      rw [e]
      by_cases h2 : 0 ≤ x.col ∧ x.col < (n : Int)
      · rw [if_pos h2, if_pos (by omega)]; omega
      · rw [if_neg h2, if_neg (by omega)]; omega
theorem parts_len (n : Nat) : ∀ L : List Cl, (parts (colOf L) n).length ≤ L.length
  | [] => by
    have : ∀ m, (parts (colOf []) m).length = 0 := fun m => by
      induction m with
      | zero => simp [parts]
      | succ m ih => rw [parts_succ, List.length_append, ih]; simp [colOf]
    rw [this]; exact Nat.zero_le _
  | x :: L => by
    rw [parts_cons_len]
    have := parts_len n L
    simp only [List.length_cons]
    split <;> omega
theorem RowFacts.ok {fs : List Fd} {ds : List Dt} (h : RowFacts fs ds) : ∀ x ∈ rowCells fs ds, ClOk x := fun x hx => by
  obtain ⟨j, hj, hx⟩ := mem_parts hx
  exact (h.cells x (List.mem_filter.1 hx).1).ok (by have := h.leaves; omega) (by omega)
theorem RowFacts.plen {fs : List Fd} {ds : List Dt} (h : RowFacts fs ds) : (rowCells fs ds).length ≤ 1000000000 := by
  have := parts_len (Go.Proofs.YtglgclkgppomiaaGreat.leaves fs) (shFields fs ds 0 0 0 0)
  have := h.len
  unfold rowCells; omega

set_option maxRecDepth 100000 in
set_option maxHeartbeats 1000000 in
theorem decon21 (fs : List Fd) (ds : List Dt) (A : Option Addr) (n c : Nat) (A2 : Option Addr) (n2 c2 : Nat) (w : World) (hfs : FdsAt w w.heap.size A n c fs) (hds : DtsAt w w.heap.size A2 n2 c2 ds) (hr : RowFacts fs ds) :
    Calls Tryz.prog 21 #[.slice A n c, .slice A2 n2 c2] w (GivesCls (rowCells fs ds) w) := by
  have HFS := Lib.hid hfs
  have HDS := Lib.hid hds
  have HR := Lib.hid hr
  obtain ⟨m, hm⟩ := hr.row
  have HM := Lib.hid hm
  have hlen := hfs.len.1
  have HLEN := Lib.hid hlen
  clear hfs hds hr hm hlen
  go_enter Tryz.func21, Tryz.ntmps21
  go_wp2_with fail
  refine (group_any fs A n c 0 w (by have := HR.out.size; omega) HFS.out HR.out.okl HR.out.ne).mono ?_
  rintro e w1 ⟨T, x, rfl, hnd, hb1⟩
  have HND := Lib.hid hnd
  have HB1 := Lib.hid hb1
  clear hnd hb1
  go_wp2_with fail
  refine (schema48 fs 0 0 w.heap.size T x w1 (by have := HR.out.size; omega) HND.out (by omega) HR.out.ne HR.out.okl (by have := HR.out.leaves; omega)).mono ?_
  rintro e w2 ⟨g, rfl, hsch, hb2⟩
  have HSCH := Lib.hid hsch
  have HB2 := Lib.hid (HB1.out.trans (hb2.mono HB1.out.size))
  clear hsch hb2
  go_wp2_with fail
  refine (fldsIn_all 1000000 (Nat.le_refl _) fs ds 0 0 m A n c A2 n2 c2 w2 (by have := HR.out.size; omega) HR.out.okl HM.out (HFS.out.mono HB2.out HB2.out.size) (HDS.out.mono HB2.out HB2.out.size)).mono ?_
  rintro e w3 ⟨D3, dn3, dc3, u3, A3, c3, rfl, htr, hb3⟩
  have hD : D3 = none ∧ dn3 = 0 ∧ dc3 = 0 ∧ u3 = 0 := by
    obtain ⟨hv, _⟩ := htr
    cases hv
    exact ⟨rfl, rfl, rfl, rfl⟩
  obtain ⟨rfl, rfl, rfl, rfl⟩ := hD
  have HTR := Lib.hid htr.2
  have HSCH3 := Lib.hid (HSCH.out.keep hb3 (Nat.le_refl _) hb3.size)
  have HB3 := Lib.hid (HB2.out.trans (hb3.mono HB2.out.size))
  have htl : (Tr.mk 4 0 0 .empty (trFields fs ds)).items.length = fs.length := trFields_length fs ds
  rw [htl]
  clear htr hb3
  go_wp2_with fail
  refine (decon50 fs ds 0 g w1.heap.size A3 c3 w3 HSCH3.out (by have := HR.out.size; omega) HR.out.ne HR.out.okl (by omega) (by have := HR.out.leaves; omega) (by have := HTR.out; rw [htl] at this; exact this.frame (fun _ _ _ => rfl) (Nat.zero_le _) (Nat.le_refl _)) (by have := HR.out.dsize; omega) HR.out.plen (by have := HR.out.len; omega)).mono ?_
  rintro e w4 ⟨A4, n4, c4, rfl, hrow, hb4⟩
  have HROW := Lib.hid hrow
  have HB4 := Lib.hid (HB3.out.trans (hb4.mono HB3.out.size))
  have hn4 : (rowCells fs ds).length = n4 := hrow.1
  clear hrow hb4
  go_wp2_with fail
  refine (cells47 (rowCells fs ds) A4 n4 c4 w4 HROW.out HR.out.ok (by have := HR.out.plen; omega)).mono ?_
  rintro e w5 ⟨A5, c5, rfl, hcls, hb5⟩
  have HCLS := Lib.hid hcls
  have HB5 := Lib.hid (HB4.out.trans (hb5.mono HB4.out.size))
  clear hcls hb5
  go_wp2_with fail
  go_ret
  exact ⟨A5, c5, by rw [hn4]; rfl, HCLS.out, HB5.out⟩
end Go.Proofs.YtglgclkgppomiaaGreat

namespace Go.Proofs.YtglgclkgppomiaaGreat
open Go Go.RowKit

def TxFit (d : Dt) : Prop := d.text.size ≤ 1000000000000 ∧ TextsFit d.items
theorem TextsFit.head {ds : List Dt} (h : TextsFit ds) : TxFit (headDt ds) := by
  cases ds with
  | nil => exact ⟨Nat.zero_le _, .mk _ (fun d h => by cases h) (fun d h => by cases h)⟩
  | cons d r => have := h.at_ (k := 0) (d := d) rfl; exact ⟨this.1, this.2.2⟩
theorem TextsFit.tail {ds : List Dt} (h : TextsFit ds) : TextsFit ds.tail := by
  cases h with
  | mk _ h hr => exact .mk _ (fun d hd => h d (List.mem_of_mem_tail hd)) (fun d hd => hr d (List.mem_of_mem_tail hd))
theorem TextsFit.mem {ds : List Dt} (h : TextsFit ds) {d : Dt} (hd : d ∈ ds) : TxFit d := by
  cases h with
  | mk _ h hr => exact ⟨(h d hd).1, hr d hd⟩
def TxOnce (f : Fd) : Prop := ∀ (d : Dt) (col dep rep de : Nat), TxFit d → ∀ x ∈ shOnce f d col dep rep de, x.text.size ≤ 1000000000000
theorem nones_text {n col rep de : Nat} {x : Cl} (h : x ∈ nonesOf n col rep de) : x.text.size ≤ 1000000000000 := by
  simp only [nonesOf, List.mem_map] at h
  obtain ⟨i, _, rfl⟩ := h
  exact Nat.zero_le _
theorem shField_tx {f : Fd} (h : TxOnce f) (d : Dt) (col dep rep de : Nat) (hd : TxFit d) : ∀ x ∈ shField f.way (leavesOf f) (fun d col dep rep de => shOnce f d col dep rep de) d col dep rep de, x.text.size ≤ 1000000000000 := by
  unfold shField
  split
  · split
    · exact fun x hx => nones_text hx
    · exact h d col dep rep (de + 1) hd
  · split
    · cases hi : d.items with
      | nil => exact fun x hx => nones_text hx
      | cons y ys =>
        have ht := hd.2
        rw [hi] at ht
        intro x hx
        rcases List.mem_append.1 hx with hx | hx
        · exact h y _ _ _ _ (ht.mem List.mem_cons_self) x hx
        · simp only [List.mem_flatten, List.mem_map] at hx
          obtain ⟨l, ⟨z, hz, rfl⟩, hx⟩ := hx
          exact h z _ _ _ _ (ht.mem (List.mem_cons_of_mem _ hz)) x hx
    · exact h d col dep rep de hd
theorem shFields_tx : ∀ (fs : List Fd) (_ : ∀ f ∈ fs, TxOnce f) (ds : List Dt) (col dep rep de : Nat), TextsFit ds → ∀ x ∈ shFields fs ds col dep rep de, x.text.size ≤ 1000000000000
  | [], _, ds, col, dep, rep, de, _ => fun x hx => by simp [shFields] at hx
  | f :: r, h, ds, col, dep, rep, de, ht => fun x hx => by
    simp only [shFields] at hx
    rcases List.mem_append.1 hx with hx | hx
    · exact shField_tx (h f List.mem_cons_self) (headDt ds) col dep rep de ht.head x hx
    · exact shFields_tx r (fun g hg => h g (List.mem_cons_of_mem _ hg)) ds.tail _ dep rep de ht.tail x hx
theorem txOnce_all : ∀ (N : Nat) (f : Fd), fdSize f ≤ N → TxOnce f
  | 0, f, h => by have := fdSize_pos f; omega
  | N + 1, f, h => fun d col dep rep de hd => by
    by_cases hk : f.kids = []
    · rw [← shOnce_bare, hk, shOnce_leaf]
      intro x hx
      simp only [List.mem_singleton] at hx
      subst hx
      exact hd.1
    · rw [← shOnce_bare, shOnce_group _ _ hk]
      refine shFields_tx f.kids (fun g hg => ?_) d.items col dep rep de hd.2
      obtain ⟨k, hk⟩ := List.mem_iff_getElem?.1 hg
      exact txOnce_all N g (by have := fdsSize_get _ _ _ hk; have := fdSize_kids f; omega)
theorem sh_texts (fs : List Fd) {ds : List Dt} (h : TextsFit ds) : ∀ x ∈ shFields fs ds 0 0 0 0, x.text.size ≤ 1000000000000 := shFields_tx fs (fun f _ => txOnce_all _ f (Nat.le_refl _)) ds 0 0 0 0 h
end Go.Proofs.YtglgclkgppomiaaGreat

namespace Go.Proofs.YtglgclkgppomiaaGreat
open Go Go.RowKit

theorem or_u64 (a b : Nat) (ha : a ≤ 255) (hb : b ≤ 255) : ∃ m : Nat, m ≤ 255 ∧ bits BinOp.or IntKind.u64 (a : Int) (b : Int) = (m : Int) := by
  have h1 : a ||| b < 2 ^ 8 := Nat.or_lt_two_pow (by omega) (by omega)
  refine ⟨a ||| b, by omega, ?_⟩
  show IntKind.u64.wrap ((BitVec.ofInt 64 (a : Int) ||| BitVec.ofInt 64 (b : Int)).toNat : Int) = _
  rw [BitVec.ofInt_natCast, BitVec.ofInt_natCast, BitVec.toNat_or, BitVec.toNat_ofNat, BitVec.toNat_ofNat, Nat.mod_eq_of_lt (by omega), Nat.mod_eq_of_lt (by omega), u64_wrap]
  unfold encU
  omega

set_option maxRecDepth 100000 in
set_option maxHeartbeats 1000000 in
theorem level86 (D : Option Addr) (dn dc : Nat) (u kd d0 r0 c0 : Int) (rep de col : Nat) (hr : rep ≤ 255) (hd : de ≤ 255) (hc : col ≤ 65534) (w : World) :
    Calls Tryz.prog 86 #[vlV D dn dc u kd d0 r0 c0, .int .i64 rep, .int .i64 de, .int .i64 col] w fun e w' => e = .returned (vlV D dn dc u kd de rep (65535 - (col : Int))) ∧ Below w.heap.size w w' := by
  obtain ⟨m, hm, hor⟩ := or_u64 rep de hr hd
  have w1 : IntKind.u64.wrap (rep : Int) = rep := by rw [u64_wrap]; unfold encU; omega
  have w2 : IntKind.u64.wrap (de : Int) = de := by rw [u64_wrap]; unfold encU; omega
  have w3 : IntKind.u64.wrap (col : Int) = col := by rw [u64_wrap]; unfold encU; omega
  have hx := not_u16 col (by omega)
  have HX := Lib.hid hx
  have hb : Below w.heap.size w ((w.alloc (.cells (vCells D dn dc u kd de rep (65535 - (col : Int))) 76)).alloc (.cells (vCells D dn dc u kd de rep (65535 - (col : Int))) 76)) := ((Below.refl _ _).alloc (Nat.le_refl _) _).alloc (by simp) _
  have hrw : RowB ((w.alloc (.cells (vCells D dn dc u kd de rep (65535 - (col : Int))) 76)).alloc (.cells (vCells D dn dc u kd de rep (65535 - (col : Int))) 76)) (w.heap.size + 1) 76 (vCells D dn dc u kd de rep (65535 - (col : Int))) := rowB_new (by simp)
  have HB := Lib.hid hb
  have HRW := Lib.hid hrw
  clear hb hx hrw
  go_enter Tryz.func86, Tryz.ntmps86
  go_wp2_with fail
  rw [HX.out]
  (try simp only [Exit.inBlock, Exit.then])
  refine bodyPost_ret (results_cell_row rfl _ _ _ 76 _ (0, 0) _ rfl HRW.out Tryz.underlying76 rfl size76) rfl ?_
  exact ⟨rfl, HB.out⟩
theorem null84 (w : World) : Calls Tryz.prog 84 #[] w fun e w' => e = .returned (vlV none 0 0 0 0 0 0 0) ∧ Below w.heap.size w w' := by
  have hb : Below w.heap.size w (w.alloc (.cells (vCells none 0 0 0 0 0 0 0) 76)) := (Below.refl _ _).alloc (Nat.le_refl _) _
  have hrw : RowB (w.alloc (.cells (vCells none 0 0 0 0 0 0 0) 76)) w.heap.size 76 (vCells none 0 0 0 0 0 0 0) := RowB.new _ _ _
  go_enter Tryz.func84, Tryz.ntmps84
  go_wp2_with fail
  (try simp only [Exit.inBlock, Exit.then])
  refine bodyPost_ret (results_cell_row rfl _ _ _ 76 _ (0, 0) _ rfl hrw Tryz.underlying76 rfl size76) rfl ?_
  exact ⟨rfl, hb⟩
end Go.Proofs.YtglgclkgppomiaaGreat
