/- The walks of impl.SameValue and impl.SameCell (printed by tools/gen_t14.py). -/
import Derived.Test.YtglgclkgppomiaaGreatYAppended03
import Derived.Test.YtglgclkgppomiaaGreatYAppended04
set_option linter.unusedVariables false
set_option linter.unusedSimpArgs false
namespace Go.Proofs.YtglgclkgppomiaaGreat
open Go Go.RowKit

/-- The value of a cell in memory: its cells, its data. -/
structure OneV (w : World) (lo g o : Nat) (x : Cl) (D : Option Addr) (dn dc : Nat) (u : Int) : Prop where
  vr : VR w lo w.heap.size x.null x.kind x.num x.text D dn dc u
  lt : lo ≤ g ∧ g < w.heap.size
  c0 : w.cell? ⟨g, o, none⟩ = some (.slice D dn dc)
  c1 : w.cell? ⟨g, o + 1, none⟩ = some (.int .u64 u)
  c2 : w.cell? ⟨g, o + 2, none⟩ = some (.int .i8 (kdOf x.null x.kind))
  c3 : w.cell? ⟨g, o + 3, none⟩ = some (.int .u8 x.de)
  c4 : w.cell? ⟨g, o + 4, none⟩ = some (.int .u8 x.rep)
  c5 : w.cell? ⟨g, o + 5, none⟩ = some (.int .u16 (65535 - x.col))
theorem OneV.keep {w w' : World} {lo g o : Nat} {x : Cl} {D : Option Addr} {dn dc : Nat} {u : Int} (h : OneV w lo g o x D dn dc u) (hb : Below w.heap.size w w') : OneV w' lo g o x D dn dc u :=
  ⟨h.vr.frame (fun b _ hl => hb.block b hl) (Nat.le_refl _) hb.size, ⟨h.lt.1, Nat.lt_of_lt_of_le h.lt.2 hb.size⟩, (bcell hb h.lt.2).trans h.c0, (bcell hb h.lt.2).trans h.c1, (bcell hb h.lt.2).trans h.c2, (bcell hb h.lt.2).trans h.c3, (bcell hb h.lt.2).trans h.c4, (bcell hb h.lt.2).trans h.c5⟩
theorem row53_one (x : Cl) (hx : Good x) (b : Nat) (w : World) (hr : RowB w b 39 #[.int .i64 x.col, .int .i64 x.rep, .int .i64 x.de, .bool x.null, .int .i64 x.kind, .int .i64 x.num, .string x.text]) :
    Calls Tryz.prog 53 #[.slice (some ⟨b, 0, none⟩) 1 1] w fun e w' => ∃ g o c D dn dc u, e = .returned (.slice (some ⟨g, o, none⟩) 1 c) ∧ OneV w' w.heap.size g o x D dn dc u ∧ Below w.heap.size w w' := by
  have hcl : ClsAt w w.heap.size (some ⟨b, 0, none⟩) 1 1 [x] := ⟨rfl, Nat.le_refl _, fun _ => ⟨b, 0, rfl, hr.lt, fun k y hk => by
    cases k with
    | zero =>
      simp at hk
      subst hk
      obtain ⟨c0, c1, c2, c3, c4, c5, c6⟩ := hr.c7
      exact ⟨c0, c1, c2, c3, c4, c5, c6⟩
    | succ k => simp at hk⟩⟩
  refine (row53 [x] (some ⟨b, 0, none⟩) 1 1 w hcl (fun y hy => by
    simp at hy
    subst hy
    exact ⟨hx.ok, by have := hx.text; omega⟩) (by omega)).mono ?_
  rintro e w' ⟨A, c, rfl, ⟨_, _, h3⟩, hb⟩
  obtain ⟨g, o, rfl, hg, h⟩ := h3 (by simp)
  obtain ⟨D, dn, dc, u, hv, c0, c1, c2, c3, c4, c5⟩ := h 0 x rfl
  simp only [Nat.zero_mul, Nat.add_zero] at c0 c1 c2 c3 c4 c5
  exact ⟨g, o, c, D, dn, dc, u, rfl, ⟨hv, hg, c0, c1, c2, c3, c4, c5⟩, hb⟩
set_option maxRecDepth 100000
set_option maxHeartbeats 4000000
instance : DecidableEq Cl := fun a b => decidable_of_iff (a.col = b.col ∧ a.rep = b.rep ∧ a.de = b.de ∧ a.null = b.null ∧ a.kind = b.kind ∧ a.num = b.num ∧ a.text = b.text) (by
  cases a; cases b; simp)
theorem sameCl_eq {x y : Cl} (hx : ClOk x) (hy : ClOk y) : (sameV x y && ((x.rep == y.rep) && ((x.de == y.de) && (65535 - x.col == 65535 - y.col)))) = decide (x = y) := by
  rw [Bool.eq_iff_iff]
  obtain ⟨xc, xr, xd, xn, xk, xm, xt⟩ := x
  obtain ⟨yc, yr, yd, yn, yk, ym, yt⟩ := y
  simp only [sameV, Bool.and_eq_true, decide_eq_true_eq, beq_iff_eq, Cl.mk.injEq]
  constructor
  · rintro ⟨⟨h1, h2, h3, h4⟩, h5, h6, h7⟩
    exact ⟨by omega, h5, h6, h1, h2, h3, h4⟩
  · rintro ⟨h7, h5, h6, h1, h2, h3, h4⟩
    exact ⟨⟨h1, h2, h3, h4⟩, h5, h6, by omega⟩
theorem value43 (x y : Cl) (hx : Good x) (hy : Good y) (w : World) : Calls Tryz.prog 43 #[clVal x, clVal y] w fun e w' => e = .returned (.bool (sameV x y)) ∧ Below w.heap.size w w' := by
  have HGX := Lib.hid hx
  have HGY := Lib.hid hy
  clear hx hy
  go_enter Tryz.func43, Tryz.ntmps43
  go_wp2_with fail
  have rp : RowB ((w.alloc (.cells #[.int .i64 x.col, .int .i64 x.rep, .int .i64 x.de, .bool x.null, .int .i64 x.kind, .int .i64 x.num, .string x.text] 39)).alloc (.cells #[.int .i64 y.col, .int .i64 y.rep, .int .i64 y.de, .bool y.null, .int .i64 y.kind, .int .i64 y.num, .string y.text] 39)) w.heap.size 39 #[.int .i64 x.col, .int .i64 x.rep, .int .i64 x.de, .bool x.null, .int .i64 x.kind, .int .i64 x.num, .string x.text] := (RowB.new w 39 _).alloc _
  have rq : RowB ((w.alloc (.cells #[.int .i64 x.col, .int .i64 x.rep, .int .i64 x.de, .bool x.null, .int .i64 x.kind, .int .i64 x.num, .string x.text] 39)).alloc (.cells #[.int .i64 y.col, .int .i64 y.rep, .int .i64 y.de, .bool y.null, .int .i64 y.kind, .int .i64 y.num, .string y.text] 39)) (w.heap.size + 1) 39 #[.int .i64 y.col, .int .i64 y.rep, .int .i64 y.de, .bool y.null, .int .i64 y.kind, .int .i64 y.num, .string y.text] := rowB_new (by rw [size_alloc1])
  have hb5 : Below w.heap.size w ((w.alloc (.cells #[.int .i64 x.col, .int .i64 x.rep, .int .i64 x.de, .bool x.null, .int .i64 x.kind, .int .i64 x.num, .string x.text] 39)).alloc (.cells #[.int .i64 y.col, .int .i64 y.rep, .int .i64 y.de, .bool y.null, .int .i64 y.kind, .int .i64 y.num, .string y.text] 39)) := ((Below.refl _ _).alloc (Nat.le_refl _) _).alloc (by simp) _
  generalize ((w.alloc (.cells #[.int .i64 x.col, .int .i64 x.rep, .int .i64 x.de, .bool x.null, .int .i64 x.kind, .int .i64 x.num, .string x.text] 39)).alloc (.cells #[.int .i64 y.col, .int .i64 y.rep, .int .i64 y.de, .bool y.null, .int .i64 y.kind, .int .i64 y.num, .string y.text] 39)) = w5 at *
  have HS : Hid (∀ W, Below w5.heap.size w5 W → (W.cell? ⟨w.heap.size, 0, none⟩ = some (.int .i64 x.col) ∧ W.cell? ⟨w.heap.size, 1, none⟩ = some (.int .i64 x.rep) ∧ W.cell? ⟨w.heap.size, 2, none⟩ = some (.int .i64 x.de) ∧ W.cell? ⟨w.heap.size, 3, none⟩ = some (.bool x.null) ∧ W.cell? ⟨w.heap.size, 4, none⟩ = some (.int .i64 x.kind) ∧ W.cell? ⟨w.heap.size, 5, none⟩ = some (.int .i64 x.num) ∧ W.cell? ⟨w.heap.size, 6, none⟩ = some (.string x.text) ∧ W.cell? ⟨w.heap.size + 1, 0, none⟩ = some (.int .i64 y.col) ∧ W.cell? ⟨w.heap.size + 1, 1, none⟩ = some (.int .i64 y.rep) ∧ W.cell? ⟨w.heap.size + 1, 2, none⟩ = some (.int .i64 y.de) ∧ W.cell? ⟨w.heap.size + 1, 3, none⟩ = some (.bool y.null) ∧ W.cell? ⟨w.heap.size + 1, 4, none⟩ = some (.int .i64 y.kind) ∧ W.cell? ⟨w.heap.size + 1, 5, none⟩ = some (.int .i64 y.num) ∧ W.cell? ⟨w.heap.size + 1, 6, none⟩ = some (.string y.text))) := Lib.hid fun W hW => by
    obtain ⟨c0, c1, c2, c3, c4, c5, c6⟩ := (rp.keep hW rp.lt).c7
    obtain ⟨d0, d1, d2, d3, d4, d5, d6⟩ := (rq.keep hW rq.lt).c7
    exact ⟨c0, c1, c2, c3, c4, c5, c6, d0, d1, d2, d3, d4, d5, d6⟩
  have HB5 := Lib.hid hb5
  clear rp rq hb5
  refine Upto.region (m := 11) (S := (fun w' => w'.cell? ⟨w.heap.size, 0, none⟩ = some (.int .i64 x.col) ∧ w'.cell? ⟨w.heap.size, 1, none⟩ = some (.int .i64 x.rep) ∧ w'.cell? ⟨w.heap.size, 2, none⟩ = some (.int .i64 x.de) ∧ w'.cell? ⟨w.heap.size, 3, none⟩ = some (.bool x.null) ∧ w'.cell? ⟨w.heap.size, 4, none⟩ = some (.int .i64 x.kind) ∧ w'.cell? ⟨w.heap.size, 5, none⟩ = some (.int .i64 x.num) ∧ w'.cell? ⟨w.heap.size, 6, none⟩ = some (.string x.text) ∧ w'.cell? ⟨w.heap.size + 1, 0, none⟩ = some (.int .i64 y.col) ∧ w'.cell? ⟨w.heap.size + 1, 1, none⟩ = some (.int .i64 y.rep) ∧ w'.cell? ⟨w.heap.size + 1, 2, none⟩ = some (.int .i64 y.de) ∧ w'.cell? ⟨w.heap.size + 1, 3, none⟩ = some (.bool y.null) ∧ w'.cell? ⟨w.heap.size + 1, 4, none⟩ = some (.int .i64 y.kind) ∧ w'.cell? ⟨w.heap.size + 1, 5, none⟩ = some (.int .i64 y.num) ∧ w'.cell? ⟨w.heap.size + 1, 6, none⟩ = some (.string y.text))) (by kernel_rfl) ?_ (fun hHeld => ?_)
  · exact HS.out _ (Below.refl _ w5).drew
  refine Upto.take (i := 0) (v := ?_) at0 (by kernel_rfl) (by kernel_rfl) (by kernel_rfl) (by kernel_rfl) (fun _ _ _ h => h) (by rfl) ?_ hHeld ?_
  rotate_left
  · intro wS hSw
    try dsimp only at hSw
    go_simp
    try with_reducible rfl
  try simp only [Act.put, List.setIfInBounds_toArray, List.set_cons_zero, List.set_cons_succ]
  refine Upto.take (i := 5) (v := ?_) at5 (by kernel_rfl) (by kernel_rfl) (by kernel_rfl) (by kernel_rfl) (fun _ _ _ h => h) (by rfl) ?_ hHeld ?_
  rotate_left
  · intro wS hSw
    try dsimp only at hSw
    go_simp
    try with_reducible rfl
  try simp only [Act.put, List.setIfInBounds_toArray, List.set_cons_zero, List.set_cons_succ]
  have hd : Below w5.heap.size w5 w5.drew := (Below.refl _ w5).drew
  clear hd
  refine Upto.two (i := 1) (k := 6) (by kernel_rfl) at1 at6 (fun K' hK => ?_) (fun K' hK => ?_)
  · go_simp
    obtain ⟨w6, hw6⟩ : ∃ w6, w6 = (w5.alloc (.cells #[.int .i64 x.col, .int .i64 x.rep, .int .i64 x.de, .bool x.null, .int .i64 x.kind, .int .i64 x.num, .string x.text] 39)).drew := ⟨_, rfl⟩
    have rx : RowB w6 w5.heap.size 39 #[.int .i64 x.col, .int .i64 x.rep, .int .i64 x.de, .bool x.null, .int .i64 x.kind, .int .i64 x.num, .string x.text] := by rw [hw6]; exact (RowB.new w5 39 _).of_eq rfl
    have hbp : Below w5.heap.size w5 w6 := by rw [hw6]; exact ((Below.refl _ _).alloc (Nat.le_refl _) _).drew
    rw [← hw6]
    have HB6 := Lib.hid hbp
    clear hbp hw6
    refine hK.out _ _ (.inr (HS.out _ HB6.out)) (fun _ => ?_)
    clear hK K'
    replace hHeld := HS.out _ HB6.out
    try simp only [Act.put, List.setIfInBounds_toArray, List.set_cons_zero, List.set_cons_succ]
    refine Upto.two (i := 2) (k := 6) (by kernel_rfl) at2 at6 (fun K' hK => ?_) (fun K' hK => ?_)
    · go_simp
      go_at_call 53
      refine (row53_one x HGX.out _ w6 rx).mono ?_
      rintro e w7 ⟨g, o, c, D, dn, dc, u, rfl, hv, hbc⟩
      try go_wp2_with fail
      have HBn := Lib.hid (HB6.out.trans (hbc.mono HB6.out.size))
      have HB7 := HBn
      have V1a := Lib.hid hv
      clear hbc hv
      refine hK.out _ _ (.inr (HS.out _ HB7.out)) (fun _ => ?_)
      clear hK K'
      replace hHeld := HS.out _ HB7.out
      try simp only [Act.put, List.setIfInBounds_toArray, List.set_cons_zero, List.set_cons_succ]
      refine Upto.take (i := 3) (v := ?_) at3 (by kernel_rfl) (by kernel_rfl) (by kernel_rfl) (by kernel_rfl) (fun _ _ _ h => h) (by rfl) ?_ hHeld ?_
      rotate_left
      · intro wS hSw
        try dsimp only at hSw
        go_simp
        try with_reducible rfl
      try simp only [Act.put, List.setIfInBounds_toArray, List.set_cons_zero, List.set_cons_succ]
      refine Upto.weak (S' := (fun w' => (w'.cell? ⟨w.heap.size, 0, none⟩ = some (.int .i64 x.col) ∧ w'.cell? ⟨w.heap.size, 1, none⟩ = some (.int .i64 x.rep) ∧ w'.cell? ⟨w.heap.size, 2, none⟩ = some (.int .i64 x.de) ∧ w'.cell? ⟨w.heap.size, 3, none⟩ = some (.bool x.null) ∧ w'.cell? ⟨w.heap.size, 4, none⟩ = some (.int .i64 x.kind) ∧ w'.cell? ⟨w.heap.size, 5, none⟩ = some (.int .i64 x.num) ∧ w'.cell? ⟨w.heap.size, 6, none⟩ = some (.string x.text) ∧ w'.cell? ⟨w.heap.size + 1, 0, none⟩ = some (.int .i64 y.col) ∧ w'.cell? ⟨w.heap.size + 1, 1, none⟩ = some (.int .i64 y.rep) ∧ w'.cell? ⟨w.heap.size + 1, 2, none⟩ = some (.int .i64 y.de) ∧ w'.cell? ⟨w.heap.size + 1, 3, none⟩ = some (.bool y.null) ∧ w'.cell? ⟨w.heap.size + 1, 4, none⟩ = some (.int .i64 y.kind) ∧ w'.cell? ⟨w.heap.size + 1, 5, none⟩ = some (.int .i64 y.num) ∧ w'.cell? ⟨w.heap.size + 1, 6, none⟩ = some (.string y.text)) ∧ (w'.cell? ⟨g, o, none⟩ = some (.slice D dn dc) ∧ w'.cell? ⟨g, o + 1, none⟩ = some (.int .u64 u) ∧ w'.cell? ⟨g, o + 2, none⟩ = some (.int .i8 (kdOf x.null x.kind)) ∧ w'.cell? ⟨g, o + 3, none⟩ = some (.int .u8 x.de) ∧ w'.cell? ⟨g, o + 4, none⟩ = some (.int .u8 x.rep) ∧ w'.cell? ⟨g, o + 5, none⟩ = some (.int .u16 (65535 - x.col))))) (fun _ h => h.1) _ _ _ _ ?_
      have HS1 : Hid (∀ W, Below w7.heap.size w7 W → ((W.cell? ⟨w.heap.size, 0, none⟩ = some (.int .i64 x.col) ∧ W.cell? ⟨w.heap.size, 1, none⟩ = some (.int .i64 x.rep) ∧ W.cell? ⟨w.heap.size, 2, none⟩ = some (.int .i64 x.de) ∧ W.cell? ⟨w.heap.size, 3, none⟩ = some (.bool x.null) ∧ W.cell? ⟨w.heap.size, 4, none⟩ = some (.int .i64 x.kind) ∧ W.cell? ⟨w.heap.size, 5, none⟩ = some (.int .i64 x.num) ∧ W.cell? ⟨w.heap.size, 6, none⟩ = some (.string x.text) ∧ W.cell? ⟨w.heap.size + 1, 0, none⟩ = some (.int .i64 y.col) ∧ W.cell? ⟨w.heap.size + 1, 1, none⟩ = some (.int .i64 y.rep) ∧ W.cell? ⟨w.heap.size + 1, 2, none⟩ = some (.int .i64 y.de) ∧ W.cell? ⟨w.heap.size + 1, 3, none⟩ = some (.bool y.null) ∧ W.cell? ⟨w.heap.size + 1, 4, none⟩ = some (.int .i64 y.kind) ∧ W.cell? ⟨w.heap.size + 1, 5, none⟩ = some (.int .i64 y.num) ∧ W.cell? ⟨w.heap.size + 1, 6, none⟩ = some (.string y.text)) ∧ (W.cell? ⟨g, o, none⟩ = some (.slice D dn dc) ∧ W.cell? ⟨g, o + 1, none⟩ = some (.int .u64 u) ∧ W.cell? ⟨g, o + 2, none⟩ = some (.int .i8 (kdOf x.null x.kind)) ∧ W.cell? ⟨g, o + 3, none⟩ = some (.int .u8 x.de) ∧ W.cell? ⟨g, o + 4, none⟩ = some (.int .u8 x.rep) ∧ W.cell? ⟨g, o + 5, none⟩ = some (.int .u16 (65535 - x.col))))) := Lib.hid fun W hW => ⟨HS.out _ (HBn.out.trans (hW.mono HBn.out.size)), (V1a.out.keep hW).c0, (V1a.out.keep hW).c1, (V1a.out.keep hW).c2, (V1a.out.keep hW).c3, (V1a.out.keep hW).c4, (V1a.out.keep hW).c5⟩
      replace hHeld := HS1.out w7 (Below.refl _ _)
      refine Upto.take (i := 4) (v := ?_) at4 (by kernel_rfl) (by kernel_rfl) (by kernel_rfl) (by kernel_rfl) (fun _ _ _ h => h) (by rfl) ?_ hHeld ?_
      rotate_left
      · intro wS hSw
        try dsimp only at hSw
        go_simp
        try with_reducible rfl
      try simp only [Act.put, List.setIfInBounds_toArray, List.set_cons_zero, List.set_cons_succ]
      refine Upto.step (i := 6) (by kernel_rfl) at6 (fun K' hK => ?_)
      go_simp
      obtain ⟨w8, hw8⟩ : ∃ w8, w8 = w7.alloc (.cells #[.int .i64 y.col, .int .i64 y.rep, .int .i64 y.de, .bool y.null, .int .i64 y.kind, .int .i64 y.num, .string y.text] 39) := ⟨_, rfl⟩
      have ry : RowB w8 w7.heap.size 39 #[.int .i64 y.col, .int .i64 y.rep, .int .i64 y.de, .bool y.null, .int .i64 y.kind, .int .i64 y.num, .string y.text] := by rw [hw8]; exact RowB.new _ _ _
      have hbp : Below w7.heap.size w7 w8 := by rw [hw8]; exact (Below.refl _ _).alloc (Nat.le_refl _) _
      rw [← hw8]
      have HB8 := Lib.hid (HB7.out.trans (hbp.mono HB7.out.size))
      have H78 := Lib.hid hbp
      clear hbp hw8
      refine hK.out _ _ (.inr (HS1.out _ H78.out)) (fun _ => ?_)
      clear hK K'
      replace hHeld := HS1.out _ H78.out
      try simp only [Act.put, List.setIfInBounds_toArray, List.set_cons_zero, List.set_cons_succ]
      refine Upto.step (i := 7) (by kernel_rfl) at7 (fun K' hK => ?_)
      go_simp
      go_at_call 53
      refine (row53_one y HGY.out _ w8 ry).mono ?_
      rintro e w9 ⟨g2, o2, c2, D2, dn2, dc2, u2, rfl, hv2, hbc⟩
      try go_wp2_with fail
      have HB9 := Lib.hid (HB8.out.trans (hbc.mono HB8.out.size))
      have H79 := Lib.hid (H78.out.trans (hbc.mono H78.out.size))
      have V2 := Lib.hid hv2
      clear hbc hv2
      refine hK.out _ _ (.inr (HS1.out _ H79.out)) (fun _ => ?_)
      clear hK K'
      replace hHeld := HS1.out _ H79.out
      try simp only [Act.put, List.setIfInBounds_toArray, List.set_cons_zero, List.set_cons_succ]
      have V1 := Lib.hid (V1a.out.keep H79.out)
      refine Upto.take (i := 8) (v := ?_) at8 (by kernel_rfl) (by kernel_rfl) (by kernel_rfl) (by kernel_rfl) (fun _ _ _ h => h) (by rfl) ?_ hHeld ?_
      rotate_left
      · intro wS hSw
        try dsimp only at hSw
        go_simp
        try with_reducible rfl
      try simp only [Act.put, List.setIfInBounds_toArray, List.set_cons_zero, List.set_cons_succ]
      refine Upto.weak (S' := (fun w' => ((w'.cell? ⟨w.heap.size, 0, none⟩ = some (.int .i64 x.col) ∧ w'.cell? ⟨w.heap.size, 1, none⟩ = some (.int .i64 x.rep) ∧ w'.cell? ⟨w.heap.size, 2, none⟩ = some (.int .i64 x.de) ∧ w'.cell? ⟨w.heap.size, 3, none⟩ = some (.bool x.null) ∧ w'.cell? ⟨w.heap.size, 4, none⟩ = some (.int .i64 x.kind) ∧ w'.cell? ⟨w.heap.size, 5, none⟩ = some (.int .i64 x.num) ∧ w'.cell? ⟨w.heap.size, 6, none⟩ = some (.string x.text) ∧ w'.cell? ⟨w.heap.size + 1, 0, none⟩ = some (.int .i64 y.col) ∧ w'.cell? ⟨w.heap.size + 1, 1, none⟩ = some (.int .i64 y.rep) ∧ w'.cell? ⟨w.heap.size + 1, 2, none⟩ = some (.int .i64 y.de) ∧ w'.cell? ⟨w.heap.size + 1, 3, none⟩ = some (.bool y.null) ∧ w'.cell? ⟨w.heap.size + 1, 4, none⟩ = some (.int .i64 y.kind) ∧ w'.cell? ⟨w.heap.size + 1, 5, none⟩ = some (.int .i64 y.num) ∧ w'.cell? ⟨w.heap.size + 1, 6, none⟩ = some (.string y.text)) ∧ (w'.cell? ⟨g, o, none⟩ = some (.slice D dn dc) ∧ w'.cell? ⟨g, o + 1, none⟩ = some (.int .u64 u) ∧ w'.cell? ⟨g, o + 2, none⟩ = some (.int .i8 (kdOf x.null x.kind)) ∧ w'.cell? ⟨g, o + 3, none⟩ = some (.int .u8 x.de) ∧ w'.cell? ⟨g, o + 4, none⟩ = some (.int .u8 x.rep) ∧ w'.cell? ⟨g, o + 5, none⟩ = some (.int .u16 (65535 - x.col)))) ∧ (w'.cell? ⟨g2, o2, none⟩ = some (.slice D2 dn2 dc2) ∧ w'.cell? ⟨g2, o2 + 1, none⟩ = some (.int .u64 u2) ∧ w'.cell? ⟨g2, o2 + 2, none⟩ = some (.int .i8 (kdOf y.null y.kind)) ∧ w'.cell? ⟨g2, o2 + 3, none⟩ = some (.int .u8 y.de) ∧ w'.cell? ⟨g2, o2 + 4, none⟩ = some (.int .u8 y.rep) ∧ w'.cell? ⟨g2, o2 + 5, none⟩ = some (.int .u16 (65535 - y.col))))) (fun _ h => h.1) _ _ _ _ ?_
      have hHeld : ((w9.cell? ⟨w.heap.size, 0, none⟩ = some (.int .i64 x.col) ∧ w9.cell? ⟨w.heap.size, 1, none⟩ = some (.int .i64 x.rep) ∧ w9.cell? ⟨w.heap.size, 2, none⟩ = some (.int .i64 x.de) ∧ w9.cell? ⟨w.heap.size, 3, none⟩ = some (.bool x.null) ∧ w9.cell? ⟨w.heap.size, 4, none⟩ = some (.int .i64 x.kind) ∧ w9.cell? ⟨w.heap.size, 5, none⟩ = some (.int .i64 x.num) ∧ w9.cell? ⟨w.heap.size, 6, none⟩ = some (.string x.text) ∧ w9.cell? ⟨w.heap.size + 1, 0, none⟩ = some (.int .i64 y.col) ∧ w9.cell? ⟨w.heap.size + 1, 1, none⟩ = some (.int .i64 y.rep) ∧ w9.cell? ⟨w.heap.size + 1, 2, none⟩ = some (.int .i64 y.de) ∧ w9.cell? ⟨w.heap.size + 1, 3, none⟩ = some (.bool y.null) ∧ w9.cell? ⟨w.heap.size + 1, 4, none⟩ = some (.int .i64 y.kind) ∧ w9.cell? ⟨w.heap.size + 1, 5, none⟩ = some (.int .i64 y.num) ∧ w9.cell? ⟨w.heap.size + 1, 6, none⟩ = some (.string y.text)) ∧ (w9.cell? ⟨g, o, none⟩ = some (.slice D dn dc) ∧ w9.cell? ⟨g, o + 1, none⟩ = some (.int .u64 u) ∧ w9.cell? ⟨g, o + 2, none⟩ = some (.int .i8 (kdOf x.null x.kind)) ∧ w9.cell? ⟨g, o + 3, none⟩ = some (.int .u8 x.de) ∧ w9.cell? ⟨g, o + 4, none⟩ = some (.int .u8 x.rep) ∧ w9.cell? ⟨g, o + 5, none⟩ = some (.int .u16 (65535 - x.col)))) ∧ (w9.cell? ⟨g2, o2, none⟩ = some (.slice D2 dn2 dc2) ∧ w9.cell? ⟨g2, o2 + 1, none⟩ = some (.int .u64 u2) ∧ w9.cell? ⟨g2, o2 + 2, none⟩ = some (.int .i8 (kdOf y.null y.kind)) ∧ w9.cell? ⟨g2, o2 + 3, none⟩ = some (.int .u8 y.de) ∧ w9.cell? ⟨g2, o2 + 4, none⟩ = some (.int .u8 y.rep) ∧ w9.cell? ⟨g2, o2 + 5, none⟩ = some (.int .u16 (65535 - y.col))) := ⟨HS1.out _ H79.out, V2.out.c0, V2.out.c1, V2.out.c2, V2.out.c3, V2.out.c4, V2.out.c5⟩
      refine Upto.take (i := 9) (v := ?_) at9 (by kernel_rfl) (by kernel_rfl) (by kernel_rfl) (by kernel_rfl) (fun _ _ _ h => h) (by rfl) ?_ hHeld ?_
      rotate_left
      · intro wS hSw
        try dsimp only at hSw
        go_simp
        try with_reducible rfl
      try simp only [Act.put, List.setIfInBounds_toArray, List.set_cons_zero, List.set_cons_succ]
      refine Upto.step (i := 10) (by kernel_rfl) at10 (fun K' hK => ?_)
      go_simp
      go_at_call 67
      refine (equal67 x y HGX.out HGY.out _ _ _ _ D D2 dn dc dn2 dc2 u u2 _ _ _ _ _ _ w9 V1.out.vr V2.out.vr (Nat.le_refl _) (Nat.le_refl _)).mono ?_
      rintro e wz ⟨rfl, hbz⟩
      have HBZ := Lib.hid (HB9.out.trans (hbz.mono HB9.out.size))
      have H7Z := Lib.hid (H79.out.trans (hbz.mono H79.out.size))
      have V2Z := Lib.hid (V2.out.keep hbz)
      clear hbz
      try go_wp2_with fail
      refine hK.out _ _ (.inr ⟨HS1.out _ H7Z.out, V2Z.out.c0, V2Z.out.c1, V2Z.out.c2, V2Z.out.c3, V2Z.out.c4, V2Z.out.c5⟩) (fun _ => ?_)
      clear hK K'
      try simp only [Act.put, List.setIfInBounds_toArray, List.set_cons_zero, List.set_cons_succ]
      refine Upto.step (i := 11) (by kernel_rfl) at11 (fun K' hK => ?_)
      go_simp
      refine hK.out _ _ (.inl rfl) (fun _ => ?_)
      clear hK K'
      try simp only [Act.put, List.setIfInBounds_toArray, List.set_cons_zero, List.set_cons_succ]
      refine Upto.done (by kernel_rfl) ?_ _
      go_wp2_with fail
      go_ret
      exact ⟨rfl, HB5.out.trans (HBZ.out.mono HB5.out.size)⟩
    · go_simp
      obtain ⟨w7, hw7⟩ : ∃ w7, w7 = w6.alloc (.cells #[.int .i64 y.col, .int .i64 y.rep, .int .i64 y.de, .bool y.null, .int .i64 y.kind, .int .i64 y.num, .string y.text] 39) := ⟨_, rfl⟩
      have ry : RowB w7 w6.heap.size 39 #[.int .i64 y.col, .int .i64 y.rep, .int .i64 y.de, .bool y.null, .int .i64 y.kind, .int .i64 y.num, .string y.text] := by rw [hw7]; exact RowB.new _ _ _
      have hbp : Below w6.heap.size w6 w7 := by rw [hw7]; exact (Below.refl _ _).alloc (Nat.le_refl _) _
      rw [← hw7]
      have HB7 := Lib.hid (HB6.out.trans (hbp.mono HB6.out.size))
      replace rx := rx.keep hbp rx.lt
      clear hbp hw7
      refine hK.out _ _ (.inr (HS.out _ HB7.out)) (fun _ => ?_)
      clear hK K'
      replace hHeld := HS.out _ HB7.out
      try simp only [Act.put, List.setIfInBounds_toArray, List.set_cons_zero, List.set_cons_succ]
      refine Upto.step (i := 2) (by kernel_rfl) at2 (fun K' hK => ?_)
      go_simp
      go_at_call 53
      refine (row53_one x HGX.out _ w7 rx).mono ?_
      rintro e w8 ⟨g, o, c, D, dn, dc, u, rfl, hv, hbc⟩
      try go_wp2_with fail
      have HBn := Lib.hid (HB7.out.trans (hbc.mono HB7.out.size))
      have HB8 := HBn
      have V1a := Lib.hid hv
      replace ry := ry.keep hbc ry.lt
      clear hbc hv
      refine hK.out _ _ (.inr (HS.out _ HB8.out)) (fun _ => ?_)
      clear hK K'
      replace hHeld := HS.out _ HB8.out
      try simp only [Act.put, List.setIfInBounds_toArray, List.set_cons_zero, List.set_cons_succ]
      refine Upto.take (i := 3) (v := ?_) at3 (by kernel_rfl) (by kernel_rfl) (by kernel_rfl) (by kernel_rfl) (fun _ _ _ h => h) (by rfl) ?_ hHeld ?_
      rotate_left
      · intro wS hSw
        try dsimp only at hSw
        go_simp
        try with_reducible rfl
      try simp only [Act.put, List.setIfInBounds_toArray, List.set_cons_zero, List.set_cons_succ]
      refine Upto.weak (S' := (fun w' => (w'.cell? ⟨w.heap.size, 0, none⟩ = some (.int .i64 x.col) ∧ w'.cell? ⟨w.heap.size, 1, none⟩ = some (.int .i64 x.rep) ∧ w'.cell? ⟨w.heap.size, 2, none⟩ = some (.int .i64 x.de) ∧ w'.cell? ⟨w.heap.size, 3, none⟩ = some (.bool x.null) ∧ w'.cell? ⟨w.heap.size, 4, none⟩ = some (.int .i64 x.kind) ∧ w'.cell? ⟨w.heap.size, 5, none⟩ = some (.int .i64 x.num) ∧ w'.cell? ⟨w.heap.size, 6, none⟩ = some (.string x.text) ∧ w'.cell? ⟨w.heap.size + 1, 0, none⟩ = some (.int .i64 y.col) ∧ w'.cell? ⟨w.heap.size + 1, 1, none⟩ = some (.int .i64 y.rep) ∧ w'.cell? ⟨w.heap.size + 1, 2, none⟩ = some (.int .i64 y.de) ∧ w'.cell? ⟨w.heap.size + 1, 3, none⟩ = some (.bool y.null) ∧ w'.cell? ⟨w.heap.size + 1, 4, none⟩ = some (.int .i64 y.kind) ∧ w'.cell? ⟨w.heap.size + 1, 5, none⟩ = some (.int .i64 y.num) ∧ w'.cell? ⟨w.heap.size + 1, 6, none⟩ = some (.string y.text)) ∧ (w'.cell? ⟨g, o, none⟩ = some (.slice D dn dc) ∧ w'.cell? ⟨g, o + 1, none⟩ = some (.int .u64 u) ∧ w'.cell? ⟨g, o + 2, none⟩ = some (.int .i8 (kdOf x.null x.kind)) ∧ w'.cell? ⟨g, o + 3, none⟩ = some (.int .u8 x.de) ∧ w'.cell? ⟨g, o + 4, none⟩ = some (.int .u8 x.rep) ∧ w'.cell? ⟨g, o + 5, none⟩ = some (.int .u16 (65535 - x.col))))) (fun _ h => h.1) _ _ _ _ ?_
      have HS1 : Hid (∀ W, Below w8.heap.size w8 W → ((W.cell? ⟨w.heap.size, 0, none⟩ = some (.int .i64 x.col) ∧ W.cell? ⟨w.heap.size, 1, none⟩ = some (.int .i64 x.rep) ∧ W.cell? ⟨w.heap.size, 2, none⟩ = some (.int .i64 x.de) ∧ W.cell? ⟨w.heap.size, 3, none⟩ = some (.bool x.null) ∧ W.cell? ⟨w.heap.size, 4, none⟩ = some (.int .i64 x.kind) ∧ W.cell? ⟨w.heap.size, 5, none⟩ = some (.int .i64 x.num) ∧ W.cell? ⟨w.heap.size, 6, none⟩ = some (.string x.text) ∧ W.cell? ⟨w.heap.size + 1, 0, none⟩ = some (.int .i64 y.col) ∧ W.cell? ⟨w.heap.size + 1, 1, none⟩ = some (.int .i64 y.rep) ∧ W.cell? ⟨w.heap.size + 1, 2, none⟩ = some (.int .i64 y.de) ∧ W.cell? ⟨w.heap.size + 1, 3, none⟩ = some (.bool y.null) ∧ W.cell? ⟨w.heap.size + 1, 4, none⟩ = some (.int .i64 y.kind) ∧ W.cell? ⟨w.heap.size + 1, 5, none⟩ = some (.int .i64 y.num) ∧ W.cell? ⟨w.heap.size + 1, 6, none⟩ = some (.string y.text)) ∧ (W.cell? ⟨g, o, none⟩ = some (.slice D dn dc) ∧ W.cell? ⟨g, o + 1, none⟩ = some (.int .u64 u) ∧ W.cell? ⟨g, o + 2, none⟩ = some (.int .i8 (kdOf x.null x.kind)) ∧ W.cell? ⟨g, o + 3, none⟩ = some (.int .u8 x.de) ∧ W.cell? ⟨g, o + 4, none⟩ = some (.int .u8 x.rep) ∧ W.cell? ⟨g, o + 5, none⟩ = some (.int .u16 (65535 - x.col))))) := Lib.hid fun W hW => ⟨HS.out _ (HBn.out.trans (hW.mono HBn.out.size)), (V1a.out.keep hW).c0, (V1a.out.keep hW).c1, (V1a.out.keep hW).c2, (V1a.out.keep hW).c3, (V1a.out.keep hW).c4, (V1a.out.keep hW).c5⟩
      replace hHeld := HS1.out w8 (Below.refl _ _)
      refine Upto.take (i := 4) (v := ?_) at4 (by kernel_rfl) (by kernel_rfl) (by kernel_rfl) (by kernel_rfl) (fun _ _ _ h => h) (by rfl) ?_ hHeld ?_
      rotate_left
      · intro wS hSw
        try dsimp only at hSw
        go_simp
        try with_reducible rfl
      try simp only [Act.put, List.setIfInBounds_toArray, List.set_cons_zero, List.set_cons_succ]
      refine Upto.step (i := 7) (by kernel_rfl) at7 (fun K' hK => ?_)
      go_simp
      go_at_call 53
      refine (row53_one y HGY.out _ w8 ry).mono ?_
      rintro e w9 ⟨g2, o2, c2, D2, dn2, dc2, u2, rfl, hv2, hbc⟩
      try go_wp2_with fail
      have HB9 := Lib.hid (HB8.out.trans (hbc.mono HB8.out.size))
      have H79 := Lib.hid hbc
      have V2 := Lib.hid hv2
      clear hbc hv2
      refine hK.out _ _ (.inr (HS1.out _ H79.out)) (fun _ => ?_)
      clear hK K'
      replace hHeld := HS1.out _ H79.out
      try simp only [Act.put, List.setIfInBounds_toArray, List.set_cons_zero, List.set_cons_succ]
      have V1 := Lib.hid (V1a.out.keep H79.out)
      refine Upto.take (i := 8) (v := ?_) at8 (by kernel_rfl) (by kernel_rfl) (by kernel_rfl) (by kernel_rfl) (fun _ _ _ h => h) (by rfl) ?_ hHeld ?_
      rotate_left
      · intro wS hSw
        try dsimp only at hSw
        go_simp
        try with_reducible rfl
      try simp only [Act.put, List.setIfInBounds_toArray, List.set_cons_zero, List.set_cons_succ]
      refine Upto.weak (S' := (fun w' => ((w'.cell? ⟨w.heap.size, 0, none⟩ = some (.int .i64 x.col) ∧ w'.cell? ⟨w.heap.size, 1, none⟩ = some (.int .i64 x.rep) ∧ w'.cell? ⟨w.heap.size, 2, none⟩ = some (.int .i64 x.de) ∧ w'.cell? ⟨w.heap.size, 3, none⟩ = some (.bool x.null) ∧ w'.cell? ⟨w.heap.size, 4, none⟩ = some (.int .i64 x.kind) ∧ w'.cell? ⟨w.heap.size, 5, none⟩ = some (.int .i64 x.num) ∧ w'.cell? ⟨w.heap.size, 6, none⟩ = some (.string x.text) ∧ w'.cell? ⟨w.heap.size + 1, 0, none⟩ = some (.int .i64 y.col) ∧ w'.cell? ⟨w.heap.size + 1, 1, none⟩ = some (.int .i64 y.rep) ∧ w'.cell? ⟨w.heap.size + 1, 2, none⟩ = some (.int .i64 y.de) ∧ w'.cell? ⟨w.heap.size + 1, 3, none⟩ = some (.bool y.null) ∧ w'.cell? ⟨w.heap.size + 1, 4, none⟩ = some (.int .i64 y.kind) ∧ w'.cell? ⟨w.heap.size + 1, 5, none⟩ = some (.int .i64 y.num) ∧ w'.cell? ⟨w.heap.size + 1, 6, none⟩ = some (.string y.text)) ∧ (w'.cell? ⟨g, o, none⟩ = some (.slice D dn dc) ∧ w'.cell? ⟨g, o + 1, none⟩ = some (.int .u64 u) ∧ w'.cell? ⟨g, o + 2, none⟩ = some (.int .i8 (kdOf x.null x.kind)) ∧ w'.cell? ⟨g, o + 3, none⟩ = some (.int .u8 x.de) ∧ w'.cell? ⟨g, o + 4, none⟩ = some (.int .u8 x.rep) ∧ w'.cell? ⟨g, o + 5, none⟩ = some (.int .u16 (65535 - x.col)))) ∧ (w'.cell? ⟨g2, o2, none⟩ = some (.slice D2 dn2 dc2) ∧ w'.cell? ⟨g2, o2 + 1, none⟩ = some (.int .u64 u2) ∧ w'.cell? ⟨g2, o2 + 2, none⟩ = some (.int .i8 (kdOf y.null y.kind)) ∧ w'.cell? ⟨g2, o2 + 3, none⟩ = some (.int .u8 y.de) ∧ w'.cell? ⟨g2, o2 + 4, none⟩ = some (.int .u8 y.rep) ∧ w'.cell? ⟨g2, o2 + 5, none⟩ = some (.int .u16 (65535 - y.col))))) (fun _ h => h.1) _ _ _ _ ?_
      have hHeld : ((w9.cell? ⟨w.heap.size, 0, none⟩ = some (.int .i64 x.col) ∧ w9.cell? ⟨w.heap.size, 1, none⟩ = some (.int .i64 x.rep) ∧ w9.cell? ⟨w.heap.size, 2, none⟩ = some (.int .i64 x.de) ∧ w9.cell? ⟨w.heap.size, 3, none⟩ = some (.bool x.null) ∧ w9.cell? ⟨w.heap.size, 4, none⟩ = some (.int .i64 x.kind) ∧ w9.cell? ⟨w.heap.size, 5, none⟩ = some (.int .i64 x.num) ∧ w9.cell? ⟨w.heap.size, 6, none⟩ = some (.string x.text) ∧ w9.cell? ⟨w.heap.size + 1, 0, none⟩ = some (.int .i64 y.col) ∧ w9.cell? ⟨w.heap.size + 1, 1, none⟩ = some (.int .i64 y.rep) ∧ w9.cell? ⟨w.heap.size + 1, 2, none⟩ = some (.int .i64 y.de) ∧ w9.cell? ⟨w.heap.size + 1, 3, none⟩ = some (.bool y.null) ∧ w9.cell? ⟨w.heap.size + 1, 4, none⟩ = some (.int .i64 y.kind) ∧ w9.cell? ⟨w.heap.size + 1, 5, none⟩ = some (.int .i64 y.num) ∧ w9.cell? ⟨w.heap.size + 1, 6, none⟩ = some (.string y.text)) ∧ (w9.cell? ⟨g, o, none⟩ = some (.slice D dn dc) ∧ w9.cell? ⟨g, o + 1, none⟩ = some (.int .u64 u) ∧ w9.cell? ⟨g, o + 2, none⟩ = some (.int .i8 (kdOf x.null x.kind)) ∧ w9.cell? ⟨g, o + 3, none⟩ = some (.int .u8 x.de) ∧ w9.cell? ⟨g, o + 4, none⟩ = some (.int .u8 x.rep) ∧ w9.cell? ⟨g, o + 5, none⟩ = some (.int .u16 (65535 - x.col)))) ∧ (w9.cell? ⟨g2, o2, none⟩ = some (.slice D2 dn2 dc2) ∧ w9.cell? ⟨g2, o2 + 1, none⟩ = some (.int .u64 u2) ∧ w9.cell? ⟨g2, o2 + 2, none⟩ = some (.int .i8 (kdOf y.null y.kind)) ∧ w9.cell? ⟨g2, o2 + 3, none⟩ = some (.int .u8 y.de) ∧ w9.cell? ⟨g2, o2 + 4, none⟩ = some (.int .u8 y.rep) ∧ w9.cell? ⟨g2, o2 + 5, none⟩ = some (.int .u16 (65535 - y.col))) := ⟨HS1.out _ H79.out, V2.out.c0, V2.out.c1, V2.out.c2, V2.out.c3, V2.out.c4, V2.out.c5⟩
      refine Upto.take (i := 9) (v := ?_) at9 (by kernel_rfl) (by kernel_rfl) (by kernel_rfl) (by kernel_rfl) (fun _ _ _ h => h) (by rfl) ?_ hHeld ?_
      rotate_left
      · intro wS hSw
        try dsimp only at hSw
        go_simp
        try with_reducible rfl
      try simp only [Act.put, List.setIfInBounds_toArray, List.set_cons_zero, List.set_cons_succ]
      refine Upto.step (i := 10) (by kernel_rfl) at10 (fun K' hK => ?_)
      go_simp
      go_at_call 67
      refine (equal67 x y HGX.out HGY.out _ _ _ _ D D2 dn dc dn2 dc2 u u2 _ _ _ _ _ _ w9 V1.out.vr V2.out.vr (Nat.le_refl _) (Nat.le_refl _)).mono ?_
      rintro e wz ⟨rfl, hbz⟩
      have HBZ := Lib.hid (HB9.out.trans (hbz.mono HB9.out.size))
      have H7Z := Lib.hid (H79.out.trans (hbz.mono H79.out.size))
      have V2Z := Lib.hid (V2.out.keep hbz)
      clear hbz
      try go_wp2_with fail
      refine hK.out _ _ (.inr ⟨HS1.out _ H7Z.out, V2Z.out.c0, V2Z.out.c1, V2Z.out.c2, V2Z.out.c3, V2Z.out.c4, V2Z.out.c5⟩) (fun _ => ?_)
      clear hK K'
      try simp only [Act.put, List.setIfInBounds_toArray, List.set_cons_zero, List.set_cons_succ]
      refine Upto.step (i := 11) (by kernel_rfl) at11 (fun K' hK => ?_)
      go_simp
      refine hK.out _ _ (.inl rfl) (fun _ => ?_)
      clear hK K'
      try simp only [Act.put, List.setIfInBounds_toArray, List.set_cons_zero, List.set_cons_succ]
      refine Upto.done (by kernel_rfl) ?_ _
      go_wp2_with fail
      go_ret
      exact ⟨rfl, HB5.out.trans (HBZ.out.mono HB5.out.size)⟩
  · go_simp
    obtain ⟨w6, hw6⟩ : ∃ w6, w6 = (w5.alloc (.cells #[.int .i64 y.col, .int .i64 y.rep, .int .i64 y.de, .bool y.null, .int .i64 y.kind, .int .i64 y.num, .string y.text] 39)).drew := ⟨_, rfl⟩
    have ry : RowB w6 w5.heap.size 39 #[.int .i64 y.col, .int .i64 y.rep, .int .i64 y.de, .bool y.null, .int .i64 y.kind, .int .i64 y.num, .string y.text] := by rw [hw6]; exact (RowB.new w5 39 _).of_eq rfl
    have hbp : Below w5.heap.size w5 w6 := by rw [hw6]; exact ((Below.refl _ _).alloc (Nat.le_refl _) _).drew
    rw [← hw6]
    have HB6 := Lib.hid hbp
    clear hbp hw6
    refine hK.out _ _ (.inr (HS.out _ HB6.out)) (fun _ => ?_)
    clear hK K'
    replace hHeld := HS.out _ HB6.out
    try simp only [Act.put, List.setIfInBounds_toArray, List.set_cons_zero, List.set_cons_succ]
    refine Upto.step (i := 1) (by kernel_rfl) at1 (fun K' hK => ?_)
    go_simp
    obtain ⟨w7, hw7⟩ : ∃ w7, w7 = w6.alloc (.cells #[.int .i64 x.col, .int .i64 x.rep, .int .i64 x.de, .bool x.null, .int .i64 x.kind, .int .i64 x.num, .string x.text] 39) := ⟨_, rfl⟩
    have rx : RowB w7 w6.heap.size 39 #[.int .i64 x.col, .int .i64 x.rep, .int .i64 x.de, .bool x.null, .int .i64 x.kind, .int .i64 x.num, .string x.text] := by rw [hw7]; exact RowB.new _ _ _
    have hbp : Below w6.heap.size w6 w7 := by rw [hw7]; exact (Below.refl _ _).alloc (Nat.le_refl _) _
    rw [← hw7]
    have HB7 := Lib.hid (HB6.out.trans (hbp.mono HB6.out.size))
    replace ry := ry.keep hbp ry.lt
    clear hbp hw7
    refine hK.out _ _ (.inr (HS.out _ HB7.out)) (fun _ => ?_)
    clear hK K'
    replace hHeld := HS.out _ HB7.out
    try simp only [Act.put, List.setIfInBounds_toArray, List.set_cons_zero, List.set_cons_succ]
    refine Upto.step (i := 2) (by kernel_rfl) at2 (fun K' hK => ?_)
    go_simp
    go_at_call 53
    refine (row53_one x HGX.out _ w7 rx).mono ?_
    rintro e w8 ⟨g, o, c, D, dn, dc, u, rfl, hv, hbc⟩
    try go_wp2_with fail
    have HBn := Lib.hid (HB7.out.trans (hbc.mono HB7.out.size))
    have HB8 := HBn
    have V1a := Lib.hid hv
    replace ry := ry.keep hbc ry.lt
    clear hbc hv
    refine hK.out _ _ (.inr (HS.out _ HB8.out)) (fun _ => ?_)
    clear hK K'
    replace hHeld := HS.out _ HB8.out
    try simp only [Act.put, List.setIfInBounds_toArray, List.set_cons_zero, List.set_cons_succ]
    refine Upto.take (i := 3) (v := ?_) at3 (by kernel_rfl) (by kernel_rfl) (by kernel_rfl) (by kernel_rfl) (fun _ _ _ h => h) (by rfl) ?_ hHeld ?_
    rotate_left
    · intro wS hSw
      try dsimp only at hSw
      go_simp
      try with_reducible rfl
    try simp only [Act.put, List.setIfInBounds_toArray, List.set_cons_zero, List.set_cons_succ]
    refine Upto.weak (S' := (fun w' => (w'.cell? ⟨w.heap.size, 0, none⟩ = some (.int .i64 x.col) ∧ w'.cell? ⟨w.heap.size, 1, none⟩ = some (.int .i64 x.rep) ∧ w'.cell? ⟨w.heap.size, 2, none⟩ = some (.int .i64 x.de) ∧ w'.cell? ⟨w.heap.size, 3, none⟩ = some (.bool x.null) ∧ w'.cell? ⟨w.heap.size, 4, none⟩ = some (.int .i64 x.kind) ∧ w'.cell? ⟨w.heap.size, 5, none⟩ = some (.int .i64 x.num) ∧ w'.cell? ⟨w.heap.size, 6, none⟩ = some (.string x.text) ∧ w'.cell? ⟨w.heap.size + 1, 0, none⟩ = some (.int .i64 y.col) ∧ w'.cell? ⟨w.heap.size + 1, 1, none⟩ = some (.int .i64 y.rep) ∧ w'.cell? ⟨w.heap.size + 1, 2, none⟩ = some (.int .i64 y.de) ∧ w'.cell? ⟨w.heap.size + 1, 3, none⟩ = some (.bool y.null) ∧ w'.cell? ⟨w.heap.size + 1, 4, none⟩ = some (.int .i64 y.kind) ∧ w'.cell? ⟨w.heap.size + 1, 5, none⟩ = some (.int .i64 y.num) ∧ w'.cell? ⟨w.heap.size + 1, 6, none⟩ = some (.string y.text)) ∧ (w'.cell? ⟨g, o, none⟩ = some (.slice D dn dc) ∧ w'.cell? ⟨g, o + 1, none⟩ = some (.int .u64 u) ∧ w'.cell? ⟨g, o + 2, none⟩ = some (.int .i8 (kdOf x.null x.kind)) ∧ w'.cell? ⟨g, o + 3, none⟩ = some (.int .u8 x.de) ∧ w'.cell? ⟨g, o + 4, none⟩ = some (.int .u8 x.rep) ∧ w'.cell? ⟨g, o + 5, none⟩ = some (.int .u16 (65535 - x.col))))) (fun _ h => h.1) _ _ _ _ ?_
    have HS1 : Hid (∀ W, Below w8.heap.size w8 W → ((W.cell? ⟨w.heap.size, 0, none⟩ = some (.int .i64 x.col) ∧ W.cell? ⟨w.heap.size, 1, none⟩ = some (.int .i64 x.rep) ∧ W.cell? ⟨w.heap.size, 2, none⟩ = some (.int .i64 x.de) ∧ W.cell? ⟨w.heap.size, 3, none⟩ = some (.bool x.null) ∧ W.cell? ⟨w.heap.size, 4, none⟩ = some (.int .i64 x.kind) ∧ W.cell? ⟨w.heap.size, 5, none⟩ = some (.int .i64 x.num) ∧ W.cell? ⟨w.heap.size, 6, none⟩ = some (.string x.text) ∧ W.cell? ⟨w.heap.size + 1, 0, none⟩ = some (.int .i64 y.col) ∧ W.cell? ⟨w.heap.size + 1, 1, none⟩ = some (.int .i64 y.rep) ∧ W.cell? ⟨w.heap.size + 1, 2, none⟩ = some (.int .i64 y.de) ∧ W.cell? ⟨w.heap.size + 1, 3, none⟩ = some (.bool y.null) ∧ W.cell? ⟨w.heap.size + 1, 4, none⟩ = some (.int .i64 y.kind) ∧ W.cell? ⟨w.heap.size + 1, 5, none⟩ = some (.int .i64 y.num) ∧ W.cell? ⟨w.heap.size + 1, 6, none⟩ = some (.string y.text)) ∧ (W.cell? ⟨g, o, none⟩ = some (.slice D dn dc) ∧ W.cell? ⟨g, o + 1, none⟩ = some (.int .u64 u) ∧ W.cell? ⟨g, o + 2, none⟩ = some (.int .i8 (kdOf x.null x.kind)) ∧ W.cell? ⟨g, o + 3, none⟩ = some (.int .u8 x.de) ∧ W.cell? ⟨g, o + 4, none⟩ = some (.int .u8 x.rep) ∧ W.cell? ⟨g, o + 5, none⟩ = some (.int .u16 (65535 - x.col))))) := Lib.hid fun W hW => ⟨HS.out _ (HBn.out.trans (hW.mono HBn.out.size)), (V1a.out.keep hW).c0, (V1a.out.keep hW).c1, (V1a.out.keep hW).c2, (V1a.out.keep hW).c3, (V1a.out.keep hW).c4, (V1a.out.keep hW).c5⟩
    replace hHeld := HS1.out w8 (Below.refl _ _)
    refine Upto.take (i := 4) (v := ?_) at4 (by kernel_rfl) (by kernel_rfl) (by kernel_rfl) (by kernel_rfl) (fun _ _ _ h => h) (by rfl) ?_ hHeld ?_
    rotate_left
    · intro wS hSw
      try dsimp only at hSw
      go_simp
      try with_reducible rfl
    try simp only [Act.put, List.setIfInBounds_toArray, List.set_cons_zero, List.set_cons_succ]
    refine Upto.step (i := 7) (by kernel_rfl) at7 (fun K' hK => ?_)
    go_simp
    go_at_call 53
    refine (row53_one y HGY.out _ w8 ry).mono ?_
    rintro e w9 ⟨g2, o2, c2, D2, dn2, dc2, u2, rfl, hv2, hbc⟩
    try go_wp2_with fail
    have HB9 := Lib.hid (HB8.out.trans (hbc.mono HB8.out.size))
    have H79 := Lib.hid hbc
    have V2 := Lib.hid hv2
    clear hbc hv2
    refine hK.out _ _ (.inr (HS1.out _ H79.out)) (fun _ => ?_)
    clear hK K'
    replace hHeld := HS1.out _ H79.out
    try simp only [Act.put, List.setIfInBounds_toArray, List.set_cons_zero, List.set_cons_succ]
    have V1 := Lib.hid (V1a.out.keep H79.out)
    refine Upto.take (i := 8) (v := ?_) at8 (by kernel_rfl) (by kernel_rfl) (by kernel_rfl) (by kernel_rfl) (fun _ _ _ h => h) (by rfl) ?_ hHeld ?_
    rotate_left
    · intro wS hSw
      try dsimp only at hSw
      go_simp
      try with_reducible rfl
    try simp only [Act.put, List.setIfInBounds_toArray, List.set_cons_zero, List.set_cons_succ]
    refine Upto.weak (S' := (fun w' => ((w'.cell? ⟨w.heap.size, 0, none⟩ = some (.int .i64 x.col) ∧ w'.cell? ⟨w.heap.size, 1, none⟩ = some (.int .i64 x.rep) ∧ w'.cell? ⟨w.heap.size, 2, none⟩ = some (.int .i64 x.de) ∧ w'.cell? ⟨w.heap.size, 3, none⟩ = some (.bool x.null) ∧ w'.cell? ⟨w.heap.size, 4, none⟩ = some (.int .i64 x.kind) ∧ w'.cell? ⟨w.heap.size, 5, none⟩ = some (.int .i64 x.num) ∧ w'.cell? ⟨w.heap.size, 6, none⟩ = some (.string x.text) ∧ w'.cell? ⟨w.heap.size + 1, 0, none⟩ = some (.int .i64 y.col) ∧ w'.cell? ⟨w.heap.size + 1, 1, none⟩ = some (.int .i64 y.rep) ∧ w'.cell? ⟨w.heap.size + 1, 2, none⟩ = some (.int .i64 y.de) ∧ w'.cell? ⟨w.heap.size + 1, 3, none⟩ = some (.bool y.null) ∧ w'.cell? ⟨w.heap.size + 1, 4, none⟩ = some (.int .i64 y.kind) ∧ w'.cell? ⟨w.heap.size + 1, 5, none⟩ = some (.int .i64 y.num) ∧ w'.cell? ⟨w.heap.size + 1, 6, none⟩ = some (.string y.text)) ∧ (w'.cell? ⟨g, o, none⟩ = some (.slice D dn dc) ∧ w'.cell? ⟨g, o + 1, none⟩ = some (.int .u64 u) ∧ w'.cell? ⟨g, o + 2, none⟩ = some (.int .i8 (kdOf x.null x.kind)) ∧ w'.cell? ⟨g, o + 3, none⟩ = some (.int .u8 x.de) ∧ w'.cell? ⟨g, o + 4, none⟩ = some (.int .u8 x.rep) ∧ w'.cell? ⟨g, o + 5, none⟩ = some (.int .u16 (65535 - x.col)))) ∧ (w'.cell? ⟨g2, o2, none⟩ = some (.slice D2 dn2 dc2) ∧ w'.cell? ⟨g2, o2 + 1, none⟩ = some (.int .u64 u2) ∧ w'.cell? ⟨g2, o2 + 2, none⟩ = some (.int .i8 (kdOf y.null y.kind)) ∧ w'.cell? ⟨g2, o2 + 3, none⟩ = some (.int .u8 y.de) ∧ w'.cell? ⟨g2, o2 + 4, none⟩ = some (.int .u8 y.rep) ∧ w'.cell? ⟨g2, o2 + 5, none⟩ = some (.int .u16 (65535 - y.col))))) (fun _ h => h.1) _ _ _ _ ?_
    have hHeld : ((w9.cell? ⟨w.heap.size, 0, none⟩ = some (.int .i64 x.col) ∧ w9.cell? ⟨w.heap.size, 1, none⟩ = some (.int .i64 x.rep) ∧ w9.cell? ⟨w.heap.size, 2, none⟩ = some (.int .i64 x.de) ∧ w9.cell? ⟨w.heap.size, 3, none⟩ = some (.bool x.null) ∧ w9.cell? ⟨w.heap.size, 4, none⟩ = some (.int .i64 x.kind) ∧ w9.cell? ⟨w.heap.size, 5, none⟩ = some (.int .i64 x.num) ∧ w9.cell? ⟨w.heap.size, 6, none⟩ = some (.string x.text) ∧ w9.cell? ⟨w.heap.size + 1, 0, none⟩ = some (.int .i64 y.col) ∧ w9.cell? ⟨w.heap.size + 1, 1, none⟩ = some (.int .i64 y.rep) ∧ w9.cell? ⟨w.heap.size + 1, 2, none⟩ = some (.int .i64 y.de) ∧ w9.cell? ⟨w.heap.size + 1, 3, none⟩ = some (.bool y.null) ∧ w9.cell? ⟨w.heap.size + 1, 4, none⟩ = some (.int .i64 y.kind) ∧ w9.cell? ⟨w.heap.size + 1, 5, none⟩ = some (.int .i64 y.num) ∧ w9.cell? ⟨w.heap.size + 1, 6, none⟩ = some (.string y.text)) ∧ (w9.cell? ⟨g, o, none⟩ = some (.slice D dn dc) ∧ w9.cell? ⟨g, o + 1, none⟩ = some (.int .u64 u) ∧ w9.cell? ⟨g, o + 2, none⟩ = some (.int .i8 (kdOf x.null x.kind)) ∧ w9.cell? ⟨g, o + 3, none⟩ = some (.int .u8 x.de) ∧ w9.cell? ⟨g, o + 4, none⟩ = some (.int .u8 x.rep) ∧ w9.cell? ⟨g, o + 5, none⟩ = some (.int .u16 (65535 - x.col)))) ∧ (w9.cell? ⟨g2, o2, none⟩ = some (.slice D2 dn2 dc2) ∧ w9.cell? ⟨g2, o2 + 1, none⟩ = some (.int .u64 u2) ∧ w9.cell? ⟨g2, o2 + 2, none⟩ = some (.int .i8 (kdOf y.null y.kind)) ∧ w9.cell? ⟨g2, o2 + 3, none⟩ = some (.int .u8 y.de) ∧ w9.cell? ⟨g2, o2 + 4, none⟩ = some (.int .u8 y.rep) ∧ w9.cell? ⟨g2, o2 + 5, none⟩ = some (.int .u16 (65535 - y.col))) := ⟨HS1.out _ H79.out, V2.out.c0, V2.out.c1, V2.out.c2, V2.out.c3, V2.out.c4, V2.out.c5⟩
    refine Upto.take (i := 9) (v := ?_) at9 (by kernel_rfl) (by kernel_rfl) (by kernel_rfl) (by kernel_rfl) (fun _ _ _ h => h) (by rfl) ?_ hHeld ?_
    rotate_left
    · intro wS hSw
      try dsimp only at hSw
      go_simp
      try with_reducible rfl
    try simp only [Act.put, List.setIfInBounds_toArray, List.set_cons_zero, List.set_cons_succ]
    refine Upto.step (i := 10) (by kernel_rfl) at10 (fun K' hK => ?_)
    go_simp
    go_at_call 67
    refine (equal67 x y HGX.out HGY.out _ _ _ _ D D2 dn dc dn2 dc2 u u2 _ _ _ _ _ _ w9 V1.out.vr V2.out.vr (Nat.le_refl _) (Nat.le_refl _)).mono ?_
    rintro e wz ⟨rfl, hbz⟩
    have HBZ := Lib.hid (HB9.out.trans (hbz.mono HB9.out.size))
    have H7Z := Lib.hid (H79.out.trans (hbz.mono H79.out.size))
    have V2Z := Lib.hid (V2.out.keep hbz)
    clear hbz
    try go_wp2_with fail
    refine hK.out _ _ (.inr ⟨HS1.out _ H7Z.out, V2Z.out.c0, V2Z.out.c1, V2Z.out.c2, V2Z.out.c3, V2Z.out.c4, V2Z.out.c5⟩) (fun _ => ?_)
    clear hK K'
    try simp only [Act.put, List.setIfInBounds_toArray, List.set_cons_zero, List.set_cons_succ]
    refine Upto.step (i := 11) (by kernel_rfl) at11 (fun K' hK => ?_)
    go_simp
    refine hK.out _ _ (.inl rfl) (fun _ => ?_)
    clear hK K'
    try simp only [Act.put, List.setIfInBounds_toArray, List.set_cons_zero, List.set_cons_succ]
    refine Upto.done (by kernel_rfl) ?_ _
    go_wp2_with fail
    go_ret
    exact ⟨rfl, HB5.out.trans (HBZ.out.mono HB5.out.size)⟩
theorem cell44 (x y : Cl) (hx : Good x) (hy : Good y) (w : World) : Calls Tryz.prog 44 #[clVal x, clVal y] w fun e w' => e = .returned (.bool (decide (x = y))) ∧ Below w.heap.size w w' := by
  have HGX := Lib.hid hx
  have HGY := Lib.hid hy
  clear hx hy
  go_enter Tryz.func44, Tryz.ntmps44
  go_wp2_with fail
  have rp : RowB ((w.alloc (.cells #[.int .i64 x.col, .int .i64 x.rep, .int .i64 x.de, .bool x.null, .int .i64 x.kind, .int .i64 x.num, .string x.text] 39)).alloc (.cells #[.int .i64 y.col, .int .i64 y.rep, .int .i64 y.de, .bool y.null, .int .i64 y.kind, .int .i64 y.num, .string y.text] 39)) w.heap.size 39 #[.int .i64 x.col, .int .i64 x.rep, .int .i64 x.de, .bool x.null, .int .i64 x.kind, .int .i64 x.num, .string x.text] := (RowB.new w 39 _).alloc _
  have rq : RowB ((w.alloc (.cells #[.int .i64 x.col, .int .i64 x.rep, .int .i64 x.de, .bool x.null, .int .i64 x.kind, .int .i64 x.num, .string x.text] 39)).alloc (.cells #[.int .i64 y.col, .int .i64 y.rep, .int .i64 y.de, .bool y.null, .int .i64 y.kind, .int .i64 y.num, .string y.text] 39)) (w.heap.size + 1) 39 #[.int .i64 y.col, .int .i64 y.rep, .int .i64 y.de, .bool y.null, .int .i64 y.kind, .int .i64 y.num, .string y.text] := rowB_new (by rw [size_alloc1])
  have hb5 : Below w.heap.size w ((w.alloc (.cells #[.int .i64 x.col, .int .i64 x.rep, .int .i64 x.de, .bool x.null, .int .i64 x.kind, .int .i64 x.num, .string x.text] 39)).alloc (.cells #[.int .i64 y.col, .int .i64 y.rep, .int .i64 y.de, .bool y.null, .int .i64 y.kind, .int .i64 y.num, .string y.text] 39)) := ((Below.refl _ _).alloc (Nat.le_refl _) _).alloc (by simp) _
  generalize ((w.alloc (.cells #[.int .i64 x.col, .int .i64 x.rep, .int .i64 x.de, .bool x.null, .int .i64 x.kind, .int .i64 x.num, .string x.text] 39)).alloc (.cells #[.int .i64 y.col, .int .i64 y.rep, .int .i64 y.de, .bool y.null, .int .i64 y.kind, .int .i64 y.num, .string y.text] 39)) = w5 at *
  have HS : Hid (∀ W, Below w5.heap.size w5 W → (W.cell? ⟨w.heap.size, 0, none⟩ = some (.int .i64 x.col) ∧ W.cell? ⟨w.heap.size, 1, none⟩ = some (.int .i64 x.rep) ∧ W.cell? ⟨w.heap.size, 2, none⟩ = some (.int .i64 x.de) ∧ W.cell? ⟨w.heap.size, 3, none⟩ = some (.bool x.null) ∧ W.cell? ⟨w.heap.size, 4, none⟩ = some (.int .i64 x.kind) ∧ W.cell? ⟨w.heap.size, 5, none⟩ = some (.int .i64 x.num) ∧ W.cell? ⟨w.heap.size, 6, none⟩ = some (.string x.text) ∧ W.cell? ⟨w.heap.size + 1, 0, none⟩ = some (.int .i64 y.col) ∧ W.cell? ⟨w.heap.size + 1, 1, none⟩ = some (.int .i64 y.rep) ∧ W.cell? ⟨w.heap.size + 1, 2, none⟩ = some (.int .i64 y.de) ∧ W.cell? ⟨w.heap.size + 1, 3, none⟩ = some (.bool y.null) ∧ W.cell? ⟨w.heap.size + 1, 4, none⟩ = some (.int .i64 y.kind) ∧ W.cell? ⟨w.heap.size + 1, 5, none⟩ = some (.int .i64 y.num) ∧ W.cell? ⟨w.heap.size + 1, 6, none⟩ = some (.string y.text))) := Lib.hid fun W hW => by
    obtain ⟨c0, c1, c2, c3, c4, c5, c6⟩ := (rp.keep hW rp.lt).c7
    obtain ⟨d0, d1, d2, d3, d4, d5, d6⟩ := (rq.keep hW rq.lt).c7
    exact ⟨c0, c1, c2, c3, c4, c5, c6, d0, d1, d2, d3, d4, d5, d6⟩
  have HB5 := Lib.hid hb5
  clear rp rq hb5
  refine Upto.region (m := 11) (S := (fun w' => w'.cell? ⟨w.heap.size, 0, none⟩ = some (.int .i64 x.col) ∧ w'.cell? ⟨w.heap.size, 1, none⟩ = some (.int .i64 x.rep) ∧ w'.cell? ⟨w.heap.size, 2, none⟩ = some (.int .i64 x.de) ∧ w'.cell? ⟨w.heap.size, 3, none⟩ = some (.bool x.null) ∧ w'.cell? ⟨w.heap.size, 4, none⟩ = some (.int .i64 x.kind) ∧ w'.cell? ⟨w.heap.size, 5, none⟩ = some (.int .i64 x.num) ∧ w'.cell? ⟨w.heap.size, 6, none⟩ = some (.string x.text) ∧ w'.cell? ⟨w.heap.size + 1, 0, none⟩ = some (.int .i64 y.col) ∧ w'.cell? ⟨w.heap.size + 1, 1, none⟩ = some (.int .i64 y.rep) ∧ w'.cell? ⟨w.heap.size + 1, 2, none⟩ = some (.int .i64 y.de) ∧ w'.cell? ⟨w.heap.size + 1, 3, none⟩ = some (.bool y.null) ∧ w'.cell? ⟨w.heap.size + 1, 4, none⟩ = some (.int .i64 y.kind) ∧ w'.cell? ⟨w.heap.size + 1, 5, none⟩ = some (.int .i64 y.num) ∧ w'.cell? ⟨w.heap.size + 1, 6, none⟩ = some (.string y.text))) (by kernel_rfl) ?_ (fun hHeld => ?_)
  · exact HS.out _ (Below.refl _ w5).drew
  refine Upto.take (i := 0) (v := ?_) at0 (by kernel_rfl) (by kernel_rfl) (by kernel_rfl) (by kernel_rfl) (fun _ _ _ h => h) (by rfl) ?_ hHeld ?_
  rotate_left
  · intro wS hSw
    try dsimp only at hSw
    go_simp
    try with_reducible rfl
  try simp only [Act.put, List.setIfInBounds_toArray, List.set_cons_zero, List.set_cons_succ]
  refine Upto.take (i := 5) (v := ?_) at5 (by kernel_rfl) (by kernel_rfl) (by kernel_rfl) (by kernel_rfl) (fun _ _ _ h => h) (by rfl) ?_ hHeld ?_
  rotate_left
  · intro wS hSw
    try dsimp only at hSw
    go_simp
    try with_reducible rfl
  try simp only [Act.put, List.setIfInBounds_toArray, List.set_cons_zero, List.set_cons_succ]
  have hd : Below w5.heap.size w5 w5.drew := (Below.refl _ w5).drew
  clear hd
  refine Upto.two (i := 1) (k := 6) (by kernel_rfl) at1 at6 (fun K' hK => ?_) (fun K' hK => ?_)
  · go_simp
    obtain ⟨w6, hw6⟩ : ∃ w6, w6 = (w5.alloc (.cells #[.int .i64 x.col, .int .i64 x.rep, .int .i64 x.de, .bool x.null, .int .i64 x.kind, .int .i64 x.num, .string x.text] 39)).drew := ⟨_, rfl⟩
    have rx : RowB w6 w5.heap.size 39 #[.int .i64 x.col, .int .i64 x.rep, .int .i64 x.de, .bool x.null, .int .i64 x.kind, .int .i64 x.num, .string x.text] := by rw [hw6]; exact (RowB.new w5 39 _).of_eq rfl
    have hbp : Below w5.heap.size w5 w6 := by rw [hw6]; exact ((Below.refl _ _).alloc (Nat.le_refl _) _).drew
    rw [← hw6]
    have HB6 := Lib.hid hbp
    clear hbp hw6
    refine hK.out _ _ (.inr (HS.out _ HB6.out)) (fun _ => ?_)
    clear hK K'
    replace hHeld := HS.out _ HB6.out
    try simp only [Act.put, List.setIfInBounds_toArray, List.set_cons_zero, List.set_cons_succ]
    refine Upto.two (i := 2) (k := 6) (by kernel_rfl) at2 at6 (fun K' hK => ?_) (fun K' hK => ?_)
    · go_simp
      go_at_call 53
      refine (row53_one x HGX.out _ w6 rx).mono ?_
      rintro e w7 ⟨g, o, c, D, dn, dc, u, rfl, hv, hbc⟩
      try go_wp2_with fail
      have HBn := Lib.hid (HB6.out.trans (hbc.mono HB6.out.size))
      have HB7 := HBn
      have V1a := Lib.hid hv
      clear hbc hv
      refine hK.out _ _ (.inr (HS.out _ HB7.out)) (fun _ => ?_)
      clear hK K'
      replace hHeld := HS.out _ HB7.out
      try simp only [Act.put, List.setIfInBounds_toArray, List.set_cons_zero, List.set_cons_succ]
      refine Upto.take (i := 3) (v := ?_) at3 (by kernel_rfl) (by kernel_rfl) (by kernel_rfl) (by kernel_rfl) (fun _ _ _ h => h) (by rfl) ?_ hHeld ?_
      rotate_left
      · intro wS hSw
        try dsimp only at hSw
        go_simp
        try with_reducible rfl
      try simp only [Act.put, List.setIfInBounds_toArray, List.set_cons_zero, List.set_cons_succ]
      refine Upto.weak (S' := (fun w' => (w'.cell? ⟨w.heap.size, 0, none⟩ = some (.int .i64 x.col) ∧ w'.cell? ⟨w.heap.size, 1, none⟩ = some (.int .i64 x.rep) ∧ w'.cell? ⟨w.heap.size, 2, none⟩ = some (.int .i64 x.de) ∧ w'.cell? ⟨w.heap.size, 3, none⟩ = some (.bool x.null) ∧ w'.cell? ⟨w.heap.size, 4, none⟩ = some (.int .i64 x.kind) ∧ w'.cell? ⟨w.heap.size, 5, none⟩ = some (.int .i64 x.num) ∧ w'.cell? ⟨w.heap.size, 6, none⟩ = some (.string x.text) ∧ w'.cell? ⟨w.heap.size + 1, 0, none⟩ = some (.int .i64 y.col) ∧ w'.cell? ⟨w.heap.size + 1, 1, none⟩ = some (.int .i64 y.rep) ∧ w'.cell? ⟨w.heap.size + 1, 2, none⟩ = some (.int .i64 y.de) ∧ w'.cell? ⟨w.heap.size + 1, 3, none⟩ = some (.bool y.null) ∧ w'.cell? ⟨w.heap.size + 1, 4, none⟩ = some (.int .i64 y.kind) ∧ w'.cell? ⟨w.heap.size + 1, 5, none⟩ = some (.int .i64 y.num) ∧ w'.cell? ⟨w.heap.size + 1, 6, none⟩ = some (.string y.text)) ∧ (w'.cell? ⟨g, o, none⟩ = some (.slice D dn dc) ∧ w'.cell? ⟨g, o + 1, none⟩ = some (.int .u64 u) ∧ w'.cell? ⟨g, o + 2, none⟩ = some (.int .i8 (kdOf x.null x.kind)) ∧ w'.cell? ⟨g, o + 3, none⟩ = some (.int .u8 x.de) ∧ w'.cell? ⟨g, o + 4, none⟩ = some (.int .u8 x.rep) ∧ w'.cell? ⟨g, o + 5, none⟩ = some (.int .u16 (65535 - x.col))))) (fun _ h => h.1) _ _ _ _ ?_
      have HS1 : Hid (∀ W, Below w7.heap.size w7 W → ((W.cell? ⟨w.heap.size, 0, none⟩ = some (.int .i64 x.col) ∧ W.cell? ⟨w.heap.size, 1, none⟩ = some (.int .i64 x.rep) ∧ W.cell? ⟨w.heap.size, 2, none⟩ = some (.int .i64 x.de) ∧ W.cell? ⟨w.heap.size, 3, none⟩ = some (.bool x.null) ∧ W.cell? ⟨w.heap.size, 4, none⟩ = some (.int .i64 x.kind) ∧ W.cell? ⟨w.heap.size, 5, none⟩ = some (.int .i64 x.num) ∧ W.cell? ⟨w.heap.size, 6, none⟩ = some (.string x.text) ∧ W.cell? ⟨w.heap.size + 1, 0, none⟩ = some (.int .i64 y.col) ∧ W.cell? ⟨w.heap.size + 1, 1, none⟩ = some (.int .i64 y.rep) ∧ W.cell? ⟨w.heap.size + 1, 2, none⟩ = some (.int .i64 y.de) ∧ W.cell? ⟨w.heap.size + 1, 3, none⟩ = some (.bool y.null) ∧ W.cell? ⟨w.heap.size + 1, 4, none⟩ = some (.int .i64 y.kind) ∧ W.cell? ⟨w.heap.size + 1, 5, none⟩ = some (.int .i64 y.num) ∧ W.cell? ⟨w.heap.size + 1, 6, none⟩ = some (.string y.text)) ∧ (W.cell? ⟨g, o, none⟩ = some (.slice D dn dc) ∧ W.cell? ⟨g, o + 1, none⟩ = some (.int .u64 u) ∧ W.cell? ⟨g, o + 2, none⟩ = some (.int .i8 (kdOf x.null x.kind)) ∧ W.cell? ⟨g, o + 3, none⟩ = some (.int .u8 x.de) ∧ W.cell? ⟨g, o + 4, none⟩ = some (.int .u8 x.rep) ∧ W.cell? ⟨g, o + 5, none⟩ = some (.int .u16 (65535 - x.col))))) := Lib.hid fun W hW => ⟨HS.out _ (HBn.out.trans (hW.mono HBn.out.size)), (V1a.out.keep hW).c0, (V1a.out.keep hW).c1, (V1a.out.keep hW).c2, (V1a.out.keep hW).c3, (V1a.out.keep hW).c4, (V1a.out.keep hW).c5⟩
      replace hHeld := HS1.out w7 (Below.refl _ _)
      refine Upto.take (i := 4) (v := ?_) at4 (by kernel_rfl) (by kernel_rfl) (by kernel_rfl) (by kernel_rfl) (fun _ _ _ h => h) (by rfl) ?_ hHeld ?_
      rotate_left
      · intro wS hSw
        try dsimp only at hSw
        go_simp
        try with_reducible rfl
      try simp only [Act.put, List.setIfInBounds_toArray, List.set_cons_zero, List.set_cons_succ]
      refine Upto.step (i := 6) (by kernel_rfl) at6 (fun K' hK => ?_)
      go_simp
      obtain ⟨w8, hw8⟩ : ∃ w8, w8 = w7.alloc (.cells #[.int .i64 y.col, .int .i64 y.rep, .int .i64 y.de, .bool y.null, .int .i64 y.kind, .int .i64 y.num, .string y.text] 39) := ⟨_, rfl⟩
      have ry : RowB w8 w7.heap.size 39 #[.int .i64 y.col, .int .i64 y.rep, .int .i64 y.de, .bool y.null, .int .i64 y.kind, .int .i64 y.num, .string y.text] := by rw [hw8]; exact RowB.new _ _ _
      have hbp : Below w7.heap.size w7 w8 := by rw [hw8]; exact (Below.refl _ _).alloc (Nat.le_refl _) _
      rw [← hw8]
      have HB8 := Lib.hid (HB7.out.trans (hbp.mono HB7.out.size))
      have H78 := Lib.hid hbp
      clear hbp hw8
      refine hK.out _ _ (.inr (HS1.out _ H78.out)) (fun _ => ?_)
      clear hK K'
      replace hHeld := HS1.out _ H78.out
      try simp only [Act.put, List.setIfInBounds_toArray, List.set_cons_zero, List.set_cons_succ]
      refine Upto.step (i := 7) (by kernel_rfl) at7 (fun K' hK => ?_)
      go_simp
      go_at_call 53
      refine (row53_one y HGY.out _ w8 ry).mono ?_
      rintro e w9 ⟨g2, o2, c2, D2, dn2, dc2, u2, rfl, hv2, hbc⟩
      try go_wp2_with fail
      have HB9 := Lib.hid (HB8.out.trans (hbc.mono HB8.out.size))
      have H79 := Lib.hid (H78.out.trans (hbc.mono H78.out.size))
      have V2 := Lib.hid hv2
      clear hbc hv2
      refine hK.out _ _ (.inr (HS1.out _ H79.out)) (fun _ => ?_)
      clear hK K'
      replace hHeld := HS1.out _ H79.out
      try simp only [Act.put, List.setIfInBounds_toArray, List.set_cons_zero, List.set_cons_succ]
      have V1 := Lib.hid (V1a.out.keep H79.out)
      refine Upto.take (i := 8) (v := ?_) at8 (by kernel_rfl) (by kernel_rfl) (by kernel_rfl) (by kernel_rfl) (fun _ _ _ h => h) (by rfl) ?_ hHeld ?_
      rotate_left
      · intro wS hSw
        try dsimp only at hSw
        go_simp
        try with_reducible rfl
      try simp only [Act.put, List.setIfInBounds_toArray, List.set_cons_zero, List.set_cons_succ]
      refine Upto.weak (S' := (fun w' => ((w'.cell? ⟨w.heap.size, 0, none⟩ = some (.int .i64 x.col) ∧ w'.cell? ⟨w.heap.size, 1, none⟩ = some (.int .i64 x.rep) ∧ w'.cell? ⟨w.heap.size, 2, none⟩ = some (.int .i64 x.de) ∧ w'.cell? ⟨w.heap.size, 3, none⟩ = some (.bool x.null) ∧ w'.cell? ⟨w.heap.size, 4, none⟩ = some (.int .i64 x.kind) ∧ w'.cell? ⟨w.heap.size, 5, none⟩ = some (.int .i64 x.num) ∧ w'.cell? ⟨w.heap.size, 6, none⟩ = some (.string x.text) ∧ w'.cell? ⟨w.heap.size + 1, 0, none⟩ = some (.int .i64 y.col) ∧ w'.cell? ⟨w.heap.size + 1, 1, none⟩ = some (.int .i64 y.rep) ∧ w'.cell? ⟨w.heap.size + 1, 2, none⟩ = some (.int .i64 y.de) ∧ w'.cell? ⟨w.heap.size + 1, 3, none⟩ = some (.bool y.null) ∧ w'.cell? ⟨w.heap.size + 1, 4, none⟩ = some (.int .i64 y.kind) ∧ w'.cell? ⟨w.heap.size + 1, 5, none⟩ = some (.int .i64 y.num) ∧ w'.cell? ⟨w.heap.size + 1, 6, none⟩ = some (.string y.text)) ∧ (w'.cell? ⟨g, o, none⟩ = some (.slice D dn dc) ∧ w'.cell? ⟨g, o + 1, none⟩ = some (.int .u64 u) ∧ w'.cell? ⟨g, o + 2, none⟩ = some (.int .i8 (kdOf x.null x.kind)) ∧ w'.cell? ⟨g, o + 3, none⟩ = some (.int .u8 x.de) ∧ w'.cell? ⟨g, o + 4, none⟩ = some (.int .u8 x.rep) ∧ w'.cell? ⟨g, o + 5, none⟩ = some (.int .u16 (65535 - x.col)))) ∧ (w'.cell? ⟨g2, o2, none⟩ = some (.slice D2 dn2 dc2) ∧ w'.cell? ⟨g2, o2 + 1, none⟩ = some (.int .u64 u2) ∧ w'.cell? ⟨g2, o2 + 2, none⟩ = some (.int .i8 (kdOf y.null y.kind)) ∧ w'.cell? ⟨g2, o2 + 3, none⟩ = some (.int .u8 y.de) ∧ w'.cell? ⟨g2, o2 + 4, none⟩ = some (.int .u8 y.rep) ∧ w'.cell? ⟨g2, o2 + 5, none⟩ = some (.int .u16 (65535 - y.col))))) (fun _ h => h.1) _ _ _ _ ?_
      have hHeld : ((w9.cell? ⟨w.heap.size, 0, none⟩ = some (.int .i64 x.col) ∧ w9.cell? ⟨w.heap.size, 1, none⟩ = some (.int .i64 x.rep) ∧ w9.cell? ⟨w.heap.size, 2, none⟩ = some (.int .i64 x.de) ∧ w9.cell? ⟨w.heap.size, 3, none⟩ = some (.bool x.null) ∧ w9.cell? ⟨w.heap.size, 4, none⟩ = some (.int .i64 x.kind) ∧ w9.cell? ⟨w.heap.size, 5, none⟩ = some (.int .i64 x.num) ∧ w9.cell? ⟨w.heap.size, 6, none⟩ = some (.string x.text) ∧ w9.cell? ⟨w.heap.size + 1, 0, none⟩ = some (.int .i64 y.col) ∧ w9.cell? ⟨w.heap.size + 1, 1, none⟩ = some (.int .i64 y.rep) ∧ w9.cell? ⟨w.heap.size + 1, 2, none⟩ = some (.int .i64 y.de) ∧ w9.cell? ⟨w.heap.size + 1, 3, none⟩ = some (.bool y.null) ∧ w9.cell? ⟨w.heap.size + 1, 4, none⟩ = some (.int .i64 y.kind) ∧ w9.cell? ⟨w.heap.size + 1, 5, none⟩ = some (.int .i64 y.num) ∧ w9.cell? ⟨w.heap.size + 1, 6, none⟩ = some (.string y.text)) ∧ (w9.cell? ⟨g, o, none⟩ = some (.slice D dn dc) ∧ w9.cell? ⟨g, o + 1, none⟩ = some (.int .u64 u) ∧ w9.cell? ⟨g, o + 2, none⟩ = some (.int .i8 (kdOf x.null x.kind)) ∧ w9.cell? ⟨g, o + 3, none⟩ = some (.int .u8 x.de) ∧ w9.cell? ⟨g, o + 4, none⟩ = some (.int .u8 x.rep) ∧ w9.cell? ⟨g, o + 5, none⟩ = some (.int .u16 (65535 - x.col)))) ∧ (w9.cell? ⟨g2, o2, none⟩ = some (.slice D2 dn2 dc2) ∧ w9.cell? ⟨g2, o2 + 1, none⟩ = some (.int .u64 u2) ∧ w9.cell? ⟨g2, o2 + 2, none⟩ = some (.int .i8 (kdOf y.null y.kind)) ∧ w9.cell? ⟨g2, o2 + 3, none⟩ = some (.int .u8 y.de) ∧ w9.cell? ⟨g2, o2 + 4, none⟩ = some (.int .u8 y.rep) ∧ w9.cell? ⟨g2, o2 + 5, none⟩ = some (.int .u16 (65535 - y.col))) := ⟨HS1.out _ H79.out, V2.out.c0, V2.out.c1, V2.out.c2, V2.out.c3, V2.out.c4, V2.out.c5⟩
      refine Upto.take (i := 9) (v := ?_) at9 (by kernel_rfl) (by kernel_rfl) (by kernel_rfl) (by kernel_rfl) (fun _ _ _ h => h) (by rfl) ?_ hHeld ?_
      rotate_left
      · intro wS hSw
        try dsimp only at hSw
        go_simp
        try with_reducible rfl
      try simp only [Act.put, List.setIfInBounds_toArray, List.set_cons_zero, List.set_cons_succ]
      refine Upto.step (i := 10) (by kernel_rfl) at10 (fun K' hK => ?_)
      go_simp
      go_at_call 68
      refine (deep68 (sameV x y) D D2 dn dc dn2 dc2 u u2 _ _ _ _ _ _ _ _ w9 (fun W hW => equal67 x y HGX.out HGY.out _ _ _ _ D D2 dn dc dn2 dc2 u u2 _ _ _ _ _ _ W (V1.out.keep hW).vr (V2.out.keep hW).vr (Nat.le_refl _) (Nat.le_refl _))).mono ?_
      rintro e wz ⟨rfl, hbz⟩
      have HBZ := Lib.hid (HB9.out.trans (hbz.mono HB9.out.size))
      have H7Z := Lib.hid (H79.out.trans (hbz.mono H79.out.size))
      have V2Z := Lib.hid (V2.out.keep hbz)
      clear hbz
      try go_wp2_with fail
      refine hK.out _ _ (.inr ⟨HS1.out _ H7Z.out, V2Z.out.c0, V2Z.out.c1, V2Z.out.c2, V2Z.out.c3, V2Z.out.c4, V2Z.out.c5⟩) (fun _ => ?_)
      clear hK K'
      try simp only [Act.put, List.setIfInBounds_toArray, List.set_cons_zero, List.set_cons_succ]
      refine Upto.step (i := 11) (by kernel_rfl) at11 (fun K' hK => ?_)
      go_simp
      refine hK.out _ _ (.inl rfl) (fun _ => ?_)
      clear hK K'
      try simp only [Act.put, List.setIfInBounds_toArray, List.set_cons_zero, List.set_cons_succ]
      refine Upto.done (by kernel_rfl) ?_ _
      go_wp2_with fail
      go_ret
      exact ⟨ret_bool (sameCl_eq HGX.out.ok HGY.out.ok), HB5.out.trans (HBZ.out.mono HB5.out.size)⟩
    · go_simp
      obtain ⟨w7, hw7⟩ : ∃ w7, w7 = w6.alloc (.cells #[.int .i64 y.col, .int .i64 y.rep, .int .i64 y.de, .bool y.null, .int .i64 y.kind, .int .i64 y.num, .string y.text] 39) := ⟨_, rfl⟩
      have ry : RowB w7 w6.heap.size 39 #[.int .i64 y.col, .int .i64 y.rep, .int .i64 y.de, .bool y.null, .int .i64 y.kind, .int .i64 y.num, .string y.text] := by rw [hw7]; exact RowB.new _ _ _
      have hbp : Below w6.heap.size w6 w7 := by rw [hw7]; exact (Below.refl _ _).alloc (Nat.le_refl _) _
      rw [← hw7]
      have HB7 := Lib.hid (HB6.out.trans (hbp.mono HB6.out.size))
      replace rx := rx.keep hbp rx.lt
      clear hbp hw7
      refine hK.out _ _ (.inr (HS.out _ HB7.out)) (fun _ => ?_)
      clear hK K'
      replace hHeld := HS.out _ HB7.out
      try simp only [Act.put, List.setIfInBounds_toArray, List.set_cons_zero, List.set_cons_succ]
      refine Upto.step (i := 2) (by kernel_rfl) at2 (fun K' hK => ?_)
      go_simp
      go_at_call 53
      refine (row53_one x HGX.out _ w7 rx).mono ?_
      rintro e w8 ⟨g, o, c, D, dn, dc, u, rfl, hv, hbc⟩
      try go_wp2_with fail
      have HBn := Lib.hid (HB7.out.trans (hbc.mono HB7.out.size))
      have HB8 := HBn
      have V1a := Lib.hid hv
      replace ry := ry.keep hbc ry.lt
      clear hbc hv
      refine hK.out _ _ (.inr (HS.out _ HB8.out)) (fun _ => ?_)
      clear hK K'
      replace hHeld := HS.out _ HB8.out
      try simp only [Act.put, List.setIfInBounds_toArray, List.set_cons_zero, List.set_cons_succ]
      refine Upto.take (i := 3) (v := ?_) at3 (by kernel_rfl) (by kernel_rfl) (by kernel_rfl) (by kernel_rfl) (fun _ _ _ h => h) (by rfl) ?_ hHeld ?_
      rotate_left
      · intro wS hSw
        try dsimp only at hSw
        go_simp
        try with_reducible rfl
      try simp only [Act.put, List.setIfInBounds_toArray, List.set_cons_zero, List.set_cons_succ]
      refine Upto.weak (S' := (fun w' => (w'.cell? ⟨w.heap.size, 0, none⟩ = some (.int .i64 x.col) ∧ w'.cell? ⟨w.heap.size, 1, none⟩ = some (.int .i64 x.rep) ∧ w'.cell? ⟨w.heap.size, 2, none⟩ = some (.int .i64 x.de) ∧ w'.cell? ⟨w.heap.size, 3, none⟩ = some (.bool x.null) ∧ w'.cell? ⟨w.heap.size, 4, none⟩ = some (.int .i64 x.kind) ∧ w'.cell? ⟨w.heap.size, 5, none⟩ = some (.int .i64 x.num) ∧ w'.cell? ⟨w.heap.size, 6, none⟩ = some (.string x.text) ∧ w'.cell? ⟨w.heap.size + 1, 0, none⟩ = some (.int .i64 y.col) ∧ w'.cell? ⟨w.heap.size + 1, 1, none⟩ = some (.int .i64 y.rep) ∧ w'.cell? ⟨w.heap.size + 1, 2, none⟩ = some (.int .i64 y.de) ∧ w'.cell? ⟨w.heap.size + 1, 3, none⟩ = some (.bool y.null) ∧ w'.cell? ⟨w.heap.size + 1, 4, none⟩ = some (.int .i64 y.kind) ∧ w'.cell? ⟨w.heap.size + 1, 5, none⟩ = some (.int .i64 y.num) ∧ w'.cell? ⟨w.heap.size + 1, 6, none⟩ = some (.string y.text)) ∧ (w'.cell? ⟨g, o, none⟩ = some (.slice D dn dc) ∧ w'.cell? ⟨g, o + 1, none⟩ = some (.int .u64 u) ∧ w'.cell? ⟨g, o + 2, none⟩ = some (.int .i8 (kdOf x.null x.kind)) ∧ w'.cell? ⟨g, o + 3, none⟩ = some (.int .u8 x.de) ∧ w'.cell? ⟨g, o + 4, none⟩ = some (.int .u8 x.rep) ∧ w'.cell? ⟨g, o + 5, none⟩ = some (.int .u16 (65535 - x.col))))) (fun _ h => h.1) _ _ _ _ ?_
      have HS1 : Hid (∀ W, Below w8.heap.size w8 W → ((W.cell? ⟨w.heap.size, 0, none⟩ = some (.int .i64 x.col) ∧ W.cell? ⟨w.heap.size, 1, none⟩ = some (.int .i64 x.rep) ∧ W.cell? ⟨w.heap.size, 2, none⟩ = some (.int .i64 x.de) ∧ W.cell? ⟨w.heap.size, 3, none⟩ = some (.bool x.null) ∧ W.cell? ⟨w.heap.size, 4, none⟩ = some (.int .i64 x.kind) ∧ W.cell? ⟨w.heap.size, 5, none⟩ = some (.int .i64 x.num) ∧ W.cell? ⟨w.heap.size, 6, none⟩ = some (.string x.text) ∧ W.cell? ⟨w.heap.size + 1, 0, none⟩ = some (.int .i64 y.col) ∧ W.cell? ⟨w.heap.size + 1, 1, none⟩ = some (.int .i64 y.rep) ∧ W.cell? ⟨w.heap.size + 1, 2, none⟩ = some (.int .i64 y.de) ∧ W.cell? ⟨w.heap.size + 1, 3, none⟩ = some (.bool y.null) ∧ W.cell? ⟨w.heap.size + 1, 4, none⟩ = some (.int .i64 y.kind) ∧ W.cell? ⟨w.heap.size + 1, 5, none⟩ = some (.int .i64 y.num) ∧ W.cell? ⟨w.heap.size + 1, 6, none⟩ = some (.string y.text)) ∧ (W.cell? ⟨g, o, none⟩ = some (.slice D dn dc) ∧ W.cell? ⟨g, o + 1, none⟩ = some (.int .u64 u) ∧ W.cell? ⟨g, o + 2, none⟩ = some (.int .i8 (kdOf x.null x.kind)) ∧ W.cell? ⟨g, o + 3, none⟩ = some (.int .u8 x.de) ∧ W.cell? ⟨g, o + 4, none⟩ = some (.int .u8 x.rep) ∧ W.cell? ⟨g, o + 5, none⟩ = some (.int .u16 (65535 - x.col))))) := Lib.hid fun W hW => ⟨HS.out _ (HBn.out.trans (hW.mono HBn.out.size)), (V1a.out.keep hW).c0, (V1a.out.keep hW).c1, (V1a.out.keep hW).c2, (V1a.out.keep hW).c3, (V1a.out.keep hW).c4, (V1a.out.keep hW).c5⟩
      replace hHeld := HS1.out w8 (Below.refl _ _)
      refine Upto.take (i := 4) (v := ?_) at4 (by kernel_rfl) (by kernel_rfl) (by kernel_rfl) (by kernel_rfl) (fun _ _ _ h => h) (by rfl) ?_ hHeld ?_
      rotate_left
      · intro wS hSw
        try dsimp only at hSw
        go_simp
        try with_reducible rfl
      try simp only [Act.put, List.setIfInBounds_toArray, List.set_cons_zero, List.set_cons_succ]
      refine Upto.step (i := 7) (by kernel_rfl) at7 (fun K' hK => ?_)
      go_simp
      go_at_call 53
      refine (row53_one y HGY.out _ w8 ry).mono ?_
      rintro e w9 ⟨g2, o2, c2, D2, dn2, dc2, u2, rfl, hv2, hbc⟩
      try go_wp2_with fail
      have HB9 := Lib.hid (HB8.out.trans (hbc.mono HB8.out.size))
      have H79 := Lib.hid hbc
      have V2 := Lib.hid hv2
      clear hbc hv2
      refine hK.out _ _ (.inr (HS1.out _ H79.out)) (fun _ => ?_)
      clear hK K'
      replace hHeld := HS1.out _ H79.out
      try simp only [Act.put, List.setIfInBounds_toArray, List.set_cons_zero, List.set_cons_succ]
      have V1 := Lib.hid (V1a.out.keep H79.out)
      refine Upto.take (i := 8) (v := ?_) at8 (by kernel_rfl) (by kernel_rfl) (by kernel_rfl) (by kernel_rfl) (fun _ _ _ h => h) (by rfl) ?_ hHeld ?_
      rotate_left
      · intro wS hSw
        try dsimp only at hSw
        go_simp
        try with_reducible rfl
      try simp only [Act.put, List.setIfInBounds_toArray, List.set_cons_zero, List.set_cons_succ]
      refine Upto.weak (S' := (fun w' => ((w'.cell? ⟨w.heap.size, 0, none⟩ = some (.int .i64 x.col) ∧ w'.cell? ⟨w.heap.size, 1, none⟩ = some (.int .i64 x.rep) ∧ w'.cell? ⟨w.heap.size, 2, none⟩ = some (.int .i64 x.de) ∧ w'.cell? ⟨w.heap.size, 3, none⟩ = some (.bool x.null) ∧ w'.cell? ⟨w.heap.size, 4, none⟩ = some (.int .i64 x.kind) ∧ w'.cell? ⟨w.heap.size, 5, none⟩ = some (.int .i64 x.num) ∧ w'.cell? ⟨w.heap.size, 6, none⟩ = some (.string x.text) ∧ w'.cell? ⟨w.heap.size + 1, 0, none⟩ = some (.int .i64 y.col) ∧ w'.cell? ⟨w.heap.size + 1, 1, none⟩ = some (.int .i64 y.rep) ∧ w'.cell? ⟨w.heap.size + 1, 2, none⟩ = some (.int .i64 y.de) ∧ w'.cell? ⟨w.heap.size + 1, 3, none⟩ = some (.bool y.null) ∧ w'.cell? ⟨w.heap.size + 1, 4, none⟩ = some (.int .i64 y.kind) ∧ w'.cell? ⟨w.heap.size + 1, 5, none⟩ = some (.int .i64 y.num) ∧ w'.cell? ⟨w.heap.size + 1, 6, none⟩ = some (.string y.text)) ∧ (w'.cell? ⟨g, o, none⟩ = some (.slice D dn dc) ∧ w'.cell? ⟨g, o + 1, none⟩ = some (.int .u64 u) ∧ w'.cell? ⟨g, o + 2, none⟩ = some (.int .i8 (kdOf x.null x.kind)) ∧ w'.cell? ⟨g, o + 3, none⟩ = some (.int .u8 x.de) ∧ w'.cell? ⟨g, o + 4, none⟩ = some (.int .u8 x.rep) ∧ w'.cell? ⟨g, o + 5, none⟩ = some (.int .u16 (65535 - x.col)))) ∧ (w'.cell? ⟨g2, o2, none⟩ = some (.slice D2 dn2 dc2) ∧ w'.cell? ⟨g2, o2 + 1, none⟩ = some (.int .u64 u2) ∧ w'.cell? ⟨g2, o2 + 2, none⟩ = some (.int .i8 (kdOf y.null y.kind)) ∧ w'.cell? ⟨g2, o2 + 3, none⟩ = some (.int .u8 y.de) ∧ w'.cell? ⟨g2, o2 + 4, none⟩ = some (.int .u8 y.rep) ∧ w'.cell? ⟨g2, o2 + 5, none⟩ = some (.int .u16 (65535 - y.col))))) (fun _ h => h.1) _ _ _ _ ?_
      have hHeld : ((w9.cell? ⟨w.heap.size, 0, none⟩ = some (.int .i64 x.col) ∧ w9.cell? ⟨w.heap.size, 1, none⟩ = some (.int .i64 x.rep) ∧ w9.cell? ⟨w.heap.size, 2, none⟩ = some (.int .i64 x.de) ∧ w9.cell? ⟨w.heap.size, 3, none⟩ = some (.bool x.null) ∧ w9.cell? ⟨w.heap.size, 4, none⟩ = some (.int .i64 x.kind) ∧ w9.cell? ⟨w.heap.size, 5, none⟩ = some (.int .i64 x.num) ∧ w9.cell? ⟨w.heap.size, 6, none⟩ = some (.string x.text) ∧ w9.cell? ⟨w.heap.size + 1, 0, none⟩ = some (.int .i64 y.col) ∧ w9.cell? ⟨w.heap.size + 1, 1, none⟩ = some (.int .i64 y.rep) ∧ w9.cell? ⟨w.heap.size + 1, 2, none⟩ = some (.int .i64 y.de) ∧ w9.cell? ⟨w.heap.size + 1, 3, none⟩ = some (.bool y.null) ∧ w9.cell? ⟨w.heap.size + 1, 4, none⟩ = some (.int .i64 y.kind) ∧ w9.cell? ⟨w.heap.size + 1, 5, none⟩ = some (.int .i64 y.num) ∧ w9.cell? ⟨w.heap.size + 1, 6, none⟩ = some (.string y.text)) ∧ (w9.cell? ⟨g, o, none⟩ = some (.slice D dn dc) ∧ w9.cell? ⟨g, o + 1, none⟩ = some (.int .u64 u) ∧ w9.cell? ⟨g, o + 2, none⟩ = some (.int .i8 (kdOf x.null x.kind)) ∧ w9.cell? ⟨g, o + 3, none⟩ = some (.int .u8 x.de) ∧ w9.cell? ⟨g, o + 4, none⟩ = some (.int .u8 x.rep) ∧ w9.cell? ⟨g, o + 5, none⟩ = some (.int .u16 (65535 - x.col)))) ∧ (w9.cell? ⟨g2, o2, none⟩ = some (.slice D2 dn2 dc2) ∧ w9.cell? ⟨g2, o2 + 1, none⟩ = some (.int .u64 u2) ∧ w9.cell? ⟨g2, o2 + 2, none⟩ = some (.int .i8 (kdOf y.null y.kind)) ∧ w9.cell? ⟨g2, o2 + 3, none⟩ = some (.int .u8 y.de) ∧ w9.cell? ⟨g2, o2 + 4, none⟩ = some (.int .u8 y.rep) ∧ w9.cell? ⟨g2, o2 + 5, none⟩ = some (.int .u16 (65535 - y.col))) := ⟨HS1.out _ H79.out, V2.out.c0, V2.out.c1, V2.out.c2, V2.out.c3, V2.out.c4, V2.out.c5⟩
      refine Upto.take (i := 9) (v := ?_) at9 (by kernel_rfl) (by kernel_rfl) (by kernel_rfl) (by kernel_rfl) (fun _ _ _ h => h) (by rfl) ?_ hHeld ?_
      rotate_left
      · intro wS hSw
        try dsimp only at hSw
        go_simp
        try with_reducible rfl
      try simp only [Act.put, List.setIfInBounds_toArray, List.set_cons_zero, List.set_cons_succ]
      refine Upto.step (i := 10) (by kernel_rfl) at10 (fun K' hK => ?_)
      go_simp
      go_at_call 68
      refine (deep68 (sameV x y) D D2 dn dc dn2 dc2 u u2 _ _ _ _ _ _ _ _ w9 (fun W hW => equal67 x y HGX.out HGY.out _ _ _ _ D D2 dn dc dn2 dc2 u u2 _ _ _ _ _ _ W (V1.out.keep hW).vr (V2.out.keep hW).vr (Nat.le_refl _) (Nat.le_refl _))).mono ?_
      rintro e wz ⟨rfl, hbz⟩
      have HBZ := Lib.hid (HB9.out.trans (hbz.mono HB9.out.size))
      have H7Z := Lib.hid (H79.out.trans (hbz.mono H79.out.size))
      have V2Z := Lib.hid (V2.out.keep hbz)
      clear hbz
      try go_wp2_with fail
      refine hK.out _ _ (.inr ⟨HS1.out _ H7Z.out, V2Z.out.c0, V2Z.out.c1, V2Z.out.c2, V2Z.out.c3, V2Z.out.c4, V2Z.out.c5⟩) (fun _ => ?_)
      clear hK K'
      try simp only [Act.put, List.setIfInBounds_toArray, List.set_cons_zero, List.set_cons_succ]
      refine Upto.step (i := 11) (by kernel_rfl) at11 (fun K' hK => ?_)
      go_simp
      refine hK.out _ _ (.inl rfl) (fun _ => ?_)
      clear hK K'
      try simp only [Act.put, List.setIfInBounds_toArray, List.set_cons_zero, List.set_cons_succ]
      refine Upto.done (by kernel_rfl) ?_ _
      go_wp2_with fail
      go_ret
      exact ⟨ret_bool (sameCl_eq HGX.out.ok HGY.out.ok), HB5.out.trans (HBZ.out.mono HB5.out.size)⟩
  · go_simp
    obtain ⟨w6, hw6⟩ : ∃ w6, w6 = (w5.alloc (.cells #[.int .i64 y.col, .int .i64 y.rep, .int .i64 y.de, .bool y.null, .int .i64 y.kind, .int .i64 y.num, .string y.text] 39)).drew := ⟨_, rfl⟩
    have ry : RowB w6 w5.heap.size 39 #[.int .i64 y.col, .int .i64 y.rep, .int .i64 y.de, .bool y.null, .int .i64 y.kind, .int .i64 y.num, .string y.text] := by rw [hw6]; exact (RowB.new w5 39 _).of_eq rfl
    have hbp : Below w5.heap.size w5 w6 := by rw [hw6]; exact ((Below.refl _ _).alloc (Nat.le_refl _) _).drew
    rw [← hw6]
    have HB6 := Lib.hid hbp
    clear hbp hw6
    refine hK.out _ _ (.inr (HS.out _ HB6.out)) (fun _ => ?_)
    clear hK K'
    replace hHeld := HS.out _ HB6.out
    try simp only [Act.put, List.setIfInBounds_toArray, List.set_cons_zero, List.set_cons_succ]
    refine Upto.step (i := 1) (by kernel_rfl) at1 (fun K' hK => ?_)
    go_simp
    obtain ⟨w7, hw7⟩ : ∃ w7, w7 = w6.alloc (.cells #[.int .i64 x.col, .int .i64 x.rep, .int .i64 x.de, .bool x.null, .int .i64 x.kind, .int .i64 x.num, .string x.text] 39) := ⟨_, rfl⟩
    have rx : RowB w7 w6.heap.size 39 #[.int .i64 x.col, .int .i64 x.rep, .int .i64 x.de, .bool x.null, .int .i64 x.kind, .int .i64 x.num, .string x.text] := by rw [hw7]; exact RowB.new _ _ _
    have hbp : Below w6.heap.size w6 w7 := by rw [hw7]; exact (Below.refl _ _).alloc (Nat.le_refl _) _
    rw [← hw7]
    have HB7 := Lib.hid (HB6.out.trans (hbp.mono HB6.out.size))
    replace ry := ry.keep hbp ry.lt
    clear hbp hw7
    refine hK.out _ _ (.inr (HS.out _ HB7.out)) (fun _ => ?_)
    clear hK K'
    replace hHeld := HS.out _ HB7.out
    try simp only [Act.put, List.setIfInBounds_toArray, List.set_cons_zero, List.set_cons_succ]
    refine Upto.step (i := 2) (by kernel_rfl) at2 (fun K' hK => ?_)
    go_simp
    go_at_call 53
    refine (row53_one x HGX.out _ w7 rx).mono ?_
    rintro e w8 ⟨g, o, c, D, dn, dc, u, rfl, hv, hbc⟩
    try go_wp2_with fail
    have HBn := Lib.hid (HB7.out.trans (hbc.mono HB7.out.size))
    have HB8 := HBn
    have V1a := Lib.hid hv
    replace ry := ry.keep hbc ry.lt
    clear hbc hv
    refine hK.out _ _ (.inr (HS.out _ HB8.out)) (fun _ => ?_)
    clear hK K'
    replace hHeld := HS.out _ HB8.out
    try simp only [Act.put, List.setIfInBounds_toArray, List.set_cons_zero, List.set_cons_succ]
    refine Upto.take (i := 3) (v := ?_) at3 (by kernel_rfl) (by kernel_rfl) (by kernel_rfl) (by kernel_rfl) (fun _ _ _ h => h) (by rfl) ?_ hHeld ?_
    rotate_left
    · intro wS hSw
      try dsimp only at hSw
      go_simp
      try with_reducible rfl
    try simp only [Act.put, List.setIfInBounds_toArray, List.set_cons_zero, List.set_cons_succ]
    refine Upto.weak (S' := (fun w' => (w'.cell? ⟨w.heap.size, 0, none⟩ = some (.int .i64 x.col) ∧ w'.cell? ⟨w.heap.size, 1, none⟩ = some (.int .i64 x.rep) ∧ w'.cell? ⟨w.heap.size, 2, none⟩ = some (.int .i64 x.de) ∧ w'.cell? ⟨w.heap.size, 3, none⟩ = some (.bool x.null) ∧ w'.cell? ⟨w.heap.size, 4, none⟩ = some (.int .i64 x.kind) ∧ w'.cell? ⟨w.heap.size, 5, none⟩ = some (.int .i64 x.num) ∧ w'.cell? ⟨w.heap.size, 6, none⟩ = some (.string x.text) ∧ w'.cell? ⟨w.heap.size + 1, 0, none⟩ = some (.int .i64 y.col) ∧ w'.cell? ⟨w.heap.size + 1, 1, none⟩ = some (.int .i64 y.rep) ∧ w'.cell? ⟨w.heap.size + 1, 2, none⟩ = some (.int .i64 y.de) ∧ w'.cell? ⟨w.heap.size + 1, 3, none⟩ = some (.bool y.null) ∧ w'.cell? ⟨w.heap.size + 1, 4, none⟩ = some (.int .i64 y.kind) ∧ w'.cell? ⟨w.heap.size + 1, 5, none⟩ = some (.int .i64 y.num) ∧ w'.cell? ⟨w.heap.size + 1, 6, none⟩ = some (.string y.text)) ∧ (w'.cell? ⟨g, o, none⟩ = some (.slice D dn dc) ∧ w'.cell? ⟨g, o + 1, none⟩ = some (.int .u64 u) ∧ w'.cell? ⟨g, o + 2, none⟩ = some (.int .i8 (kdOf x.null x.kind)) ∧ w'.cell? ⟨g, o + 3, none⟩ = some (.int .u8 x.de) ∧ w'.cell? ⟨g, o + 4, none⟩ = some (.int .u8 x.rep) ∧ w'.cell? ⟨g, o + 5, none⟩ = some (.int .u16 (65535 - x.col))))) (fun _ h => h.1) _ _ _ _ ?_
    have HS1 : Hid (∀ W, Below w8.heap.size w8 W → ((W.cell? ⟨w.heap.size, 0, none⟩ = some (.int .i64 x.col) ∧ W.cell? ⟨w.heap.size, 1, none⟩ = some (.int .i64 x.rep) ∧ W.cell? ⟨w.heap.size, 2, none⟩ = some (.int .i64 x.de) ∧ W.cell? ⟨w.heap.size, 3, none⟩ = some (.bool x.null) ∧ W.cell? ⟨w.heap.size, 4, none⟩ = some (.int .i64 x.kind) ∧ W.cell? ⟨w.heap.size, 5, none⟩ = some (.int .i64 x.num) ∧ W.cell? ⟨w.heap.size, 6, none⟩ = some (.string x.text) ∧ W.cell? ⟨w.heap.size + 1, 0, none⟩ = some (.int .i64 y.col) ∧ W.cell? ⟨w.heap.size + 1, 1, none⟩ = some (.int .i64 y.rep) ∧ W.cell? ⟨w.heap.size + 1, 2, none⟩ = some (.int .i64 y.de) ∧ W.cell? ⟨w.heap.size + 1, 3, none⟩ = some (.bool y.null) ∧ W.cell? ⟨w.heap.size + 1, 4, none⟩ = some (.int .i64 y.kind) ∧ W.cell? ⟨w.heap.size + 1, 5, none⟩ = some (.int .i64 y.num) ∧ W.cell? ⟨w.heap.size + 1, 6, none⟩ = some (.string y.text)) ∧ (W.cell? ⟨g, o, none⟩ = some (.slice D dn dc) ∧ W.cell? ⟨g, o + 1, none⟩ = some (.int .u64 u) ∧ W.cell? ⟨g, o + 2, none⟩ = some (.int .i8 (kdOf x.null x.kind)) ∧ W.cell? ⟨g, o + 3, none⟩ = some (.int .u8 x.de) ∧ W.cell? ⟨g, o + 4, none⟩ = some (.int .u8 x.rep) ∧ W.cell? ⟨g, o + 5, none⟩ = some (.int .u16 (65535 - x.col))))) := Lib.hid fun W hW => ⟨HS.out _ (HBn.out.trans (hW.mono HBn.out.size)), (V1a.out.keep hW).c0, (V1a.out.keep hW).c1, (V1a.out.keep hW).c2, (V1a.out.keep hW).c3, (V1a.out.keep hW).c4, (V1a.out.keep hW).c5⟩
    replace hHeld := HS1.out w8 (Below.refl _ _)
    refine Upto.take (i := 4) (v := ?_) at4 (by kernel_rfl) (by kernel_rfl) (by kernel_rfl) (by kernel_rfl) (fun _ _ _ h => h) (by rfl) ?_ hHeld ?_
    rotate_left
    · intro wS hSw
      try dsimp only at hSw
      go_simp
      try with_reducible rfl
    try simp only [Act.put, List.setIfInBounds_toArray, List.set_cons_zero, List.set_cons_succ]
    refine Upto.step (i := 7) (by kernel_rfl) at7 (fun K' hK => ?_)
    go_simp
    go_at_call 53
    refine (row53_one y HGY.out _ w8 ry).mono ?_
    rintro e w9 ⟨g2, o2, c2, D2, dn2, dc2, u2, rfl, hv2, hbc⟩
    try go_wp2_with fail
    have HB9 := Lib.hid (HB8.out.trans (hbc.mono HB8.out.size))
    have H79 := Lib.hid hbc
    have V2 := Lib.hid hv2
    clear hbc hv2
    refine hK.out _ _ (.inr (HS1.out _ H79.out)) (fun _ => ?_)
    clear hK K'
    replace hHeld := HS1.out _ H79.out
    try simp only [Act.put, List.setIfInBounds_toArray, List.set_cons_zero, List.set_cons_succ]
    have V1 := Lib.hid (V1a.out.keep H79.out)
    refine Upto.take (i := 8) (v := ?_) at8 (by kernel_rfl) (by kernel_rfl) (by kernel_rfl) (by kernel_rfl) (fun _ _ _ h => h) (by rfl) ?_ hHeld ?_
    rotate_left
    · intro wS hSw
      try dsimp only at hSw
      go_simp
      try with_reducible rfl
    try simp only [Act.put, List.setIfInBounds_toArray, List.set_cons_zero, List.set_cons_succ]
    refine Upto.weak (S' := (fun w' => ((w'.cell? ⟨w.heap.size, 0, none⟩ = some (.int .i64 x.col) ∧ w'.cell? ⟨w.heap.size, 1, none⟩ = some (.int .i64 x.rep) ∧ w'.cell? ⟨w.heap.size, 2, none⟩ = some (.int .i64 x.de) ∧ w'.cell? ⟨w.heap.size, 3, none⟩ = some (.bool x.null) ∧ w'.cell? ⟨w.heap.size, 4, none⟩ = some (.int .i64 x.kind) ∧ w'.cell? ⟨w.heap.size, 5, none⟩ = some (.int .i64 x.num) ∧ w'.cell? ⟨w.heap.size, 6, none⟩ = some (.string x.text) ∧ w'.cell? ⟨w.heap.size + 1, 0, none⟩ = some (.int .i64 y.col) ∧ w'.cell? ⟨w.heap.size + 1, 1, none⟩ = some (.int .i64 y.rep) ∧ w'.cell? ⟨w.heap.size + 1, 2, none⟩ = some (.int .i64 y.de) ∧ w'.cell? ⟨w.heap.size + 1, 3, none⟩ = some (.bool y.null) ∧ w'.cell? ⟨w.heap.size + 1, 4, none⟩ = some (.int .i64 y.kind) ∧ w'.cell? ⟨w.heap.size + 1, 5, none⟩ = some (.int .i64 y.num) ∧ w'.cell? ⟨w.heap.size + 1, 6, none⟩ = some (.string y.text)) ∧ (w'.cell? ⟨g, o, none⟩ = some (.slice D dn dc) ∧ w'.cell? ⟨g, o + 1, none⟩ = some (.int .u64 u) ∧ w'.cell? ⟨g, o + 2, none⟩ = some (.int .i8 (kdOf x.null x.kind)) ∧ w'.cell? ⟨g, o + 3, none⟩ = some (.int .u8 x.de) ∧ w'.cell? ⟨g, o + 4, none⟩ = some (.int .u8 x.rep) ∧ w'.cell? ⟨g, o + 5, none⟩ = some (.int .u16 (65535 - x.col)))) ∧ (w'.cell? ⟨g2, o2, none⟩ = some (.slice D2 dn2 dc2) ∧ w'.cell? ⟨g2, o2 + 1, none⟩ = some (.int .u64 u2) ∧ w'.cell? ⟨g2, o2 + 2, none⟩ = some (.int .i8 (kdOf y.null y.kind)) ∧ w'.cell? ⟨g2, o2 + 3, none⟩ = some (.int .u8 y.de) ∧ w'.cell? ⟨g2, o2 + 4, none⟩ = some (.int .u8 y.rep) ∧ w'.cell? ⟨g2, o2 + 5, none⟩ = some (.int .u16 (65535 - y.col))))) (fun _ h => h.1) _ _ _ _ ?_
    have hHeld : ((w9.cell? ⟨w.heap.size, 0, none⟩ = some (.int .i64 x.col) ∧ w9.cell? ⟨w.heap.size, 1, none⟩ = some (.int .i64 x.rep) ∧ w9.cell? ⟨w.heap.size, 2, none⟩ = some (.int .i64 x.de) ∧ w9.cell? ⟨w.heap.size, 3, none⟩ = some (.bool x.null) ∧ w9.cell? ⟨w.heap.size, 4, none⟩ = some (.int .i64 x.kind) ∧ w9.cell? ⟨w.heap.size, 5, none⟩ = some (.int .i64 x.num) ∧ w9.cell? ⟨w.heap.size, 6, none⟩ = some (.string x.text) ∧ w9.cell? ⟨w.heap.size + 1, 0, none⟩ = some (.int .i64 y.col) ∧ w9.cell? ⟨w.heap.size + 1, 1, none⟩ = some (.int .i64 y.rep) ∧ w9.cell? ⟨w.heap.size + 1, 2, none⟩ = some (.int .i64 y.de) ∧ w9.cell? ⟨w.heap.size + 1, 3, none⟩ = some (.bool y.null) ∧ w9.cell? ⟨w.heap.size + 1, 4, none⟩ = some (.int .i64 y.kind) ∧ w9.cell? ⟨w.heap.size + 1, 5, none⟩ = some (.int .i64 y.num) ∧ w9.cell? ⟨w.heap.size + 1, 6, none⟩ = some (.string y.text)) ∧ (w9.cell? ⟨g, o, none⟩ = some (.slice D dn dc) ∧ w9.cell? ⟨g, o + 1, none⟩ = some (.int .u64 u) ∧ w9.cell? ⟨g, o + 2, none⟩ = some (.int .i8 (kdOf x.null x.kind)) ∧ w9.cell? ⟨g, o + 3, none⟩ = some (.int .u8 x.de) ∧ w9.cell? ⟨g, o + 4, none⟩ = some (.int .u8 x.rep) ∧ w9.cell? ⟨g, o + 5, none⟩ = some (.int .u16 (65535 - x.col)))) ∧ (w9.cell? ⟨g2, o2, none⟩ = some (.slice D2 dn2 dc2) ∧ w9.cell? ⟨g2, o2 + 1, none⟩ = some (.int .u64 u2) ∧ w9.cell? ⟨g2, o2 + 2, none⟩ = some (.int .i8 (kdOf y.null y.kind)) ∧ w9.cell? ⟨g2, o2 + 3, none⟩ = some (.int .u8 y.de) ∧ w9.cell? ⟨g2, o2 + 4, none⟩ = some (.int .u8 y.rep) ∧ w9.cell? ⟨g2, o2 + 5, none⟩ = some (.int .u16 (65535 - y.col))) := ⟨HS1.out _ H79.out, V2.out.c0, V2.out.c1, V2.out.c2, V2.out.c3, V2.out.c4, V2.out.c5⟩
    refine Upto.take (i := 9) (v := ?_) at9 (by kernel_rfl) (by kernel_rfl) (by kernel_rfl) (by kernel_rfl) (fun _ _ _ h => h) (by rfl) ?_ hHeld ?_
    rotate_left
    · intro wS hSw
      try dsimp only at hSw
      go_simp
      try with_reducible rfl
    try simp only [Act.put, List.setIfInBounds_toArray, List.set_cons_zero, List.set_cons_succ]
    refine Upto.step (i := 10) (by kernel_rfl) at10 (fun K' hK => ?_)
    go_simp
    go_at_call 68
    refine (deep68 (sameV x y) D D2 dn dc dn2 dc2 u u2 _ _ _ _ _ _ _ _ w9 (fun W hW => equal67 x y HGX.out HGY.out _ _ _ _ D D2 dn dc dn2 dc2 u u2 _ _ _ _ _ _ W (V1.out.keep hW).vr (V2.out.keep hW).vr (Nat.le_refl _) (Nat.le_refl _))).mono ?_
    rintro e wz ⟨rfl, hbz⟩
    have HBZ := Lib.hid (HB9.out.trans (hbz.mono HB9.out.size))
    have H7Z := Lib.hid (H79.out.trans (hbz.mono H79.out.size))
    have V2Z := Lib.hid (V2.out.keep hbz)
    clear hbz
    try go_wp2_with fail
    refine hK.out _ _ (.inr ⟨HS1.out _ H7Z.out, V2Z.out.c0, V2Z.out.c1, V2Z.out.c2, V2Z.out.c3, V2Z.out.c4, V2Z.out.c5⟩) (fun _ => ?_)
    clear hK K'
    try simp only [Act.put, List.setIfInBounds_toArray, List.set_cons_zero, List.set_cons_succ]
    refine Upto.step (i := 11) (by kernel_rfl) at11 (fun K' hK => ?_)
    go_simp
    refine hK.out _ _ (.inl rfl) (fun _ => ?_)
    clear hK K'
    try simp only [Act.put, List.setIfInBounds_toArray, List.set_cons_zero, List.set_cons_succ]
    refine Upto.done (by kernel_rfl) ?_ _
    go_wp2_with fail
    go_ret
    exact ⟨ret_bool (sameCl_eq HGX.out.ok HGY.out.ok), HB5.out.trans (HBZ.out.mono HB5.out.size)⟩
end Go.Proofs.YtglgclkgppomiaaGreat
