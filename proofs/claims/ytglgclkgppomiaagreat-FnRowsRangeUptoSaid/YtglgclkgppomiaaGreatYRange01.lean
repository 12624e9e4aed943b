/- As cells47: whose the cells are that impl.cells hands back. The columns of spec's shredder in memory. Plain laws: the cells of a row of fields in a group that stands once, may be missing, or stands often; the first cell of each column; a field alone. Plain laws: a field alone has the cells that it has among others; rows in a group that stands often. -/
import Derived.Test.YtglgclkgppomiaaGreatZ05
import Derived.Test.YtglgclkgppomiaaGreatZ13
import Derived.Test.YtglgclkgppomiaaGreatZ15
set_option linter.unusedVariables false
set_option linter.unusedSimpArgs false
namespace Go.Proofs.YtglgclkgppomiaaGreat
open Go Go.RowKit

set_option maxRecDepth 100000 in
set_option maxHeartbeats 1000000 in
theorem cells47o (cs : List Cl) (A : Option Addr) (n c : Nat) (w : World) (hrow : RowAt w w.heap.size A n c cs) (hok : ∀ x ∈ cs, ClOk x) (hn : n ≤ 1000000000) :
    Calls Tryz.prog 47 #[.slice A n c] w fun e w' => ∃ v, e = .returned v ∧ w'.ownsRow w.heap.size 39 7 v n (clFlat cs) ∧ Below w.heap.size w w' := by
  have HROW := Lib.hid hrow
  have HOK := Lib.hid hok
  obtain ⟨i39, j1, j2, j3, j4⟩ := info_parts info39
  have J1 := Lib.hid j1
  have J2 := Lib.hid j2
  have J3 := Lib.hid j3
  have J4 := Lib.hid j4
  have hlen := hrow.1
  have HLEN := Lib.hid hlen
  clear hrow hok j1 j2 j3 j4 hlen
  go_enter Tryz.func47, Tryz.ntmps47
  go_wp2_with fail
  go_loopw [3, 9] (fun v i wr => ∃ (j : Nat), j ≤ n ∧ i = .int .i64 j ∧ wr.ownsRow w.heap.size 39 7 v j (clFlat (cs.take j)) ∧ Below w.heap.size w wr) (fun _ i _ => n - (intOf i).toNat)
  case atStart => exact ⟨0, Nat.zero_le _, rfl, World.ownsRow_nil _ _ _ _, Below.refl _ _⟩
  case round =>
    obtain ⟨j, hj, rfl, hown, hb5⟩ := hrel
    have HOWN := Lib.hid hown
    have HB5 := Lib.hid hb5
    clear hown
    by_cases hlt : j < n
    · obtain ⟨b, o, x, D, dn, dc, u, rfl, hb, hx, hv, c0, c1, c2, c3, c4, c5⟩ := HROW.out.at_ hlt
      have HX := Lib.hid hx
      have HV := Lib.hid hv
      have hxok := HOK.out x (List.mem_of_getElem? hx)
      have HXO := Lib.hid hxok
      have c0' := (bcell hb5 hb).trans c0
      have c1' := (bcell hb5 hb).trans c1
      have c2' := (bcell hb5 hb).trans c2
      have c3' := (bcell hb5 hb).trans c3
      have c4' := (bcell hb5 hb).trans c4
      have c5' := (bcell hb5 hb).trans c5
      have hnb : (kdOf x.null x.kind == 0) = x.null := by
        cases hxn : x.null with
        | true => rfl
        | false => have := kd_cases (hxok.there hxn).kd; simp [kdOf]; omega
      generalize hnl : x.null = nl at *
      have HNL := Lib.hid hnl
      have HNB := Lib.hid hnb
      have hj0 : (0 : Int) ≤ (j : Int) := Int.natCast_nonneg _
      have hj1 : (j : Int) < (n : Int) := by omega
      have hsz5 := hb5.size
      clear c0 c1 c2 c3 c4 c5 hx hv hxok hb5 hnl hnb
      go_wp2_with fail
      have x0 : RowB (wr.alloc (.cells #[.slice D dn dc, .int .u64 u, .int .i8 (kdOf nl x.kind), .int .u8 x.de, .int .u8 x.rep, .int .u16 (65535 - x.col)] 76)) wr.heap.size 76 (vCells D dn dc u (kdOf nl x.kind) x.de x.rep (65535 - x.col)) := RowB.new _ _ _
      have x3 := HOWN.out.alloc (.cells #[.slice D dn dc, .int .u64 u, .int .i8 (kdOf nl x.kind), .int .u8 x.de, .int .u8 x.rep, .int .u16 (65535 - x.col)] 76)
      have x4 : Below w.heap.size w (wr.alloc (.cells #[.slice D dn dc, .int .u64 u, .int .i8 (kdOf nl x.kind), .int .u8 x.de, .int .u8 x.rep, .int .u16 (65535 - x.col)] 76)) := HB5.out.alloc hsz5 _
      have x6 : (wr.alloc (.cells #[.slice D dn dc, .int .u64 u, .int .i8 (kdOf nl x.kind), .int .u8 x.de, .int .u8 x.rep, .int .u16 (65535 - x.col)] 76)).heap.size = wr.heap.size + 1 := size_alloc1 _ _
      have X3 := Lib.hid x3
      have X4 := Lib.hid x4
      have X0 := Lib.hid x0
      obtain ⟨k0, k1, k2, k3, k4, k5⟩ := x0.c6
      clear c0' c1' c2' c3' c4' c5' x3 x4 x0
      generalize (wr.alloc (.cells #[.slice D dn dc, .int .u64 u, .int .i8 (kdOf nl x.kind), .int .u8 x.de, .int .u8 x.rep, .int .u16 (65535 - x.col)] 76)) = w5 at *
      have S6 : ∀ W, Below w5.heap.size w5 W → W.cell? ⟨wr.heap.size, 0, none⟩ = some (.slice D dn dc) ∧ W.cell? ⟨wr.heap.size, 1, none⟩ = some (.int .u64 u) ∧ W.cell? ⟨wr.heap.size, 2, none⟩ = some (.int .i8 (kdOf nl x.kind)) ∧ W.cell? ⟨wr.heap.size, 3, none⟩ = some (.int .u8 x.de) ∧ W.cell? ⟨wr.heap.size, 4, none⟩ = some (.int .u8 x.rep) ∧ W.cell? ⟨wr.heap.size, 5, none⟩ = some (.int .u16 (65535 - x.col)) := fun W hW =>
        ⟨(bcell hW (by omega)).trans k0, (bcell hW (by omega)).trans k1, (bcell hW (by omega)).trans k2, (bcell hW (by omega)).trans k3, (bcell hW (by omega)).trans k4, (bcell hW (by omega)).trans k5⟩
      have S6 := Lib.hid S6
      have X6 := Lib.hid x6
      clear x6 k0 k1 k2 k3 k4 k5
      go_region_held3 (fun w' => w'.cell? ⟨wr.heap.size, 0, none⟩ = some (.slice D dn dc) ∧ w'.cell? ⟨wr.heap.size, 1, none⟩ = some (.int .u64 u) ∧ w'.cell? ⟨wr.heap.size, 2, none⟩ = some (.int .i8 (kdOf nl x.kind)) ∧ w'.cell? ⟨wr.heap.size, 3, none⟩ = some (.int .u8 x.de) ∧ w'.cell? ⟨wr.heap.size, 4, none⟩ = some (.int .u8 x.rep) ∧ w'.cell? ⟨wr.heap.size, 5, none⟩ = some (.int .u16 (65535 - x.col)))
        (first
          | (with_reducible exact S6.out _ hbAd)
          | (with_reducible exact S6.out _ (hbAd.alloc hbAd.size _))
          | (with_reducible exact S6.out _ (below_set7 hbAd hq _ _ _ _ _ _ _))
          | (with_reducible exact S6.out _ (below_set7 (hbAd.alloc hbAd.size _) hbAd.size _ _ _ _ _ _ _))
          | (with_reducible exact S6.out _ hbAc)
          | (with_reducible exact S6.out _ (hbAc.alloc hbAc.size _))
          | (with_reducible exact S6.out _ hbAb)
          | (with_reducible exact S6.out _ (hbAb.alloc hbAb.size _))
          | (with_reducible exact S6.out _ hbAa)
          | (with_reducible exact S6.out _ (hbAa.alloc hbAa.size _))
          | (with_reducible exact S6.out _ ((Below.refl w5.heap.size w5).drew))
          | (with_reducible exact S6.out _ ((Below.refl w5.heap.size w5).drew.alloc (Nat.le_refl _) _))
          | (with_reducible exact S6.out _ (((Below.refl w5.heap.size w5).alloc (Nat.le_refl _) _).drew)))
        (first
          | (go_at_call 71
             refine (col71i D dn dc u (kdOf nl x.kind) x.de x.rep x.col _ HXO.out.col).mono ?_
             rintro e wa ⟨rfl, hba⟩
             have hbAa : Below w5.heap.size w5 wa := by
               first
                 | exact ((Below.refl w5.heap.size w5).drew).trans (hba.mono ((Below.refl w5.heap.size w5).drew).size)
                 | exact (((Below.refl w5.heap.size w5).alloc (Nat.le_refl _) _).drew).trans (hba.mono (((Below.refl w5.heap.size w5).alloc (Nat.le_refl _) (.cells clZero 39)).drew).size)
                 | exact (((Below.refl w5.heap.size w5).drew).alloc ((Below.refl w5.heap.size w5).drew).size _).trans (hba.mono (Nat.le_trans ((Below.refl w5.heap.size w5).drew).size (by rw [size_alloc1]; exact Nat.le_succ _)))
             (first
               | (have rq : RowB wa w5.drew.heap.size 39 clZero := (RowB.new w5.drew 39 clZero).keep hba (by simp only [size_alloc1]; omega)
                  have hq : w5.heap.size ≤ w5.drew.heap.size := ((Below.refl w5.heap.size w5).drew).size)
               | (have rq : RowB wa w5.heap.size 39 clZero := (RowB.new w5 39 clZero).keep (below_of_drew hba) (by simp only [size_alloc1]; omega)
                  have hq : w5.heap.size ≤ w5.heap.size := Nat.le_refl _)
               | (have rq := rq.keep hba rq.lt)
               | skip))
          | (go_at_call 72
             refine (rep72 D dn dc u (kdOf nl x.kind) x.de x.rep (65535 - x.col) _ HXO.out.rep.1 HXO.out.rep.2).mono ?_
             rintro e wb ⟨rfl, hbb⟩
             have hbAb : Below w5.heap.size w5 wb := by
               first
                 | exact (hbAa).trans (hbb.mono (hbAa).size)
                 | exact (((Below.refl w5.heap.size w5).alloc (Nat.le_refl _) _).drew).trans (hbb.mono (((Below.refl w5.heap.size w5).alloc (Nat.le_refl _) (.cells clZero 39)).drew).size)
                 | exact ((hbAa).alloc (hbAa).size _).trans (hbb.mono (Nat.le_trans (hbAa).size (by rw [size_alloc1]; exact Nat.le_succ _)))
             (first
               | (have rq : RowB wb wa.heap.size 39 clZero := (RowB.new wa 39 clZero).keep hbb (by simp only [size_alloc1]; omega)
                  have hq : w5.heap.size ≤ wa.heap.size := (hbAa).size)
               | (have rq : RowB wb w5.heap.size 39 clZero := (RowB.new w5 39 clZero).keep (below_of_drew hbb) (by simp only [size_alloc1]; omega)
                  have hq : w5.heap.size ≤ w5.heap.size := Nat.le_refl _)
               | (have rq := rq.keep hbb rq.lt)
               | skip))
          | (go_at_call 73
             refine (def73 D dn dc u (kdOf nl x.kind) x.de x.rep (65535 - x.col) _ HXO.out.de.1 HXO.out.de.2).mono ?_
             rintro e wc ⟨rfl, hbc⟩
             have hbAc : Below w5.heap.size w5 wc := by
               first
                 | exact (hbAb).trans (hbc.mono (hbAb).size)
                 | exact (((Below.refl w5.heap.size w5).alloc (Nat.le_refl _) _).drew).trans (hbc.mono (((Below.refl w5.heap.size w5).alloc (Nat.le_refl _) (.cells clZero 39)).drew).size)
                 | exact ((hbAb).alloc (hbAb).size _).trans (hbc.mono (Nat.le_trans (hbAb).size (by rw [size_alloc1]; exact Nat.le_succ _)))
             (first
               | (have rq : RowB wc wb.heap.size 39 clZero := (RowB.new wb 39 clZero).keep hbc (by simp only [size_alloc1]; omega)
                  have hq : w5.heap.size ≤ wb.heap.size := (hbAb).size)
               | (have rq : RowB wc w5.heap.size 39 clZero := (RowB.new w5 39 clZero).keep (below_of_drew hbc) (by simp only [size_alloc1]; omega)
                  have hq : w5.heap.size ≤ w5.heap.size := Nat.le_refl _)
               | (have rq := rq.keep hbc rq.lt)
               | skip))
          | (go_at_call 74
             refine (null74i D dn dc u (kdOf nl x.kind) x.de x.rep (65535 - x.col) nl _ HNB.out).mono ?_
             rintro e wd ⟨rfl, hbd⟩
             have hbAd : Below w5.heap.size w5 wd := by
               first
                 | exact (hbAc).trans (hbd.mono (hbAc).size)
                 | exact (((Below.refl w5.heap.size w5).alloc (Nat.le_refl _) _).drew).trans (hbd.mono (((Below.refl w5.heap.size w5).alloc (Nat.le_refl _) (.cells clZero 39)).drew).size)
                 | exact ((hbAc).alloc (hbAc).size _).trans (hbd.mono (Nat.le_trans (hbAc).size (by rw [size_alloc1]; exact Nat.le_succ _)))
             (first
               | (have rq : RowB wd wc.heap.size 39 clZero := (RowB.new wc 39 clZero).keep hbd (by simp only [size_alloc1]; omega)
                  have hq : w5.heap.size ≤ wc.heap.size := (hbAc).size)
               | (have rq : RowB wd w5.heap.size 39 clZero := (RowB.new w5 39 clZero).keep (below_of_drew hbd) (by simp only [size_alloc1]; omega)
                  have hq : w5.heap.size ≤ w5.heap.size := Nat.le_refl _)
               | (have rq := rq.keep hbd rq.lt)
               | skip)
             (first
               | (obtain ⟨q0, q1, q2, q3, q4, q5, q6⟩ := rq.c7
                  obtain ⟨f0, f1, f2, f3, f4, f5, f6⟩ := rq.f7)
               | skip)))
      all_goals
        (first
          | (obtain ⟨W, q, hWe, hqe, rW, hW, hqW⟩ := outW (q := wd.heap.size) (RowB.new wd 39 #[.int .i64 x.col, .int .i64 x.rep, .int .i64 x.de, .bool nl, .int .i64 0, .int .i64 0, .string { data := #[] }]) (hbAd.alloc hbAd.size _) hbAd.size
             rw [← hWe, ← hqe])
          | (obtain ⟨W, q, hWe, hqe, rW, hW, hqW⟩ := outW (rq.set7 (.int .i64 x.col) (.int .i64 x.rep) (.int .i64 x.de) (.bool nl) (.int .i64 0) (.int .i64 0) (.string { data := #[] })) (below_set7 hbAd hq _ _ _ _ _ _ _) hq
             rw [← hWe, ← hqe]))
        have RW := Lib.hid rW
        have HW := Lib.hid hW
        obtain ⟨b0, b1, b2, b3, b4, b5⟩ := S6.out W hW
        obtain ⟨g0, g1, g2, g3, g4, g5, g6⟩ := rW.c7
        obtain ⟨y0, y1, y2, y3, y4, y5, y6⟩ := rW.f7
        have hqlt := rW.lt
        clear hWe hqe rW hW
        try clear q0 q1 q2 q3 q4 q5 q6 f0 f1 f2 f3 f4 f5 f6
        try clear rq hq
        try clear hba
        try clear hbb
        try clear hbc
        try clear hbd
        try clear hHeld
        clear hbAa hbAb hbAc hbAd
        cases nl with
        | true =>
          obtain ⟨z1, z2, z3⟩ := HXO.out.nul HNL.out
          have HF := HW
          have HOWNF := Lib.hid (X3.out.kept (row := none) ⟨HF.out.os, HF.out.tape, HF.out.output, HF.out.size, fun k hk _ => HF.out.block k hk⟩ (by cases u3.ownBlock <;> simp))
          have hvals : x.vals = [.int .i64 x.col, .int .i64 x.rep, .int .i64 x.de, .bool true, .int .i64 0, .int .i64 0, .string { data := #[] }] := by simp only [Cl.vals, HNL.out, z1, z2, z3]; rfl
          have HVALS := Lib.hid hvals
          have HSZF : Hid (∀ o, w.heap.size ≤ (W.alloc o).heap.size) := Lib.hid fun o => by
            have := HF.out.size; have := X6.out; rw [size_alloc1]; omega
          clear hvals z1 z2 z3
          go_wp2_with (at_builtin; refine wpList_append_lies _ rfl _ _ 26 rfl w.heap.size 39 i39 _ 7 64 Tryz.underlying26 J1.out J2.out J3.out J4.out rfl (by decide) u3 j (clFlat (cs.take j)) (by rfl) (HOWNF.out.alloc _) ⟨W.heap.size, 0, none⟩ 1 1 [.int .i64 x.col, .int .i64 x.rep, .int .i64 x.de, .bool true, .int .i64 0, .int .i64 0, .string { data := #[] }] (by rfl) rfl (World.news_of_block (heap_alloc_new _ _)) (by simp [Value.oneCell']) (by decide) (by simp only [maxLen]; omega) (by omega) (HSZF.out _) _ rfl ?_; intro g cap w' hown' hgrow hat hlt')
          have hb9 : Below w.heap.size w w' := (X4.out.trans (HF.out.mono X4.out.size)).trans (below_grownRow_alloc hgrow (X4.out.trans (HF.out.mono X4.out.size)).size (fun k hk => (HOWN.out.lt k hk).1))
          refine ⟨⟨j + 1, by omega, by go_num, ?_, hb9⟩, by simp [intOf]; omega⟩
          rw [List.take_add_one, HX.out]
          show World.ownsRow w' _ _ _ _ _ (clFlat (cs.take j ++ [x]))
          rw [clFlat_snoc, HVALS.out]
          exact hown'
        | false =>
          have hkd := kd_cases (HXO.out.there HNL.out).kd
          have HKD := Lib.hid hkd
          clear hkd
          go_wp2_with fail
          refine (kind75k D dn dc u x.kind x.de x.rep (65535 - x.col) _ (by have := HKD.out; omega)).mono ?_
          rintro e w8 ⟨rfl, hb8⟩
          have rW8 := RW.out.keep hb8 hqlt
          have hW8 : Below w5.heap.size w5 w8 := HW.out.trans (hb8.mono HW.out.size)
          have RW8 := Lib.hid (rW8.set 4 (.int .i64 (wrap64 x.kind)))
          have HW8 := Lib.hid (below_setCell hW8 (p := ⟨q, 4, none⟩) hqW (.int .i64 (wrap64 x.kind)))
          obtain ⟨g0, g1, g2, g3, g4, g5, g6⟩ := rW8.c7
          obtain ⟨y0, y1, y2, y3, y4, y5, y6⟩ := rW8.f7
          obtain ⟨b0, b1, b2, b3, b4, b5⟩ := S6.out _ HW8.out
          clear rW8 hW8 hb8 hqlt
          go_wp2_with fail
          refine (plain76k x.kind x.num x.text (HXO.out.there HNL.out) 0 w.heap.size D dn dc u x.de x.rep (65535 - x.col) _ (HV.out.frame (fun b' _ h => (HW8.out.block b' (by have := X6.out; omega)).trans (X4.out.block b' h)) (Nat.le_refl _) (Nat.le_refl _)) (by have := HW8.out.size; have := X6.out; omega)).mono ?_
          rintro e w9 ⟨rfl, hb9⟩
          have rW9 := RW8.out.keep hb9 RW8.out.lt
          have hW9 : Below w5.heap.size w5 w9 := HW8.out.trans (hb9.mono HW8.out.size)
          have HF := Lib.hid (below_setCell (below_setCell hW9 (p := ⟨q, 5, none⟩) hqW (.int .i64 x.num)) (p := ⟨q, 6, none⟩) hqW (.string x.text))
          have HOWNF := Lib.hid (X3.out.kept (row := none) ⟨HF.out.os, HF.out.tape, HF.out.output, HF.out.size, fun k hk _ => HF.out.block k hk⟩ (by cases u3.ownBlock <;> simp))
          have rF := (rW9.set 5 (.int .i64 x.num)).set 6 (.string x.text)
          obtain ⟨g0, g1, g2, g3, g4, g5, g6⟩ := rW9.c7
          obtain ⟨y0, y1, y2, y3, y4, y5, y6⟩ := rW9.f7
          obtain ⟨k0, k1, k2, k3, k4, k5, k6⟩ := rF.c7
          have hwk : wrap64 x.kind = x.kind := by have := HKD.out; unfold wrap64; omega
          have hvals : x.vals = [.int .i64 x.col, .int .i64 x.rep, .int .i64 x.de, .bool false, .int .i64 (wrap64 x.kind), .int .i64 x.num, .string x.text] := by simp only [Cl.vals, HNL.out, hwk]
          have HVALS := Lib.hid hvals
          have HSZF : Hid (∀ o, w.heap.size ≤ (((w9.setCell ⟨q, 5, none⟩ (.int .i64 x.num)).setCell ⟨q, 6, none⟩ (.string x.text)).alloc o).heap.size) := Lib.hid fun o => by
            have := HF.out.size; have := X6.out; rw [size_alloc1]; omega
          have HNEWF : Hid (∀ o, (((w9.setCell ⟨q, 5, none⟩ (.int .i64 x.num)).setCell ⟨q, 6, none⟩ (.string x.text)).alloc o).heap[w9.heap.size]? = some o) := Lib.hid fun o => by
            have e : ((w9.setCell ⟨q, 5, none⟩ (.int .i64 x.num)).setCell ⟨q, 6, none⟩ (.string x.text)).heap.size = w9.heap.size := by rw [setCell_size, setCell_size]
            rw [← e]
            exact heap_alloc_new _ _
          clear hvals hwk rW9 hW9 hb9 rF
          go_wp2_with (at_builtin; refine wpList_append_lies _ rfl _ _ 26 rfl w.heap.size 39 i39 _ 7 64 Tryz.underlying26 J1.out J2.out J3.out J4.out rfl (by decide) u3 j (clFlat (cs.take j)) (by rfl) (HOWNF.out.alloc _) ⟨w9.heap.size, 0, none⟩ 1 1 [.int .i64 x.col, .int .i64 x.rep, .int .i64 x.de, .bool false, .int .i64 (wrap64 x.kind), .int .i64 x.num, .string x.text] (by rfl) rfl (World.news_of_block (HNEWF.out _)) (by simp [Value.oneCell']) (by decide) (by simp only [maxLen]; omega) (by omega) (HSZF.out _) _ rfl ?_; intro g cap w' hown' hgrow hat hlt')
          have hb9 : Below w.heap.size w w' := (X4.out.trans (HF.out.mono X4.out.size)).trans (below_grownRow_alloc hgrow (X4.out.trans (HF.out.mono X4.out.size)).size (fun k hk => (HOWN.out.lt k hk).1))
          refine ⟨⟨j + 1, by omega, by go_num, ?_, hb9⟩, by simp [intOf]; omega⟩
          rw [List.take_add_one, HX.out]
          show World.ownsRow w' _ _ _ _ _ (clFlat (cs.take j ++ [x]))
          rw [clFlat_snoc, HVALS.out]
          exact hown'
    · obtain rfl : j = n := by omega
      go_wp2_with fail
      go_ret
      have hcl := HLEN.out
      exact ⟨_, rfl, by have := HOWN.out; rwa [List.take_of_length_le (show cs.length ≤ j by omega)] at this, HB5.out⟩
end Go.Proofs.YtglgclkgppomiaaGreat

namespace Go.Proofs.YtglgclkgppomiaaGreat
open Go Go.RowKit

theorem own_slice {w : World} {base n size : Nat} {e : TypeId} {v : Value} {xs : List Value} (h : w.ownsRow base e size v n xs) : ∃ A c, v = .slice A n c := by
  rcases h.2 with ⟨rfl, rfl⟩ | ⟨g, cap, cur, rfl, _⟩
  · exact ⟨none, 0, rfl⟩
  · exact ⟨_, cap, rfl⟩
theorem own_below {w w' : World} {base n size : Nat} {e : TypeId} {v : Value} {xs : List Value} (h : w.ownsRow base e size v n xs) (hb : Below w.heap.size w w') : w'.ownsRow base e size v n xs :=
  h.kept (row := none) ⟨hb.os, hb.tape, hb.output, hb.size, fun k hk _ => hb.block k hk⟩ (by cases v.ownBlock <;> simp)
theorem cls_append (a b : List Cl) : clFlat (a ++ b) = clFlat a ++ clFlat b := by simp [clFlat]
theorem cls_one (L : List Cl) : ∀ u ∈ clFlat L, u.oneCell' = true := fun u hu => by
  simp only [clFlat, List.mem_flatten, List.mem_map] at hu
  obtain ⟨l, ⟨x, _, rfl⟩, hu⟩ := hu
  simp only [Cl.vals, List.mem_cons, List.not_mem_nil, or_false] at hu
  rcases hu with rfl | rfl | rfl | rfl | rfl | rfl | rfl <;> rfl

/-- Each column is a row of its own. -/
structure ColsC (w : World) (B cb n : Nat) (log : List Cl) (vs : Nat → Value) : Prop where
  row : ∃ cs : Array Value, RowB w cb 26 cs ∧ cs.size = n ∧ ∀ j, j < n → cs[j]? = some (vs j)
  cbB : B ≤ cb
  own : ∀ j, j < n → w.ownsRow (cb + 1) 39 7 (vs j) (colOf log j).length (clFlat (colOf log j))
  apart : ∀ i j, i < n → j < n → i ≠ j → ∀ g, (vs i).ownBlock = some g → (vs j).ownBlock ≠ some g
theorem ColsC.lt {w : World} {B cb n : Nat} {log : List Cl} {vs : Nat → Value} (h : ColsC w B cb n log vs) : cb < w.heap.size := by
  obtain ⟨cs, hr, _⟩ := h.row
  exact hr.lt
theorem ColsC.slot {w : World} {B cb n : Nat} {log : List Cl} {vs : Nat → Value} (h : ColsC w B cb n log vs) {j : Nat} (hj : j < n) : w.cell? ⟨cb, j, none⟩ = some (vs j) ∧ w.frozen? ⟨cb, j, none⟩ = false := by
  obtain ⟨cs, hr, _, hc⟩ := h.row
  exact ⟨(hr.cell j).trans (hc j hj), hr.free j⟩
theorem ColsC.keep {w w' : World} {B cb n : Nat} {log : List Cl} {vs : Nat → Value} (h : ColsC w B cb n log vs) (hb : Below w.heap.size w w') : ColsC w' B cb n log vs := by
  obtain ⟨cs, hr, hs, hc⟩ := h.row
  exact ⟨⟨cs, hr.keep hb hr.lt, hs, hc⟩, h.cbB, fun j hj => own_below (h.own j hj) hb, h.apart⟩
theorem ColsC.push {w w1 w' : World} {B cb n : Nat} {log : List Cl} {vs : Nat → Value} (h : ColsC w B cb n log vs) (hb1 : Below w.heap.size w w1) {j : Nat} (hj : j < n) {x : Cl} (hx : x.col = (j : Int)) {g cap : Nat}
    (hown : w'.ownsRow (cb + 1) 39 7 (.slice (some ⟨g, 0, none⟩) ((colOf log j).length + 1) cap) ((colOf log j).length + 1) (clFlat (colOf log j) ++ x.vals)) (hgrow : w1.grownBy w' (vs j).ownBlock) (hat : (vs j).ownBlock = some g ∨ g = w1.heap.size) :
    ColsC (w'.setCell ⟨cb, j, none⟩ (.slice (some ⟨g, 0, none⟩) ((colOf log j).length + 1) cap)) B cb n (log ++ [x]) (fun i => if i = j then .slice (some ⟨g, 0, none⟩) ((colOf log j).length + 1) cap else vs i) ∧
    (∀ b, b < w.heap.size → b ≠ cb → (vs j).ownBlock ≠ some b → (w'.setCell ⟨cb, j, none⟩ (.slice (some ⟨g, 0, none⟩) ((colOf log j).length + 1) cap)).heap[b]? = w.heap[b]?) ∧
    (w'.setCell ⟨cb, j, none⟩ (.slice (some ⟨g, 0, none⟩) ((colOf log j).length + 1) cap)).os = w.os ∧ (w'.setCell ⟨cb, j, none⟩ (.slice (some ⟨g, 0, none⟩) ((colOf log j).length + 1) cap)).tape = w.tape ∧
    (w'.setCell ⟨cb, j, none⟩ (.slice (some ⟨g, 0, none⟩) ((colOf log j).length + 1) cap)).output = w.output ∧ w.heap.size ≤ (w'.setCell ⟨cb, j, none⟩ (.slice (some ⟨g, 0, none⟩) ((colOf log j).length + 1) cap)).heap.size := by
  obtain ⟨cs, hr, hs, hc⟩ := h.row
  have hsz1 := hb1.size
  have hlt := fun i hi => (h.own i hi).lt
  have hgl := hown.lt g rfl
  have hblk : ∀ b, b < w.heap.size → (vs j).ownBlock ≠ some b → w'.heap[b]? = w.heap[b]? := fun b hb hne => (hgrow.block b (by omega) (fun he => hne he.symm)).trans (hb1.block b hb)
  have hcb := hblk cb hr.lt (fun he => by have := (hlt j hj cb he).1; omega)
  generalize hS : Value.slice (some ⟨g, 0, none⟩) ((colOf log j).length + 1) cap = S at *
  have hSo : S.ownBlock = some g := by rw [← hS]; rfl
  have hcol : ∀ i, colOf (log ++ [x]) i = colOf log i ++ (if i = j then [x] else []) := fun i => by
    rw [colOf_snoc, hx]
    by_cases he : i = j
    · subst he; simp
    · rw [if_neg he, if_neg (by omega)]
  refine ⟨⟨⟨cs.setIfInBounds j S, (hr.of_eq hcb).set j S, by rw [Array.size_setIfInBounds]; exact hs, fun i hi => ?_⟩, h.cbB, fun i hi => ?_, fun i k hi hk hik q hq => ?_⟩, fun b hb h1 h2 => (setCell_other (b := b) w' ⟨cb, j, none⟩ _ h1).trans (hblk b hb h2), hgrow.os.trans hb1.os, hgrow.tape.trans hb1.tape, hgrow.output.trans hb1.output, by rw [setCell_size]; exact Nat.le_trans hsz1 hgrow.size⟩
  · by_cases he : i = j
    · subst he
      rw [Array.getElem?_setIfInBounds_self_of_lt (by rw [hs]; exact hi), if_pos rfl]
    · rw [Array.getElem?_setIfInBounds_ne (Ne.symm he), if_neg he]
      exact hc i hi
  · by_cases he : i = j
    · subst he
      rw [hcol, if_pos rfl, if_pos rfl, cls_append, List.length_append]
      have := ownsRow_setCell_below hown (a := ⟨cb, i, none⟩) (show cb < cb + 1 by omega) S
      simpa [clFlat] using this
    · rw [hcol, if_neg he, if_neg he, List.append_nil]
      have h1 : w'.ownsRow (cb + 1) 39 7 (vs i) (colOf log i).length (clFlat (colOf log i)) := (own_below (h.own i hi) hb1).kept hgrow (by
        cases hv : (vs i).ownBlock with
        | none => exact .inl rfl
        | some q => exact .inr fun hq => h.apart i j hi hj he q hv hq.symm)
      exact ownsRow_setCell_below h1 (a := ⟨cb, j, none⟩) (show cb < cb + 1 by omega) S
  · have hnew : ∀ i, i < n → i ≠ j → (vs i).ownBlock ≠ some g := fun i hi hne he => by
      rcases hat with h1 | h1
      · exact h.apart i j hi hj hne g he h1
      · have := (hlt i hi g he).2
        omega
    by_cases h1 : i = j
    · subst h1
      rw [if_pos rfl, hSo] at hq
      injection hq with hq
      subst hq
      rw [if_neg (Ne.symm hik)]
      exact hnew k hk (Ne.symm hik)
    · rw [if_neg h1] at hq
      by_cases h2 : k = j
      · subst h2
        rw [if_pos rfl, hSo]
        intro he
        injection he with he
        subst he
        exact hnew i hi h1 hq
      · rw [if_neg h2]
        exact h.apart i k hi hk hik q hq
/-- Columns that lie in none of the blocks K. -/
def ColsCK (w : World) (B cb n : Nat) (log : List Cl) (K : Nat → Prop) : Prop := ∃ vs, ColsC w B cb n log vs ∧ ¬ K cb ∧ ∀ j, j < n → ∀ g, (vs j).ownBlock = some g → ¬ K g
theorem ColsCK.keep {w w' : World} {B cb n : Nat} {log : List Cl} {K : Nat → Prop} (h : ColsCK w B cb n log K) (hb : Below w.heap.size w w') : ColsCK w' B cb n log K := by
  obtain ⟨vs, h, h1, h2⟩ := h
  exact ⟨vs, h.keep hb, h1, h2⟩
theorem ColsCK.less {w : World} {B cb n : Nat} {log : List Cl} {K K' : Nat → Prop} (h : ColsCK w B cb n log K) (hk : ∀ g, K' g → K g) : ColsCK w B cb n log K' := by
  obtain ⟨vs, h, h1, h2⟩ := h
  exact ⟨vs, h, fun h' => h1 (hk _ h'), fun j hj g hg h' => h2 j hj g hg (hk _ h')⟩
/-- The state of the shredder: its columns, and the block of its own. -/
structure ShW (w : World) (B cb n sb : Nat) (log : List Cl) (K : Nat → Prop) : Prop where
  cols : ColsCK w B cb n log K
  ksb : K sb
  ptr : w.cell? ⟨sb, 0, none⟩ = some (.slice (some ⟨cb, 0, none⟩) n n)
  kk : ∀ g, K g → g < w.heap.size
  bw : B ≤ w.heap.size
/-- The call ends, and the cells of the columns are those of the log. -/
def Shr (B cb n : Nat) (log : List Cl) (K : Nat → Prop) (w : World) (e : Ending) (w' : World) : Prop :=
  e = .returned (.tuple #[]) ∧ ColsCK w' B cb n log K ∧ Below B w w' ∧ ∀ g, K g → w'.heap[g]? = w.heap[g]?
theorem ShW.next {w w' : World} {B cb n sb : Nat} {log log' : List Cl} {K : Nat → Prop} (h : ShW w B cb n sb log K) (hc : ColsCK w' B cb n log' K) (hb : Below B w w') (hk : ∀ g, K g → w'.heap[g]? = w.heap[g]?) : ShW w' B cb n sb log' K :=
  ⟨hc, h.ksb, (World.cell?_of_block (a := ⟨sb, 0, none⟩) (hk sb h.ksb)).trans h.ptr, fun g hg => Nat.lt_of_lt_of_le (h.kk g hg) hb.size, Nat.le_trans h.bw hb.size⟩
/-- Blocks that were made behind are kept, too. -/
theorem ShW.box {w w1 : World} {B cb n sb : Nat} {log : List Cl} {K : Nat → Prop} (h : ShW w B cb n sb log K) (hb : Below w.heap.size w w1) : ShW w1 B cb n sb log (fun g => K g ∨ (w.heap.size ≤ g ∧ g < w1.heap.size)) := by
  have hlt := h.kk
  obtain ⟨vs, hc, h1, h2⟩ := h.cols
  refine ⟨⟨vs, hc.keep hb, fun h' => ?_, fun j hj g hg h' => ?_⟩, .inl h.ksb, (World.cell?_of_block (a := ⟨sb, 0, none⟩) (hb.block sb (hlt sb h.ksb))).trans h.ptr, fun g hg => ?_, Nat.le_trans h.bw hb.size⟩
  · rcases h' with h' | h'
    · exact h1 h'
    · have := hc.lt; omega
  · rcases h' with h' | h'
    · exact h2 j hj g hg h'
    · have := (hc.own j hj).lt g hg; omega
  · rcases hg with hg | hg
    · exact Nat.lt_of_lt_of_le (hlt g hg) hb.size
    · exact hg.2
/-- A call made behind some boxes is a call. -/
theorem Shr.behind {w w1 : World} {B cb n : Nat} {log : List Cl} {K : Nat → Prop} (hkk : ∀ g, K g → g < w.heap.size) (hB : B ≤ w.heap.size) (hb : Below w.heap.size w w1) {e : Ending} {w' : World} (h : Shr B cb n log (fun g => K g ∨ (w.heap.size ≤ g ∧ g < w1.heap.size)) w1 e w') : Shr B cb n log K w e w' := by
  obtain ⟨rfl, h1, h2, h3⟩ := h
  exact ⟨rfl, h1.less fun g hg => .inl hg, (hb.mono hB).trans h2, fun g hg => (h3 g (.inl hg)).trans (hb.block g (hkk g hg))⟩
theorem ShW.push {w w1 w' : World} {B cb n sb : Nat} {log : List Cl} {K : Nat → Prop} {vs : Nat → Value} (h : ShW w B cb n sb log K) (hc : ColsC w B cb n log vs) (hc1 : ¬ K cb) (hc2 : ∀ j, j < n → ∀ g, (vs j).ownBlock = some g → ¬ K g) (hb1 : Below w.heap.size w w1) {j : Nat} (hj : j < n) {x : Cl} (hx : x.col = (j : Int)) {g cap : Nat}
    (hown : w'.ownsRow (cb + 1) 39 7 (.slice (some ⟨g, 0, none⟩) ((colOf log j).length + 1) cap) ((colOf log j).length + 1) (clFlat (colOf log j) ++ x.vals)) (hgrow : w1.grownBy w' (vs j).ownBlock) (hat : (vs j).ownBlock = some g ∨ g = w1.heap.size) :
    ColsCK (w'.setCell ⟨cb, j, none⟩ (.slice (some ⟨g, 0, none⟩) ((colOf log j).length + 1) cap)) B cb n (log ++ [x]) K ∧ Below B w (w'.setCell ⟨cb, j, none⟩ (.slice (some ⟨g, 0, none⟩) ((colOf log j).length + 1) cap)) ∧
    ∀ b, K b → (w'.setCell ⟨cb, j, none⟩ (.slice (some ⟨g, 0, none⟩) ((colOf log j).length + 1) cap)).heap[b]? = w.heap[b]? := by
  obtain ⟨p1, p2, p3, p4, p5, p6⟩ := hc.push hb1 hj hx hown hgrow hat
  refine ⟨⟨_, p1, hc1, fun i hi q hq => ?_⟩, ⟨p3, p4, p5, p6, fun b hb => p2 b (Nat.lt_of_lt_of_le hb h.bw) (fun he => by have := hc.cbB; omega) (fun he => by have := (hc.own j hj).lt b he; have := hc.cbB; omega)⟩, fun b hb => p2 b (h.kk b hb) (fun he => hc1 (he ▸ hb)) (fun he => hc2 j hj b he hb)⟩
  by_cases he : i = j
  · rw [if_pos he] at hq
    injection hq with hq
    have hq' : g = q := hq
    subst hq'
    rcases hat with h1 | h1
    · exact hc2 j hj g h1
    · exact fun hk => by have := h.kk g hk; have := hb1.size; omega
  · rw [if_neg he] at hq
    exact hc2 i hi q hq
theorem nonesOf_succ (k col rep de : Nat) : nonesOf (k + 1) col rep de = nonesOf k col rep de ++ [⟨((col + k : Nat) : Int), rep, de, true, 0, 0, .empty⟩] := by
  simp [nonesOf, List.range_succ]
end Go.Proofs.YtglgclkgppomiaaGreat

namespace Go.Proofs.YtglgclkgppomiaaGreat
open Go Go.RowKit

/-- A cell moved. -/
def mv (a b c : Int) (x : Cl) : Cl := ⟨x.col + a, x.rep + b, x.de + c, x.null, x.kind, x.num, x.text⟩
theorem nones_mv (n col rep de a b c : Nat) : nonesOf n (col + a) (rep + b) (de + c) = (nonesOf n col rep de).map (mv a b c) := by
  unfold nonesOf
  rw [List.map_map]
  apply List.map_congr_left
  intro i _
  simp only [Function.comp_def, mv, Cl.mk.injEq, and_true]
  omega
def MvOnce (f : Fd) : Prop := ∀ (d : Dt) (col dep rep de a b c : Nat), shOnce f d (col + a) (dep + b) (rep + b) (de + c) = (shOnce f d col dep rep de).map (mv a b c)
theorem shField_mv {f : Fd} (h : MvOnce f) (d : Dt) (col dep rep de a b c : Nat) :
    shField f.way (leavesOf f) (fun d col dep rep de => shOnce f d col dep rep de) d (col + a) (dep + b) (rep + b) (de + c) = (shField f.way (leavesOf f) (fun d col dep rep de => shOnce f d col dep rep de) d col dep rep de).map (mv a b c) := by
  unfold shField
  split
  · split
    · exact nones_mv _ _ _ _ _ _ _
    · rw [show de + c + 1 = de + 1 + c by omega]; exact h d col dep rep (de + 1) a b c
  · split
    · cases d.items with
      | nil => exact nones_mv _ _ _ _ _ _ _
      | cons x xs =>
        show shOnce f x (col + a) (dep + b + 1) (rep + b) (de + c + 1) ++ (xs.map fun y => shOnce f y (col + a) (dep + b + 1) (dep + b + 1) (de + c + 1)).flatten = (shOnce f x col (dep + 1) rep (de + 1) ++ (xs.map fun y => shOnce f y col (dep + 1) (dep + 1) (de + 1)).flatten).map (mv a b c)
        rw [show dep + b + 1 = dep + 1 + b by omega, show de + c + 1 = de + 1 + c by omega, List.map_append, h, List.map_flatten, List.map_map]
        congr 2
        apply List.map_congr_left
        intro y _
        exact h y col (dep + 1) (dep + 1) (de + 1) a b c
    · exact h d col dep rep de a b c
theorem shFields_mvs : ∀ (fs : List Fd) (_ : ∀ f ∈ fs, MvOnce f) (ds : List Dt) (col dep rep de a b c : Nat), shFields fs ds (col + a) (dep + b) (rep + b) (de + c) = (shFields fs ds col dep rep de).map (mv a b c)
  | [], _, ds, col, dep, rep, de, a, b, c => by simp [shFields]
  | f :: r, h, ds, col, dep, rep, de, a, b, c => by
    simp only [shFields, List.map_append]
    rw [shField_mv (h f List.mem_cons_self), show col + a + leavesOf f = col + leavesOf f + a by omega, shFields_mvs r (fun g hg => h g (List.mem_cons_of_mem _ hg))]
theorem shOnce_kl {f : Fd} (hk : f.kids = []) (d : Dt) (col dep rep de : Nat) : shOnce f d col dep rep de = [⟨col, rep, de, false, f.kind, d.num, d.text⟩] := by
  rw [← shOnce_bare, hk]; exact shOnce_leaf _ _ _ _ _ _
theorem shOnce_kg {f : Fd} (hk : f.kids ≠ []) (d : Dt) (col dep rep de : Nat) : shOnce f d col dep rep de = shFields f.kids d.items col dep rep de := by
  rw [← shOnce_bare]; exact shOnce_group _ _ hk d col dep rep de
theorem mvOnce_all : ∀ (N : Nat) (f : Fd), fdSize f ≤ N → MvOnce f
  | 0, f, h => by have := fdSize_pos f; omega
  | N + 1, f, h => fun d col dep rep de a b c => by
    by_cases hk : f.kids = []
    · rw [shOnce_kl hk, shOnce_kl hk]
      simp [mv]
    · rw [shOnce_kg hk, shOnce_kg hk]
      refine shFields_mvs f.kids (fun g hg => ?_) d.items col dep rep de a b c
      obtain ⟨k, hk⟩ := List.mem_iff_getElem?.1 hg
      exact mvOnce_all N g (by have := fdsSize_get _ _ _ hk; have := fdSize_kids f; omega)
theorem shFields_mv (fs : List Fd) (ds : List Dt) (col dep rep de a b c : Nat) : shFields fs ds (col + a) (dep + b) (rep + b) (de + c) = (shFields fs ds col dep rep de).map (mv a b c) := shFields_mvs fs (fun f _ => mvOnce_all _ f (Nat.le_refl _)) ds col dep rep de a b c
theorem colOf_mv (L : List Cl) (a : Nat) (b c : Int) (j : Nat) : colOf (L.map (mv a b c)) (a + j) = (colOf L j).map (mv a b c) := by
  unfold colOf
  rw [List.filter_map]
  congr 1
  apply List.filter_congr
  intro x _
  show decide (x.col + (a : Int) = ((a + j : Nat) : Int)) = decide (x.col = (j : Int))
  by_cases h : x.col = (j : Int)
  · rw [decide_eq_true h, decide_eq_true (by omega)]
  · rw [decide_eq_false h, decide_eq_false (by omega)]
theorem parts_map (X : Nat → List Cl) (g : Cl → Cl) : ∀ n, parts (fun j => (X j).map g) n = (parts X n).map g
  | 0 => rfl
  | n + 1 => by rw [parts_succ, parts_succ, List.map_append, parts_map X g n]

/-! ### A group around the fields -/
/-- The group x of fields. -/
def gr (way : Int) (fs : List Fd) : Fd := .mk ⟨#[120]⟩ way 0 fs
theorem leaves_gr (way : Int) {fs : List Fd} (h : fs ≠ []) : leaves [gr way fs] = leaves fs := by
  simp only [leaves, Nat.add_zero]
  exact leavesOf_group (f := gr way fs) h
theorem shOnce_gr (way : Int) {fs : List Fd} (h : fs ≠ []) (d : Dt) (col dep rep de : Nat) : shOnce (gr way fs) d col dep rep de = shFields fs d.items col dep rep de := by
  rw [← shOnce_bare]; exact shOnce_group _ _ h d col dep rep de
theorem rowCells_group {fs : List Fd} (h : fs ≠ []) (ds : List Dt) : rowCells [gr 0 fs] [.mk false 0 .empty ds] = rowCells fs ds := by
  unfold rowCells
  rw [leaves_gr 0 h]
  congr 2
  simp only [shFields, List.append_nil, headDt]
  show shField 0 _ _ _ _ _ _ _ = _
  unfold shField
  rw [if_neg (by omega), if_neg (by omega)]
  exact shOnce_gr 0 h _ _ _ _ _
theorem rowCells_optional {fs : List Fd} (h : fs ≠ []) (ds : List Dt) : rowCells [gr 1 fs] [.mk false 0 .empty ds] = (rowCells fs ds).map (mv 0 0 1) := by
  unfold rowCells
  rw [leaves_gr 1 h, ← parts_map]
  apply parts_congr
  intro j _
  have e : shFields [gr 1 fs] [.mk false 0 .empty ds] 0 0 0 0 = (shFields fs ds 0 0 0 0).map (mv 0 0 1) := by
    have h1 := shFields_mv fs ds 0 0 0 0 0 0 1
    simp only [Nat.zero_add] at h1
    have h2 : shFields fs ds 0 0 0 1 = (shFields fs ds 0 0 0 0).map (mv 0 0 1) := h1
    rw [← h2]
    simp only [shFields, List.append_nil, headDt]
    show shField 1 _ _ _ _ _ _ _ = _
    unfold shField
    rw [if_pos rfl]
    simp only [Dt.none, Bool.false_eq_true, if_false]
    exact shOnce_gr 1 h _ _ _ _ _
  rw [e]
  have := colOf_mv (shFields fs ds 0 0 0 0) 0 0 1 j
  simpa using this
theorem rowCells_missing {fs : List Fd} (h : fs ≠ []) : rowCells [gr 1 fs] [.mk true 0 .empty []] = (List.range (leaves fs)).map fun (c : Nat) => (⟨(c : Int), 0, 0, true, 0, 0, .empty⟩ : Cl) := by
  unfold rowCells
  rw [leaves_gr 1 h]
  have e : shFields [gr 1 fs] [.mk true 0 .empty []] 0 0 0 0 = nonesOf (leaves fs) 0 0 0 := by
    have hl : leavesOf (gr 1 fs) = leaves fs := leavesOf_group (f := gr 1 fs) h
    simp only [shFields, List.append_nil, headDt]
    show shField 1 _ _ _ _ _ _ _ = _
    unfold shField
    rw [if_pos rfl]
    simp only [Dt.none, if_true]
    rw [hl]
  rw [e]
  have key : ∀ n, n ≤ leaves fs → parts (colOf (nonesOf (leaves fs) 0 0 0)) n = (List.range n).map fun (c : Nat) => (⟨(c : Int), 0, 0, true, 0, 0, .empty⟩ : Cl) := by
    intro n
    induction n with
    | zero => intro _; rfl
    | succ n ih =>
      intro hn
      have hc := colOf_nones (leaves fs) 0 0 0 n (by omega)
      simp only [Nat.zero_add] at hc
      rw [parts_succ, ih (by omega), hc, List.range_succ, List.map_append]
      rfl
  exact key _ (Nat.le_refl _)

/-! ### The first cell of each column -/
/-- What FnRowsFirst looks at, from a column on. -/
def firstOk : Int → List Cl → Int → Prop
  | last, [], l => last = l
  | last, x :: r, l => (x.rep = 0 ↔ x.col = last + 1) ∧ (x.col = last ∨ x.col = last + 1) ∧ firstOk x.col r l
theorem firstOk_append : ∀ (L M : List Cl) (a b c : Int), firstOk a L b → firstOk b M c → firstOk a (L ++ M) c
  | [], M, a, b, c, h1, h2 => by simp only [firstOk] at h1; subst h1; exact h2
  | x :: r, M, a, b, c, ⟨h1, h2, h3⟩, h4 => ⟨h1, h2, firstOk_append r M _ b c h3 h4⟩
theorem firstOk_same : ∀ (L : List Cl) (j : Int), (∀ x ∈ L, x.col = j ∧ x.rep ≠ 0) → firstOk j L j
  | [], j, _ => rfl
  | x :: r, j, h => by
    have hx := h x List.mem_cons_self
    refine ⟨⟨fun h0 => absurd h0 hx.2, fun h0 => by omega⟩, .inl hx.1, ?_⟩
    rw [hx.1]
    exact firstOk_same r j fun y hy => h y (List.mem_cons_of_mem _ hy)
theorem firstOk_row (fs : List Fd) (ds : List Dt) : firstOk (-1) (rowCells fs ds) ((leaves fs : Int) - 1) := by
  have hc := shCols fs ds 0 0 0 0
  have key : ∀ n, n ≤ leaves fs → firstOk (-1) (parts (colOf (shFields fs ds 0 0 0 0)) n) ((n : Int) - 1) := by
    intro n
    induction n with
    | zero => intro _; rfl
    | succ n ih =>
      intro hn
      rw [parts_succ]
      refine firstOk_append _ _ _ _ _ (ih (by omega)) ?_
      obtain ⟨h, t, e, hr, ht⟩ := hc.blk n (by omega)
      rw [Nat.zero_add] at e
      have hcol : ∀ x ∈ colOf (shFields fs ds 0 0 0 0) n, x.col = (n : Int) := fun x hx => by simpa [colOf] using (List.mem_filter.1 hx).2
      rw [e] at hcol ⊢
      have h1 := hcol h List.mem_cons_self
      refine ⟨⟨fun _ => by omega, fun _ => hr⟩, .inr (by omega), ?_⟩
      rw [h1]
      have := firstOk_same t (n : Int) (fun x hx => ⟨hcol x (List.mem_cons_of_mem _ hx), by have := ht x hx; omega⟩)
      rw [show ((n + 1 : Nat) : Int) - 1 = (n : Int) by omega]
      exact this
  exact key _ (Nat.le_refl _)
end Go.Proofs.YtglgclkgppomiaaGreat

namespace Go.Proofs.YtglgclkgppomiaaGreat
open Go Go.RowKit

/-- What spec.Between keeps. -/
def btw (a b : Int) (L : List Cl) : List Cl := L.filter fun x => decide (a ≤ x.col) && decide (x.col < b)
theorem btw_append (a b : Int) (L M : List Cl) : btw a b (L ++ M) = btw a b L ++ btw a b M := by simp [btw]
theorem btw_in {a b : Int} {L : List Cl} (h : ∀ x ∈ L, a ≤ x.col ∧ x.col < b) : btw a b L = L := by
  unfold btw
  rw [List.filter_eq_self]
  intro x hx
  have := h x hx
  simp [this]
theorem btw_out {a b : Int} {L : List Cl} (h : ∀ x ∈ L, x.col < a ∨ b ≤ x.col) : btw a b L = [] := by
  unfold btw
  rw [List.filter_eq_nil_iff]
  intro x hx
  have := h x hx
  simp; omega
theorem colOf_col {S : List Cl} {j : Nat} {x : Cl} (h : x ∈ colOf S j) : x.col = (j : Int) := by simpa [colOf] using (List.mem_filter.1 h).2
theorem btw_parts (S : List Cl) (a b n : Nat) (hab : a ≤ b) (hbn : b ≤ n) : btw a b (parts (colOf S) n) = parts (fun j => colOf S (a + j)) (b - a) := by
  have h1 : ∀ m, m ≤ a → btw a b (parts (colOf S) m) = [] := by
    intro m
    induction m with
    | zero => intro _; rfl
    | succ m ih =>
      intro hm
      rw [parts_succ, btw_append, ih (by omega), btw_out (fun x hx => by have := colOf_col hx; omega)]
      rfl
  have h2 : ∀ m, a + m ≤ b → btw a b (parts (colOf S) (a + m)) = parts (fun j => colOf S (a + j)) m := by
    intro m
    induction m with
    | zero => intro _; exact h1 a (Nat.le_refl _)
    | succ m ih =>
      intro hm
      rw [← Nat.add_assoc, parts_succ, btw_append, ih (by omega), btw_in (fun x hx => by have := colOf_col hx; omega), parts_succ]
  have h3 : ∀ m, btw a b (parts (colOf S) (b + m)) = btw a b (parts (colOf S) b) := by
    intro m
    induction m with
    | zero => rfl
    | succ m ih =>
      rw [← Nat.add_assoc, parts_succ, btw_append, ih, btw_out (L := colOf S (b + m)) (fun x hx => by have := colOf_col hx; omega), List.append_nil]
  have h4 := h3 (n - b)
  rw [show b + (n - b) = n by omega] at h4
  rw [h4]
  have h5 := h2 (b - a) (by omega)
  rw [show a + (b - a) = b by omega] at h5
  exact h5
theorem shFields_split : ∀ (fs : List Fd) (ds : List Dt) (k : Nat) (f : Fd) (d : Dt) (col dep rep de : Nat), fs[k]? = some f → ds[k]? = some d →
    shFields fs ds col dep rep de = shFields (fs.take k) (ds.take k) col dep rep de ++ (shField f.way (leavesOf f) (fun d col dep rep de => shOnce f d col dep rep de) d (col + leaves (fs.take k)) dep rep de ++
      shFields (fs.drop (k + 1)) (ds.drop (k + 1)) (col + leaves (fs.take (k + 1))) dep rep de)
  | [], _, k, f, d, _, _, _, _, h, _ => by simp at h
  | _ :: _, [], k, f, d, _, _, _, _, _, h => by simp at h
  | g :: fs, e :: ds, 0, f, d, col, dep, rep, de, hf, hd => by
    simp at hf hd
    subst hf hd
    simp [shFields, headDt, leaves]
  | g :: fs, e :: ds, k + 1, f, d, col, dep, rep, de, hf, hd => by
    have ih := shFields_split fs ds k f d (col + leavesOf g) dep rep de (by simpa using hf) (by simpa using hd)
    simp only [shFields, headDt, List.tail_cons, List.take_succ_cons, List.drop_succ_cons, leaves]
    rw [ih, List.append_assoc]
    simp only [Nat.add_assoc]
theorem shFields_one (f : Fd) (d : Dt) (col dep rep de : Nat) : shFields [f] [d] col dep rep de = shField f.way (leavesOf f) (fun d col dep rep de => shOnce f d col dep rep de) d col dep rep de := by
  simp [shFields, headDt]
/-- A field alone has the cells that it has among others. -/
theorem field_law {fs : List Fd} {ds : List Dt} {k : Nat} {f : Fd} {d : Dt} (hf : fs[k]? = some f) (hd : ds[k]? = some d) :
    (rowCells [f] [d]).map (mv (leaves (fs.take k)) 0 0) = btw (leaves (fs.take k)) (leaves (fs.take (k + 1))) (rowCells fs ds) := by
  have hs := leaves_snoc _ _ _ hf
  have hle : leaves (fs.take (k + 1)) ≤ leaves fs := by
    have := leaves_append (fs.take (k + 1)) (fs.drop (k + 1))
    rw [List.take_append_drop] at this
    omega
  unfold rowCells
  rw [btw_parts _ _ _ _ (by omega) hle, show leaves (fs.take (k + 1)) - leaves (fs.take k) = leavesOf f by omega, show leaves [f] = leavesOf f by simp [leaves], ← parts_map]
  apply parts_congr
  intro j hj
  have hsp := shFields_split fs ds k f d 0 0 0 0 hf hd
  have c1 := shCols (fs.take k) (ds.take k) 0 0 0 0
  have c2 := shCols (fs.drop (k + 1)) (ds.drop (k + 1)) (0 + leaves (fs.take (k + 1))) 0 0 0
  rw [hsp, colOf_append, colOf_append, colOf_out (L := shFields (fs.take k) (ds.take k) 0 0 0 0) (fun x hx => by have := c1.inc x hx; omega),
    colOf_out (L := shFields (fs.drop (k + 1)) (ds.drop (k + 1)) (0 + leaves (fs.take (k + 1))) 0 0 0) (fun x hx => by have := c2.inc x hx; omega), List.nil_append, List.append_nil, shFields_one]
  have hm := shField_mv (mvOnce_all _ f (Nat.le_refl _)) d 0 0 0 0 (leaves (fs.take k)) 0 0
  simp only [Nat.add_zero, Nat.zero_add] at hm ⊢
  rw [hm]
  exact (colOf_mv _ (leaves (fs.take k)) 0 0 j).symm

/-! ### One row's field alone is a row -/
theorem cntF_pos {f : Fd} {d : Int} {a : Nat} (h : cntF f d = some a) : 1 ≤ a := by
  by_cases hk : f.kids = []
  · rw [cntF_leaf hk] at h
    split at h
    · injection h with h; omega
    · cases h
  · rw [cntF_group hk] at h
    split at h
    · cases h
    · split at h
      · injection h with h; omega
      · cases h
theorem okHead_none {p : Option ByteArray} {f : Fd} {d : Int} (h : okHead p f d = true) : okHead none f d = true := by
  simp only [okHead, Bool.and_eq_true] at h ⊢
  exact ⟨⟨⟨⟨h.1.1.1.1, trivial⟩, h.1.1.2⟩, h.1.2⟩, h.2⟩
theorem isRow_one {fs : List Fd} {ds : List Dt} {k : Nat} {f : Fd} {d : Dt} (hr : isRow fs ds = true) (hf : fs[k]? = some f) (hd : ds[k]? = some d) : isRow [f] [d] = true := by
  simp only [isRow, Bool.and_eq_true, Option.isSome_iff_exists] at hr ⊢
  obtain ⟨ha, m, hm⟩ := hr
  simp only [areFields, Bool.and_eq_true, decide_eq_true_eq] at ha ⊢
  cases hc : cntL none fs 0 with
  | none => rw [hc] at ha; simp [optInt] at ha
  | some N =>
    rw [hc] at ha
    simp only [optInt] at ha
    have h1 : okHead (lastNm none (fs.take k)) f 0 = true := by
      cases hx : okHead (lastNm none (fs.take k)) f 0 with
      | true => rfl
      | false => rw [cntL_bad hf (.inl hx)] at hc; cases hc
    have h2 : cntF f 0 ≠ none := fun hx => by rw [cntL_bad hf (.inr hx)] at hc; cases hc
    cases hcf : cntF f 0 with
    | none => exact absurd hcf h2
    | some a =>
      have hpos := cntF_pos hcf
      have haN : a ≤ N := by
        rw [fs_split fs k f hf, cntL_append] at hc
        cases hp : cntL none (fs.take k) 0 with
        | none => rw [hp] at hc; cases hc
        | some m0 =>
          rw [hp] at hc
          simp only [cntL, h1, if_true, hcf] at hc
          cases hq : cntL (some f.name) (fs.drop (k + 1)) 0 with
          | none => rw [hq] at hc; cases hc
          | some b => rw [hq] at hc; simp at hc; omega
      have hone : cntL none [f] 0 = some a := by simp [cntL, okHead_none h1, hcf]
      rw [hone]
      refine ⟨⟨by simp only [optInt]; omega, by simp only [optInt]; omega⟩, ?_⟩
      rw [rowGo_split fs ds k f d 0 hf hd] at hm
      cases hp : rowGo (fs.take k) (ds.take k) 0 with
      | none => rw [hp] at hm; cases hm
      | some m0 =>
        rw [hp] at hm
        simp only [] at hm
        cases hq : dataC f d with
        | none => rw [hq] at hm; cases hm
        | some c =>
          rw [hq] at hm
          simp only [] at hm
          split at hm
          · cases hm
          · refine ⟨c, ?_⟩
            rw [rowGo_cons, hq]
            simp only [Nat.zero_add]
            rw [if_neg (by omega)]
            rfl

/-! ### Rows in a group that stands often -/
/-- The level of repetition of the first cell is set. -/
def setRep (r : Int) : List Cl → List Cl
  | [] => []
  | x :: t => ⟨x.col, r, x.de, x.null, x.kind, x.num, x.text⟩ :: t
theorem setRep_append (r : Int) {L : List Cl} (M : List Cl) (h : L ≠ []) : setRep r (L ++ M) = setRep r L ++ M := by
  cases L with
  | nil => exact absurd rfl h
  | cons x t => rfl
theorem setRep_blk {dep r : Nat} {L : List Cl} (h : Blk dep r L) : setRep r L = L := by
  obtain ⟨x, t, rfl, hr, _⟩ := h
  show _ :: t = x :: t
  congr 1
  cases x
  simp only [Cl.mk.injEq, and_true, true_and] at hr ⊢
  exact hr.symm
theorem Blk.ne {dep r : Nat} {L : List Cl} (h : Blk dep r L) : L ≠ [] := by
  obtain ⟨x, t, rfl, _⟩ := h
  simp
def RpOnce (f : Fd) : Prop := ∀ (d : Dt) (col dep de r r' j : Nat), j < leavesOf f → setRep r' (colOf (shOnce f d col dep r de) (col + j)) = colOf (shOnce f d col dep r' de) (col + j)
theorem nones_rp (n col de r r' j : Nat) (hj : j < n) : setRep r' (colOf (nonesOf n col r de) (col + j)) = colOf (nonesOf n col r' de) (col + j) := by
  rw [colOf_nones n col r de j hj, colOf_nones n col r' de j hj]; rfl
theorem shField_rp {f : Fd} (h : RpOnce f) (d : Dt) (col dep de r r' j : Nat) (hj : j < leavesOf f) :
    setRep r' (colOf (shField f.way (leavesOf f) (fun d col dep rep de => shOnce f d col dep rep de) d col dep r de) (col + j)) = colOf (shField f.way (leavesOf f) (fun d col dep rep de => shOnce f d col dep rep de) d col dep r' de) (col + j) := by
  unfold shField
  split
  · split
    · exact nones_rp _ _ _ _ _ _ hj
    · exact h d col dep (de + 1) r r' j hj
  · split
    · cases d.items with
      | nil => exact nones_rp _ _ _ _ _ _ hj
      | cons x xs =>
        show setRep r' (colOf (shOnce f x col (dep + 1) r (de + 1) ++ _) (col + j)) = colOf (shOnce f x col (dep + 1) r' (de + 1) ++ _) (col + j)
        rw [colOf_append, colOf_append, setRep_append _ _ ((onceCols f x col (dep + 1) r (de + 1)).blk j hj).ne, h x col (dep + 1) (de + 1) r r' j hj]
    · exact h d col dep de r r' j hj
theorem shFields_rps : ∀ (fs : List Fd) (_ : ∀ f ∈ fs, RpOnce f) (ds : List Dt) (col dep de r r' j : Nat), j < leaves fs → setRep r' (colOf (shFields fs ds col dep r de) (col + j)) = colOf (shFields fs ds col dep r' de) (col + j)
  | [], _, ds, col, dep, de, r, r', j, hj => by simp [leaves] at hj
  | f :: fs, h, ds, col, dep, de, r, r', j, hj => by
    simp only [leaves] at hj
    simp only [shFields]
    have c1 := fun r => shField_cols (onceCols f) (headDt ds) col dep r de
    have c2 := fun r => shCols fs ds.tail (col + leavesOf f) dep r de
    by_cases hjl : j < leavesOf f
    · rw [colOf_append, colOf_append, colOf_out (L := shFields fs ds.tail (col + leavesOf f) dep r de) (fun x hx => by have := (c2 r).inc x hx; omega),
        colOf_out (L := shFields fs ds.tail (col + leavesOf f) dep r' de) (fun x hx => by have := (c2 r').inc x hx; omega), List.append_nil, List.append_nil]
      exact shField_rp (h f List.mem_cons_self) (headDt ds) col dep de r r' j hjl
    · have := shFields_rps fs (fun g hg => h g (List.mem_cons_of_mem _ hg)) ds.tail (col + leavesOf f) dep de r r' (j - leavesOf f) (by omega)
      rw [show col + leavesOf f + (j - leavesOf f) = col + j by omega] at this
      rw [colOf_append, colOf_append, colOf_out (L := shField f.way (leavesOf f) (fun d col dep rep de => shOnce f d col dep rep de) (headDt ds) col dep r de) (fun x hx => by have := (c1 r).inc x hx; omega),
        colOf_out (L := shField f.way (leavesOf f) (fun d col dep rep de => shOnce f d col dep rep de) (headDt ds) col dep r' de) (fun x hx => by have := (c1 r').inc x hx; omega), List.nil_append, List.nil_append]
      exact this
theorem rpOnce_all : ∀ (N : Nat) (f : Fd), fdSize f ≤ N → RpOnce f
  | 0, f, h => by have := fdSize_pos f; omega
  | N + 1, f, h => fun d col dep de r r' j hj => by
    by_cases hk : f.kids = []
    · rw [leavesOf_leaf hk] at hj
      obtain rfl : j = 0 := by omega
      rw [shOnce_kl hk, shOnce_kl hk]
      simp [colOf, setRep]
    · rw [leavesOf_group hk] at hj
      rw [shOnce_kg hk, shOnce_kg hk]
      refine shFields_rps f.kids (fun g hg => ?_) d.items col dep de r r' j hj
      obtain ⟨k, hk⟩ := List.mem_iff_getElem?.1 hg
      exact rpOnce_all N g (by have := fdsSize_get _ _ _ hk; have := fdSize_kids f; omega)
/-- What FnRowsRepeated makes of the cells of one row in a column. -/
def ownOf (i : Nat) (fs : List Fd) (c : Nat) (row : List Dt) : List Cl := setRep ((min i 1 : Nat) : Int) ((btw c (c + 1 : Nat) (rowCells fs row)).map (mv 0 1 1))
def rowDt (row : List Dt) : Dt := .mk false 0 .empty row
theorem own_eq {fs : List Fd} {c : Nat} (hc : c < leaves fs) (row : List Dt) (i : Nat) : ownOf i fs c row = colOf (shFields fs row 0 1 (min i 1) 1) c := by
  unfold ownOf rowCells
  rw [btw_parts _ _ _ _ (by omega) (by omega), show c + 1 - c = 1 by omega, parts_succ, parts_zero, List.nil_append, Nat.add_zero]
  have h1 := shFields_mv fs row 0 0 0 0 0 1 1
  simp only [Nat.zero_add] at h1
  have h2 := colOf_mv (shFields fs row 0 0 0 0) 0 1 1 c
  rw [Nat.zero_add] at h2
  have h3 : (colOf (shFields fs row 0 0 0 0) c).map (mv 0 1 1) = colOf (shFields fs row 0 1 1 1) c := by
    rw [h1]; exact h2.symm
  rw [h3]
  have h4 := shFields_rps fs (fun f _ => rpOnce_all _ f (Nat.le_refl _)) row 0 1 1 1 (min i 1) c hc
  rw [Nat.zero_add] at h4
  exact h4
/-- The cells of rows from a place on, in a column. -/
def ownsFrom (fs : List Fd) (c : Nat) : Nat → List (List Dt) → List Cl
  | _, [] => []
  | i, row :: r => ownOf i fs c row ++ ownsFrom fs c (i + 1) r
theorem ownsFrom_later {fs : List Fd} {c : Nat} (hc : c < leaves fs) : ∀ (rows : List (List Dt)) (i : Nat), 1 ≤ i → ownsFrom fs c i rows = colOf ((rows.map fun row => shFields fs row 0 1 1 1).flatten) c
  | [], i, _ => rfl
  | row :: r, i, hi => by
    rw [ownsFrom, own_eq hc, ownsFrom_later hc r (i + 1) (by omega), List.map_cons, List.flatten_cons, colOf_append, show min i 1 = 1 by omega]
theorem rowCells_repeated {fs : List Fd} (h : fs ≠ []) (rows : List (List Dt)) (hr : rows ≠ []) : rowCells [gr 2 fs] [.mk false 0 .empty (rows.map rowDt)] = parts (fun c => ownsFrom fs c 0 rows) (leaves fs) := by
  unfold rowCells
  rw [leaves_gr 2 h]
  apply parts_congr
  intro c hc
  cases rows with
  | nil => exact absurd rfl hr
  | cons row r =>
    have hl : leavesOf (gr 2 fs) = leaves fs := leavesOf_group (f := gr 2 fs) h
    have e : shFields [gr 2 fs] [.mk false 0 .empty ((row :: r).map rowDt)] 0 0 0 0 = shFields fs row 0 1 0 1 ++ (r.map fun row => shFields fs row 0 1 1 1).flatten := by
      simp only [shFields, List.append_nil, headDt]
      show shField 2 _ _ _ _ _ _ _ = _
      unfold shField
      rw [if_neg (by omega), if_pos rfl]
      show shOnce (gr 2 fs) (rowDt row) 0 1 0 1 ++ (((r.map rowDt).map fun y => shOnce (gr 2 fs) y 0 1 1 1)).flatten = _
      rw [shOnce_gr 2 h, List.map_map]
      congr 2
      apply List.map_congr_left
      intro y _
      exact shOnce_gr 2 h _ _ _ _ _
    rw [e, colOf_append, ownsFrom, own_eq hc, ownsFrom_later hc r 1 (by omega)]
    rfl
end Go.Proofs.YtglgclkgppomiaaGreat
