/- The walk of the law FnRowsRange. -/
import Derived.Test.YtglgclkgppomiaaGreatYRange04
import Derived.Test.YtglgclkgppomiaaGreatZ24
set_option linter.unusedVariables false
set_option linter.unusedSimpArgs false
namespace Go.Proofs.YtglgclkgppomiaaGreat
open Go Go.RowKit

set_option maxRecDepth 100000 in
set_option maxHeartbeats 2000000 in
theorem law14 {w : World} {A A2 : Option Addr} {n c n2 c2 : Nat} {fs : List Fd} {ds : List Dt} (hF : InF w A n c fs) (hD : InD w A2 n2 c2 ds) :
    Calls Tryz.prog 14 #[.slice A n c, .slice A2 n2 c2] w fun e w' => e = .returned (.bool true) ∧ Below w.heap.size w w' := by
  have HF := Lib.hid hF
  have HD := Lib.hid hD
  obtain ⟨s1, s2, s3⟩ := small_len hF.len.2
  obtain ⟨s4, s5, s6⟩ := small_len hD.len.2
  have HIS := Lib.hid (isRow19 hF hD)
  clear hF hD
  by_cases hr : isRow fs ds = true
  · have HR := Lib.hid (rowFacts hr HD.out.nf)
    rw [hr] at HIS
    clear hr
    obtain ⟨nl, hnl⟩ : ∃ nl, nl = leaves fs := ⟨_, rfl⟩
    obtain ⟨X, hX⟩ : ∃ X, X = colOf (shFields fs ds 0 0 0 0) := ⟨_, rfl⟩
    have hrc : rowCells fs ds = parts X nl := by rw [hX, hnl]; rfl
    have hcol : ∀ j, j < nl → ∀ x ∈ X j, x.col = (j : Int) := fun j _ x hx => by rw [hX] at hx; exact colOf_col hx
    have hpos : ∀ j, j < nl → 1 ≤ (X j).length := fun j hj => by
      have h1 := ((shCols fs ds 0 0 0 0).blk j (by rw [← hnl]; exact hj)).ne
      rw [Nat.zero_add, ← hX] at h1
      exact List.length_pos_iff.2 h1
    have hn1 : 1 ≤ nl := by
      rw [hnl]; exact leaves_pos _ _ (Nat.le_refl _) HR.out.ne
    have hn2 : nl ≤ 300 := by rw [hnl]; exact HR.out.leaves
    have HRC := Lib.hid hrc
    have HNL := Lib.hid hnl
    have HX := Lib.hid hX
    have HCOL := Lib.hid hcol
    have HPOS := Lib.hid hpos
    clear hrc hnl hX hcol hpos
    go_enter Tryz.func14, Tryz.ntmps14
    go_wp2_with fail
    refine HIS.out.mono ?_
    rintro e w1 ⟨rfl, hb1⟩
    have HB1 := Lib.hid hb1
    clear hb1
    go_wp2_with fail
    refine (shred29 fs ds A n c A2 n2 c2 w1 (HF.out.mono HB1.out).at_ (HD.out.mono HB1.out).at_ HR.out).mono ?_
    rintro e w2 ⟨A3, c3, rfl, hc3, hb2⟩
    have HC3 := Lib.hid hc3
    have HB2 := Lib.hid (HB1.out.trans (hb2.mono HB1.out.size))
    clear hc3 hb2
    go_wp2_with fail
    refine (range32 nl X A3 _ c3 w2 (by have := HC3.out; rw [HRC.out] at this ⊢; exact this) (fun x hx => ⟨HR.out.ok x (by rw [HRC.out]; exact hx), by
      obtain ⟨j, hj, hx⟩ := mem_parts hx
      rw [HX.out] at hx
      exact sh_texts fs HD.out.tx x (List.mem_filter.1 hx).1⟩) (by have := HR.out.plen; omega) HCOL.out HPOS.out (by omega) hn1).mono ?_
    rintro e w3 ⟨v1, v2, B3, rfl, hB3, hown, hb3⟩
    obtain ⟨xs2, o1, o2, o3⟩ := hown
    obtain ⟨g1, d1, hv1, _, hg1⟩ := o1.form (by omega)
    obtain ⟨g2, d2, hv2, _, hg2⟩ := o2.form (by omega)
    subst hv1 hv2
    have hrd : ∀ j, j < nl → ∃ Aj cj, w3.cell? ⟨g1, j, none⟩ = some (.int .i64 (j : Int)) ∧ w3.cell? ⟨g2, j, none⟩ = some (.slice Aj (X j).length cj) ∧ ClsAt w3 w3.heap.size Aj (X j).length cj (X j) := fun j hj => by
      obtain ⟨v, hv, ho⟩ := o3 j hj
      obtain ⟨Aj, cj, rfl, hcl⟩ := clsAt_owns ho rfl
      exact ⟨Aj, cj, (o1.cellAt j (by omega)).trans (by simp [ints, hj]), (o2.cellAt j (by omega)).trans hv, hcl⟩
    have HRD := Lib.hid hrd
    have HB3 := Lib.hid (HB2.out.trans (hb3.mono HB2.out.size))
    clear hrd o1 o2 o3 hb3 hB3
    go_wp2_with fail
    refine (columns33 fs ds A n c A2 n2 c2 w3 (HF.out.mono HB3.out).at_ (HD.out.mono HB3.out).at_ HR.out).mono ?_
    rintro e w4 ⟨cb, vs, rfl, hc, hb4⟩
    rw [← HNL.out] at hc ⊢
    have hrd4 : ∀ j, j < nl → ∃ Aj cj Bj dj, w4.cell? ⟨g1, j, none⟩ = some (.int .i64 (j : Int)) ∧ w4.cell? ⟨g2, j, none⟩ = some (.slice Aj (X j).length cj) ∧ ClsAt w4 w4.heap.size Aj (X j).length cj (X j) ∧ w4.cell? ⟨cb, j, none⟩ = some (.slice Bj (X j).length dj) ∧ ClsAt w4 w4.heap.size Bj (X j).length dj (X j) := fun j hj => by
      obtain ⟨Aj, cj, h1, h2, h3⟩ := HRD.out j hj
      obtain ⟨Bj, dj, hv, hcl⟩ := clsAt_owns (hc.own j hj) rfl
      have hs := (hc.slot hj).1
      rw [hv, ← HX.out] at hs
      rw [← HX.out] at hcl
      exact ⟨Aj, cj, Bj, dj, (bcell hb4 hg1).trans h1, (bcell hb4 hg2).trans h2, h3.mono hb4 hb4.size, hs, hcl⟩
    have hcb := hc.lt
    have hsz4 := hb4.size
    have HRD4 := Lib.hid hrd4
    have HB4 := Lib.hid (HB3.out.trans (hb4.mono HB3.out.size))
    have hg1' : g1 < w4.heap.size := by omega
    have hg2' : g2 < w4.heap.size := by omega
    clear hrd4 hc hb4 hsz4 hg1 hg2
    go_wp2_with fail
    go_loopw [47] (fun i wr => ∃ (j : Nat), j ≤ nl ∧ i = .int .i64 j ∧ Below w4.heap.size w4 wr) (fun i _ => nl - (intOf i).toNat)
    case atStart => exact ⟨0, Nat.zero_le _, rfl, Below.refl _ _⟩
    case round =>
      obtain ⟨j, hj, rfl, hb5⟩ := hrel
      have HB5 := Lib.hid hb5
      clear hb5
      by_cases hlt : j < nl
      · obtain ⟨Aj, cj, Bj, dj, h1, h2, h3, h4, h5⟩ := HRD4.out j hlt
        have m1 := (bcell HB5.out hg1').trans h1
        have m2 := (bcell HB5.out hg2').trans h2
        have m3 := (bcell HB5.out hcb).trans h4
        have hXl : (X j).length ≤ 1000000000 := by
          have hp := HR.out.plen
          rw [HRC.out] at hp
          have := parts_length_le X (show j + 1 ≤ nl from hlt)
          rw [parts_succ, List.length_append] at this
          omega
        have HSC := Lib.hid (sameCells_any (X j) (X j) Aj _ cj Bj _ dj wr (by omega) (h3.mono HB5.out HB5.out.size) (h5.mono HB5.out HB5.out.size))
        have hj0 : (0 : Int) ≤ (j : Int) := Int.natCast_nonneg _
        have hj1 : (j : Int) < (nl : Int) := by omega
        clear h1 h2 h3 h4 h5
        go_wp2_with fail
        refine HSC.out.mono ?_
        rintro e w6 ⟨x, rfl, hx, hb6⟩
        obtain rfl : x = true := by simpa using hx
        have HB6 := Lib.hid (HB5.out.trans (hb6.mono HB5.out.size))
        clear hx hb6
        go_wp2_with fail
        refine ⟨⟨j + 1, by omega, by go_num, HB6.out⟩, by simp [intOf]; omega⟩
      · obtain rfl : j = nl := by omega
        go_wp2_with fail
        go_ret
        exact ⟨rfl, HB4.out.trans (HB5.out.mono HB4.out.size)⟩
  · have hr' : isRow fs ds = false := by simpa using hr
    rw [hr'] at HIS
    clear hr hr'
    go_enter Tryz.func14, Tryz.ntmps14
    go_wp2_with fail
    refine HIS.out.mono ?_
    rintro e w1 ⟨rfl, hb1⟩
    have HB1 := Lib.hid hb1
    clear hb1
    go_wp2_with fail
    refine (works20 w1).mono ?_
    rintro e w2 ⟨rfl, hb2⟩
    have HB2 := Lib.hid (HB1.out.trans (hb2.mono HB1.out.size))
    clear hb2
    go_wp2_with fail
    go_ret
    exact ⟨rfl, HB2.out⟩
end Go.Proofs.YtglgclkgppomiaaGreat
