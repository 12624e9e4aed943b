/- The walks of the laws FnRowsBoth and FnRowsBack. -/
import Derived.Test.YtglgclkgppomiaaGreatZ24
set_option linter.unusedVariables false
set_option linter.unusedSimpArgs false
namespace Go.Proofs.YtglgclkgppomiaaGreat
open Go Go.RowKit

set_option maxRecDepth 100000 in
set_option maxHeartbeats 2000000 in
theorem law4 {w : World} {A A2 : Option Addr} {n c n2 c2 : Nat} {fs : List Fd} {ds : List Dt} (hF : InF w A n c fs) (hD : InD w A2 n2 c2 ds) :
    Calls Tryz.prog 4 #[.slice A n c, .slice A2 n2 c2] w fun e w' => e = .returned (.bool true) ∧ Below w.heap.size w w' := by
  have HF := Lib.hid hF
  have HD := Lib.hid hD
  obtain ⟨s1, s2, s3⟩ := small_len hF.len.2
  obtain ⟨s4, s5, s6⟩ := small_len hD.len.2
  have HIS := Lib.hid (isRow19 hF hD)
  clear hF hD
  by_cases hr : isRow fs ds = true
  · have HR := Lib.hid (rowFacts hr HD.out.nf)
    rw [hr] at HIS
    clear hr
    go_enter Tryz.func4, Tryz.ntmps4
    go_wp2_with fail
    refine HIS.out.mono ?_
    rintro e w1 ⟨rfl, hb1⟩
    have HB1 := Lib.hid hb1
    clear hb1
    go_wp2_with fail
    refine (decon21 fs ds A n c A2 n2 c2 w1 (HF.out.mono HB1.out).at_ (HD.out.mono HB1.out).at_ HR.out).mono ?_
    rintro e w2 ⟨A3, c3, rfl, hc3, hb2⟩
    have HC3 := Lib.hid hc3
    have HB2 := Lib.hid (HB1.out.trans (hb2.mono HB1.out.size))
    clear hc3 hb2
    go_wp2_with fail
    refine (recon22 fs ds A n c A3 _ c3 w2 (HF.out.mono HB2.out).at_ HC3.out HR.out HD.out.nf (sh_texts fs HD.out.tx)).mono ?_
    rintro e w3 ⟨A4, c4, rfl, hd4, hb3⟩
    have HD4 := Lib.hid hd4
    have HB3 := Lib.hid (HB2.out.trans (hb3.mono HB2.out.size))
    clear hd4 hb3
    go_wp2_with fail
    refine (sameData_all 1000000000 (Nat.le_refl _) ds ds A4 ds.length c4 A2 n2 c2 w3 (by have := HR.out.dsize; omega) HD4.out (HD.out.mono HB3.out).at_).mono ?_
    rintro e w4 ⟨b, rfl, hb, hb4⟩
    obtain rfl : b = true := hb.2 rfl
    have HB4 := Lib.hid (HB3.out.trans (hb4.mono HB3.out.size))
    clear hb hb4
    go_wp2_with fail
    go_ret
    exact ⟨rfl, HB4.out⟩
  · have hr' : isRow fs ds = false := by simpa using hr
    rw [hr'] at HIS
    clear hr hr'
    go_enter Tryz.func4, Tryz.ntmps4
    go_wp2_with fail
    refine HIS.out.mono ?_
    rintro e w1 ⟨rfl, hb1⟩
    have HB1 := Lib.hid hb1
    clear hb1
    go_wp2_with fail
    refine (works20 w1).mono ?_
    rintro e w2 ⟨rfl, hb2⟩
    have HB2 := Lib.hid (HB1.out.trans (hb2.mono HB1.out.size))
    clear hb2
    go_wp2_with fail
    go_ret
    exact ⟨rfl, HB2.out⟩

set_option maxRecDepth 100000 in
set_option maxHeartbeats 2000000 in
theorem law3 {w : World} {A A2 : Option Addr} {n c n2 c2 : Nat} {fs : List Fd} {ds : List Dt} (hF : InF w A n c fs) (hD : InD w A2 n2 c2 ds) :
    Calls Tryz.prog 3 #[.slice A n c, .slice A2 n2 c2] w fun e w' => e = .returned (.bool true) ∧ Below w.heap.size w w' := by
  have HF := Lib.hid hF
  have HD := Lib.hid hD
  obtain ⟨s1, s2, s3⟩ := small_len hF.len.2
  obtain ⟨s4, s5, s6⟩ := small_len hD.len.2
  have HIS := Lib.hid (isRow19 hF hD)
  clear hF hD
  by_cases hr : isRow fs ds = true
  · have HR := Lib.hid (rowFacts hr HD.out.nf)
    have HT := Lib.hid hr
    rw [hr] at HIS
    clear hr
    go_enter Tryz.func3, Tryz.ntmps3
    go_wp2_with fail
    refine HIS.out.mono ?_
    rintro e w1 ⟨rfl, hb1⟩
    have HB1 := Lib.hid hb1
    clear hb1
    go_wp2_with fail
    refine (decon21 fs ds A n c A2 n2 c2 w1 (HF.out.mono HB1.out).at_ (HD.out.mono HB1.out).at_ HR.out).mono ?_
    rintro e w2 ⟨A3, c3, rfl, hc3, hb2⟩
    have HC3 := Lib.hid hc3
    have HB2 := Lib.hid (HB1.out.trans (hb2.mono HB1.out.size))
    clear hc3 hb2
    go_wp2_with fail
    refine (recon22 fs ds A n c A3 _ c3 w2 (HF.out.mono HB2.out).at_ HC3.out HR.out HD.out.nf (sh_texts fs HD.out.tx)).mono ?_
    rintro e w3 ⟨A4, c4, rfl, hd4, hb3⟩
    have HG : Hid (InD w3 A4 ds.length c4 ds) := ⟨hd4, HD.out.tx, HD.out.nf, HD.out.sz⟩
    have HC4 := Lib.hid (HC3.out.mono hb3 hb3.size)
    have HB3 := Lib.hid (HB2.out.trans (hb3.mono HB2.out.size))
    clear hd4 hb3
    go_wp2_with fail
    have hi := isRow19 (HF.out.mono HB3.out) HG.out
    rw [HT.out] at hi
    refine hi.mono ?_
    clear hi
    rintro e w4 ⟨rfl, hb4⟩
    have HG4 := Lib.hid (HG.out.mono hb4)
    have HC5 := Lib.hid (HC4.out.mono hb4 hb4.size)
    have HB4 := Lib.hid (HB3.out.trans (hb4.mono HB3.out.size))
    clear hb4
    go_wp2_with fail
    refine (decon21 fs ds A n c A4 _ c4 w4 (HF.out.mono HB4.out).at_ HG4.out.at_ HR.out).mono ?_
    rintro e w5 ⟨A5, c5, rfl, hc5, hb5⟩
    have HC6 := Lib.hid hc5
    have HC7 := Lib.hid (HC5.out.mono hb5 hb5.size)
    have HB5 := Lib.hid (HB4.out.trans (hb5.mono HB4.out.size))
    clear hc5 hb5
    go_wp2_with fail
    refine (sameCells_any (rowCells fs ds) (rowCells fs ds) A5 _ c5 A3 _ c3 w5 (by have := HR.out.plen; omega) HC6.out HC7.out).mono ?_
    rintro e w6 ⟨b, rfl, hb, hb6⟩
    obtain rfl : b = true := hb.2 rfl
    have HB6 := Lib.hid (HB5.out.trans (hb6.mono HB5.out.size))
    clear hb hb6
    go_wp2_with fail
    go_ret
    exact ⟨rfl, HB6.out⟩
  · have hr' : isRow fs ds = false := by simpa using hr
    rw [hr'] at HIS
    clear hr hr'
    go_enter Tryz.func3, Tryz.ntmps3
    go_wp2_with fail
    refine HIS.out.mono ?_
    rintro e w1 ⟨rfl, hb1⟩
    have HB1 := Lib.hid hb1
    clear hb1
    go_wp2_with fail
    refine (works20 w1).mono ?_
    rintro e w2 ⟨rfl, hb2⟩
    have HB2 := Lib.hid (HB1.out.trans (hb2.mono HB1.out.size))
    clear hb2
    go_wp2_with fail
    go_ret
    exact ⟨rfl, HB2.out⟩
end Go.Proofs.YtglgclkgppomiaaGreat
