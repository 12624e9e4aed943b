/- The walks of the laws FnRowsPut and FnRowsTaken. -/
import Derived.Test.YtglgclkgppomiaaGreatYPut03
import Derived.Test.YtglgclkgppomiaaGreatZ24
set_option linter.unusedVariables false
set_option linter.unusedSimpArgs false
namespace Go.Proofs.YtglgclkgppomiaaGreat
open Go Go.RowKit

set_option maxRecDepth 100000 in
set_option maxHeartbeats 2000000 in
theorem law10 {w : World} {A A2 : Option Addr} {n c n2 c2 : Nat} {fs : List Fd} {ds : List Dt} (hF : InF w A n c fs) (hD : InD w A2 n2 c2 ds) :
    Calls Tryz.prog 10 #[.slice A n c, .slice A2 n2 c2] w fun e w' => e = .returned (.bool true) ∧ Below w.heap.size w w' := by
  have HF := Lib.hid hF
  have HD := Lib.hid hD
  obtain ⟨s1, s2, s3⟩ := small_len hF.len.2
  obtain ⟨s4, s5, s6⟩ := small_len hD.len.2
  have HIS := Lib.hid (isRow19 hF hD)
  clear hF hD
  by_cases hr : isRow fs ds = true
  · have HR := Lib.hid (rowFacts hr HD.out.nf)
    rw [hr] at HIS
    clear hr
    go_enter Tryz.func10, Tryz.ntmps10
    go_wp2_with fail
    refine HIS.out.mono ?_
    rintro e w1 ⟨rfl, hb1⟩
    have HB1 := Lib.hid hb1
    clear hb1
    go_wp2_with fail
    refine (shred29 fs ds A n c A2 n2 c2 w1 (HF.out.mono HB1.out).at_ (HD.out.mono HB1.out).at_ HR.out).mono ?_
    rintro e w2 ⟨A3, c3, rfl, hc3, hb2⟩
    have HC3 := Lib.hid hc3
    have HB2 := Lib.hid (HB1.out.trans (hb2.mono HB1.out.size))
    clear hc3 hb2
    go_wp2_with fail
    refine (recon22 fs ds A n c A3 _ c3 w2 (HF.out.mono HB2.out).at_ HC3.out HR.out HD.out.nf (sh_texts fs HD.out.tx)).mono ?_
    rintro e w3 ⟨A4, c4, rfl, hd4, hb3⟩
    have HD4 := Lib.hid hd4
    have HB3 := Lib.hid (HB2.out.trans (hb3.mono HB2.out.size))
    clear hd4 hb3
    go_wp2_with fail
    refine (sameData_all 1000000000 (Nat.le_refl _) ds ds A4 ds.length c4 A2 n2 c2 w3 (by have := HR.out.dsize; omega) HD4.out (HD.out.mono HB3.out).at_).mono ?_
    rintro e w4 ⟨b, rfl, hb, hb4⟩
    obtain rfl : b = true := hb.2 rfl
    have HB4 := Lib.hid (HB3.out.trans (hb4.mono HB3.out.size))
    clear hb hb4
    go_wp2_with fail
    go_ret
    exact ⟨rfl, HB4.out⟩
  · have hr' : isRow fs ds = false := by simpa using hr
    rw [hr'] at HIS
    clear hr hr'
    go_enter Tryz.func10, Tryz.ntmps10
    go_wp2_with fail
    refine HIS.out.mono ?_
    rintro e w1 ⟨rfl, hb1⟩
    have HB1 := Lib.hid hb1
    clear hb1
    go_wp2_with fail
    refine (works20 w1).mono ?_
    rintro e w2 ⟨rfl, hb2⟩
    have HB2 := Lib.hid (HB1.out.trans (hb2.mono HB1.out.size))
    clear hb2
    go_wp2_with fail
    go_ret
    exact ⟨rfl, HB2.out⟩

set_option maxRecDepth 100000 in
set_option maxHeartbeats 2000000 in
theorem law12 {w : World} {A A2 : Option Addr} {n c n2 c2 : Nat} {fs : List Fd} {ds : List Dt} (hF : InF w A n c fs) (hD : InD w A2 n2 c2 ds) :
    Calls Tryz.prog 12 #[.slice A n c, .slice A2 n2 c2] w fun e w' => e = .returned (.bool true) ∧ Below w.heap.size w w' := by
  have HF := Lib.hid hF
  have HD := Lib.hid hD
  obtain ⟨s1, s2, s3⟩ := small_len hF.len.2
  obtain ⟨s4, s5, s6⟩ := small_len hD.len.2
  have HIS := Lib.hid (isRow19 hF hD)
  clear hF hD
  by_cases hr : isRow fs ds = true
  · have HR := Lib.hid (rowFacts hr HD.out.nf)
    rw [hr] at HIS
    clear hr
    go_enter Tryz.func12, Tryz.ntmps12
    go_wp2_with fail
    refine HIS.out.mono ?_
    rintro e w1 ⟨rfl, hb1⟩
    have HB1 := Lib.hid hb1
    clear hb1
    go_wp2_with fail
    refine (decon21 fs ds A n c A2 n2 c2 w1 (HF.out.mono HB1.out).at_ (HD.out.mono HB1.out).at_ HR.out).mono ?_
    rintro e w2 ⟨A3, c3, rfl, hc3, hb2⟩
    have HC3 := Lib.hid hc3
    have HB2 := Lib.hid (HB1.out.trans (hb2.mono HB1.out.size))
    clear hc3 hb2
    go_wp2_with fail
    refine (shred29 fs ds A n c A2 n2 c2 w2 (HF.out.mono HB2.out).at_ (HD.out.mono HB2.out).at_ HR.out).mono ?_
    rintro e w3 ⟨A4, c4, rfl, hc4, hb3⟩
    have HC4 := Lib.hid hc4
    have HC5 := Lib.hid (HC3.out.mono hb3 hb3.size)
    have HB3 := Lib.hid (HB2.out.trans (hb3.mono HB2.out.size))
    clear hc4 hb3
    go_wp2_with fail
    refine (sameCells_any (rowCells fs ds) (rowCells fs ds) A3 _ c3 A4 _ c4 w3 (by have := HR.out.plen; omega) HC5.out HC4.out).mono ?_
    rintro e w4 ⟨b, rfl, hb, hb4⟩
    obtain rfl : b = true := hb.2 rfl
    have HB4 := Lib.hid (HB3.out.trans (hb4.mono HB3.out.size))
    clear hb hb4
    go_wp2_with fail
    go_ret
    exact ⟨rfl, HB4.out⟩
  · have hr' : isRow fs ds = false := by simpa using hr
    rw [hr'] at HIS
    clear hr hr'
    go_enter Tryz.func12, Tryz.ntmps12
    go_wp2_with fail
    refine HIS.out.mono ?_
    rintro e w1 ⟨rfl, hb1⟩
    have HB1 := Lib.hid hb1
    clear hb1
    go_wp2_with fail
    refine (works20 w1).mono ?_
    rintro e w2 ⟨rfl, hb2⟩
    have HB2 := Lib.hid (HB1.out.trans (hb2.mono HB1.out.size))
    clear hb2
    go_wp2_with fail
    go_ret
    exact ⟨rfl, HB2.out⟩

end Go.Proofs.YtglgclkgppomiaaGreat
