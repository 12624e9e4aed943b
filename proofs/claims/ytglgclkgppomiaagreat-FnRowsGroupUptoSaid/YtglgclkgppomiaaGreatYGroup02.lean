/- The walks of the laws FnRowsGroup and FnRowsOptional: fields in a group. -/
import Derived.Test.YtglgclkgppomiaaGreatYGroup01
import Derived.Test.YtglgclkgppomiaaGreatZ24
set_option linter.unusedVariables false
set_option linter.unusedSimpArgs false
namespace Go.Proofs.YtglgclkgppomiaaGreat
open Go Go.RowKit

theorem inF_gr {W : World} {b : Nat} {way : Int} {A : Option Addr} {n c : Nat} {fs : List Fd} (hF : InF W A n c fs) (hs : fdsSize fs ≤ 300) (hr : RowB W b 41 #[.string ⟨#[120]⟩, .int .i64 way, .int .i64 0, .slice A n c]) : InF W (some ⟨b, 0, none⟩) 1 1 [gr way fs] where
  at_ := by
    have hl := hF.at_.len.1
    refine .mk b 0 1 1 _ (fun _ => A) (fun _ => c) hr.lt rfl (Nat.le_refl _) (fun k f hk => ?_) (fun k f hk => ?_)
    · cases k with
      | zero => simp at hk; subst hk; exact ⟨hr.cell 0, hr.cell 1, hr.cell 2, by show W.cell? ⟨b, 3, none⟩ = some (.slice A fs.length c); rw [hl]; exact hr.cell 3⟩
      | succ k => simp at hk
    · cases k with
      | zero => simp at hk; subst hk; show FdsAt W _ A fs.length c fs; rw [hl]; exact hF.at_
      | succ k => simp at hk
  nm := .mk _ (fun f hf => by simp at hf; subst hf; show (1 : Nat) ≤ _; omega) (fun f hf => by simp at hf; subst hf; exact hF.nm)
  sz := by
    have e : fdsSize [gr way fs] = 1 + fdsSize fs := by simp only [fdsSize, gr, fdSize, Nat.add_zero]
    rw [e]; omega
theorem inD_one {W : World} {b : Nat} {nn : Bool} {A : Option Addr} {n c : Nat} {ds : List Dt} (hD : InD W A n c ds) (hs : dtsSize ds ≤ 20000) (hr : RowB W b 43 #[.bool nn, .int .i64 0, .string .empty, .slice A n c]) : InD W (some ⟨b, 0, none⟩) 1 1 [.mk nn 0 .empty ds] where
  at_ := by
    have hl := hD.at_.len.1
    refine .mk b 0 1 1 _ (fun _ => A) (fun _ => c) hr.lt rfl (Nat.le_refl _) (fun k f hk => ?_) (fun k f hk => ?_)
    · cases k with
      | zero => simp at hk; subst hk; exact ⟨hr.cell 0, hr.cell 1, hr.cell 2, by show W.cell? ⟨b, 3, none⟩ = some (.slice A ds.length c); rw [hl]; exact hr.cell 3⟩
      | succ k => simp at hk
    · cases k with
      | zero => simp at hk; subst hk; show DtsAt W _ A ds.length c ds; rw [hl]; exact hD.at_
      | succ k => simp at hk
  tx := .mk _ (fun d hd => by simp at hd; subst hd; exact ⟨Nat.zero_le _, by have := dtsSize_length ds; show ds.length ≤ _; omega⟩) (fun d hd => by simp at hd; subst hd; exact hD.tx)
  nf := .mk _ (fun d hd => by simp at hd; subst hd; show -9223372036854775808 ≤ (0 : Int) ∧ (0 : Int) ≤ _; omega) (fun d hd => by simp at hd; subst hd; exact hD.nf)
  sz := by
    have e : dtsSize [Dt.mk nn 0 .empty ds] = 1 + dtsSize ds := by simp only [dtsSize, dtSize, Nat.add_zero]
    rw [e]; omega
theorem below2 (w : World) (o1 o2 : Obj) : Below w.heap.size w ((w.alloc o1).alloc o2) := ((Below.refl _ _).alloc (Nat.le_refl _) _).alloc (by rw [size_alloc1]; omega) _
theorem rowB_1 (w : World) (cs : Array Value) (t : TypeId) (o2 : Obj) : RowB ((w.alloc (.cells cs t)).alloc o2) w.heap.size t cs := (RowB.new w t cs).alloc _
theorem rowB_2 (w : World) (cs : Array Value) (t : TypeId) (o1 : Obj) : RowB ((w.alloc o1).alloc (.cells cs t)) (w.heap.size + 1) t cs := rowB_new (by rw [size_alloc1])

set_option maxRecDepth 100000 in
set_option maxHeartbeats 2000000 in
theorem law8 {w : World} {A A2 : Option Addr} {n c n2 c2 : Nat} {fs : List Fd} {ds : List Dt} (hF : InF w A n c fs) (hD : InD w A2 n2 c2 ds) :
    Calls Tryz.prog 8 #[.slice A n c, .slice A2 n2 c2] w fun e w' => e = .returned (.bool true) ∧ Below w.heap.size w w' := by
  obtain ⟨s1, s2, s3⟩ := small_len hF.len.2
  obtain ⟨s4, s5, s6⟩ := small_len hD.len.2
  have hbw := below2 w (.cells #[.string ⟨#[120]⟩, .int .i64 0, .int .i64 0, .slice A n c] 41) (.cells #[.bool false, .int .i64 0, .string .empty, .slice A2 n2 c2] 43)
  have hrow1 := rowB_1 w #[.string ⟨#[120]⟩, .int .i64 0, .int .i64 0, .slice A n c] 41 (.cells #[.bool false, .int .i64 0, .string .empty, .slice A2 n2 c2] 43)
  have hrow2 := rowB_2 w #[.bool false, .int .i64 0, .string .empty, .slice A2 n2 c2] 43 (.cells #[.string ⟨#[120]⟩, .int .i64 0, .int .i64 0, .slice A n c] 41)
  have HF := Lib.hid (hF.mono hbw)
  have HD := Lib.hid (hD.mono hbw)
  have HR1 := Lib.hid hrow1
  have HR2 := Lib.hid hrow2
  have HBW := Lib.hid hbw
  clear hF hD hrow1 hrow2 hbw
  by_cases hr : isRow fs ds = true
  · have HR := Lib.hid (rowFacts hr HD.out.nf)
    have hFG := inF_gr HF.out HR.out.size HR1.out
    have hDG := inD_one HD.out HR.out.dsize HR2.out
    have HFG := Lib.hid hFG
    have HDG := Lib.hid hDG
    have HIS := Lib.hid (isRow19 HF.out HD.out)
    rw [hr] at HIS
    clear hr hFG hDG
    by_cases hr2 : isRow [gr 0 fs] [.mk false 0 .empty ds] = true
    · have HR3 := Lib.hid (rowFacts hr2 HDG.out.nf)
      have HT := Lib.hid hr2
      clear hr2
      go_enter Tryz.func8, Tryz.ntmps8
      go_wp2_with fail
      refine HIS.out.mono ?_
      rintro e w1 ⟨rfl, hb1⟩
      have HFG1 := Lib.hid (HFG.out.mono hb1)
      have HDG1 := Lib.hid (HDG.out.mono hb1)
      have HF1 := Lib.hid (HF.out.mono hb1)
      have HD1 := Lib.hid (HD.out.mono hb1)
      have HB1 := Lib.hid (HBW.out.trans (hb1.mono HBW.out.size))
      clear hb1
      go_wp2_with fail
      have hi := isRow19 HFG1.out HDG1.out
      rw [HT.out] at hi
      refine hi.mono ?_
      clear hi
      rintro e w2 ⟨rfl, hb2⟩
      have HFG2 := Lib.hid (HFG1.out.mono hb2)
      have HDG2 := Lib.hid (HDG1.out.mono hb2)
      have HF2 := Lib.hid (HF1.out.mono hb2)
      have HD2 := Lib.hid (HD1.out.mono hb2)
      have HB2 := Lib.hid (HB1.out.trans (hb2.mono HB1.out.size))
      clear hb2
      go_wp2_with fail
      refine (decon21 fs ds A n c A2 n2 c2 w2 HF2.out.at_ HD2.out.at_ HR.out).mono ?_
      rintro e w3 ⟨A4, c4, rfl, hc4, hb3⟩
      have HC4 := Lib.hid hc4
      have HFG3 := Lib.hid (HFG2.out.mono hb3)
      have HDG3 := Lib.hid (HDG2.out.mono hb3)
      have HB3 := Lib.hid (HB2.out.trans (hb3.mono HB2.out.size))
      clear hc4 hb3
      go_wp2_with fail
      refine (both28 [gr 0 fs] [.mk false 0 .empty ds] _ 1 1 _ 1 1 A4 _ c4 w3 HFG3.out.at_ HDG3.out.at_ (by rw [rowCells_group HR.out.ne]; exact HC4.out) HR3.out HDG3.out.nf (sh_texts _ HDG3.out.tx)).mono ?_
      rintro e w4 ⟨rfl, hb4⟩
      have HB4 := Lib.hid (HB3.out.trans (hb4.mono HB3.out.size))
      clear hb4
      go_wp2_with fail
      go_ret
      exact ⟨rfl, HB4.out⟩
    · have hr3 : isRow [gr 0 fs] [.mk false 0 .empty ds] = false := by simpa using hr2
      have HT := Lib.hid hr3
      clear hr2 hr3
      go_enter Tryz.func8, Tryz.ntmps8
      go_wp2_with fail
      refine HIS.out.mono ?_
      rintro e w1 ⟨rfl, hb1⟩
      have HFG1 := Lib.hid (HFG.out.mono hb1)
      have HDG1 := Lib.hid (HDG.out.mono hb1)
      have HB1 := Lib.hid (HBW.out.trans (hb1.mono HBW.out.size))
      clear hb1
      go_wp2_with fail
      have hi := isRow19 HFG1.out HDG1.out
      rw [HT.out] at hi
      refine hi.mono ?_
      clear hi
      rintro e w2 ⟨rfl, hb2⟩
      have HB2 := Lib.hid (HB1.out.trans (hb2.mono HB1.out.size))
      clear hb2
      go_wp2_with fail
      refine (works20 w2).mono ?_
      rintro e w3 ⟨rfl, hb3⟩
      have HB3 := Lib.hid (HB2.out.trans (hb3.mono HB2.out.size))
      clear hb3
      go_wp2_with fail
      go_ret
      exact ⟨rfl, HB3.out⟩
  · have hr' : isRow fs ds = false := by simpa using hr
    have HIS := Lib.hid (isRow19 HF.out HD.out)
    rw [hr'] at HIS
    clear hr hr'
    go_enter Tryz.func8, Tryz.ntmps8
    go_wp2_with fail
    refine HIS.out.mono ?_
    rintro e w1 ⟨rfl, hb1⟩
    have HB1 := Lib.hid (HBW.out.trans (hb1.mono HBW.out.size))
    clear hb1
    go_wp2_with fail
    refine (works20 w1).mono ?_
    rintro e w2 ⟨rfl, hb2⟩
    have HB2 := Lib.hid (HB1.out.trans (hb2.mono HB1.out.size))
    clear hb2
    go_wp2_with fail
    go_ret
    exact ⟨rfl, HB2.out⟩
end Go.Proofs.YtglgclkgppomiaaGreat
