/- The walks of the laws FnRowsGroup and FnRowsOptional: fields in a group. The walk of the law FnRowsOptional. -/
import Derived.Test.YtglgclkgppomiaaGreatYOptional01
import Derived.Test.YtglgclkgppomiaaGreatZ24
set_option linter.unusedVariables false
set_option linter.unusedSimpArgs false
namespace Go.Proofs.YtglgclkgppomiaaGreat
open Go Go.RowKit

theorem inF_gr {W : World} {b : Nat} {way : Int} {A : Option Addr} {n c : Nat} {fs : List Fd} (hF : InF W A n c fs) (hs : fdsSize fs ≤ 300) (hr : RowB W b 41 #[.string ⟨#[120]⟩, .int .i64 way, .int .i64 0, .slice A n c]) : InF W (some ⟨b, 0, none⟩) 1 1 [gr way fs] where
  at_ := by
    have hl := hF.at_.len.1
    refine .mk b 0 1 1 _ (fun _ => A) (fun _ => c) hr.lt rfl (Nat.le_refl _) (fun k f hk => ?_) (fun k f hk => ?_)
    · cases k with
      | zero => simp at hk; subst hk; exact ⟨hr.cell 0, hr.cell 1, hr.cell 2, by show W.cell? ⟨b, 3, none⟩ = some (.slice A fs.length c); rw [hl]; exact hr.cell 3⟩
      | succ k => simp at hk
    · cases k with
      | zero => simp at hk; subst hk; show FdsAt W _ A fs.length c fs; rw [hl]; exact hF.at_
      | succ k => simp at hk
  nm := .mk _ (fun f hf => by simp at hf; subst hf; show (1 : Nat) ≤ _; omega) (fun f hf => by simp at hf; subst hf; exact hF.nm)
  sz := by
    have e : fdsSize [gr way fs] = 1 + fdsSize fs := by simp only [fdsSize, gr, fdSize, Nat.add_zero]
    rw [e]; omega
theorem inD_one {W : World} {b : Nat} {nn : Bool} {A : Option Addr} {n c : Nat} {ds : List Dt} (hD : InD W A n c ds) (hs : dtsSize ds ≤ 20000) (hr : RowB W b 43 #[.bool nn, .int .i64 0, .string .empty, .slice A n c]) : InD W (some ⟨b, 0, none⟩) 1 1 [.mk nn 0 .empty ds] where
  at_ := by
    have hl := hD.at_.len.1
    refine .mk b 0 1 1 _ (fun _ => A) (fun _ => c) hr.lt rfl (Nat.le_refl _) (fun k f hk => ?_) (fun k f hk => ?_)
    · cases k with
      | zero => simp at hk; subst hk; exact ⟨hr.cell 0, hr.cell 1, hr.cell 2, by show W.cell? ⟨b, 3, none⟩ = some (.slice A ds.length c); rw [hl]; exact hr.cell 3⟩
      | succ k => simp at hk
    · cases k with
      | zero => simp at hk; subst hk; show DtsAt W _ A ds.length c ds; rw [hl]; exact hD.at_
      | succ k => simp at hk
  tx := .mk _ (fun d hd => by simp at hd; subst hd; exact ⟨Nat.zero_le _, by have := dtsSize_length ds; show ds.length ≤ _; omega⟩) (fun d hd => by simp at hd; subst hd; exact hD.tx)
  nf := .mk _ (fun d hd => by simp at hd; subst hd; show -9223372036854775808 ≤ (0 : Int) ∧ (0 : Int) ≤ _; omega) (fun d hd => by simp at hd; subst hd; exact hD.nf)
  sz := by
    have e : dtsSize [Dt.mk nn 0 .empty ds] = 1 + dtsSize ds := by simp only [dtsSize, dtSize, Nat.add_zero]
    rw [e]; omega
theorem below2 (w : World) (o1 o2 : Obj) : Below w.heap.size w ((w.alloc o1).alloc o2) := ((Below.refl _ _).alloc (Nat.le_refl _) _).alloc (by rw [size_alloc1]; omega) _
theorem rowB_1 (w : World) (cs : Array Value) (t : TypeId) (o2 : Obj) : RowB ((w.alloc (.cells cs t)).alloc o2) w.heap.size t cs := (RowB.new w t cs).alloc _
theorem rowB_2 (w : World) (cs : Array Value) (t : TypeId) (o1 : Obj) : RowB ((w.alloc o1).alloc (.cells cs t)) (w.heap.size + 1) t cs := rowB_new (by rw [size_alloc1])

set_option maxRecDepth 100000 in
set_option maxHeartbeats 2000000 in
theorem law8 {w : World} {A A2 : Option Addr} {n c n2 c2 : Nat} {fs : List Fd} {ds : List Dt} (hF : InF w A n c fs) (hD : InD w A2 n2 c2 ds) :
    Calls Tryz.prog 8 #[.slice A n c, .slice A2 n2 c2] w fun e w' => e = .returned (.bool true) ∧ Below w.heap.size w w' := by
  obtain ⟨s1, s2, s3⟩ := small_len hF.len.2
  obtain ⟨s4, s5, s6⟩ := small_len hD.len.2
  have hbw := below2 w (.cells #[.string ⟨#[120]⟩, .int .i64 0, .int .i64 0, .slice A n c] 41) (.cells #[.bool false, .int .i64 0, .string .empty, .slice A2 n2 c2] 43)
  have hrow1 := rowB_1 w #[.string ⟨#[120]⟩, .int .i64 0, .int .i64 0, .slice A n c] 41 (.cells #[.bool false, .int .i64 0, .string .empty, .slice A2 n2 c2] 43)
  have hrow2 := rowB_2 w #[.bool false, .int .i64 0, .string .empty, .slice A2 n2 c2] 43 (.cells #[.string ⟨#[120]⟩, .int .i64 0, .int .i64 0, .slice A n c] 41)
  have HF := Lib.hid (hF.mono hbw)
  have HD := Lib.hid (hD.mono hbw)
  have HR1 := Lib.hid hrow1
  have HR2 := Lib.hid hrow2
  have HBW := Lib.hid hbw
  clear hF hD hrow1 hrow2 hbw
  by_cases hr : isRow fs ds = true
  · have HR := Lib.hid (rowFacts hr HD.out.nf)
    have hFG := inF_gr HF.out HR.out.size HR1.out
    have hDG := inD_one HD.out HR.out.dsize HR2.out
    have HFG := Lib.hid hFG
    have HDG := Lib.hid hDG
    have HIS := Lib.hid (isRow19 HF.out HD.out)
    rw [hr] at HIS
    clear hr hFG hDG
    by_cases hr2 : isRow [gr 0 fs] [.mk false 0 .empty ds] = true
    · have HR3 := Lib.hid (rowFacts hr2 HDG.out.nf)
      have HT := Lib.hid hr2
      clear hr2
      go_enter Tryz.func8, Tryz.ntmps8
      go_wp2_with fail
      refine HIS.out.mono ?_
      rintro e w1 ⟨rfl, hb1⟩
      have HFG1 := Lib.hid (HFG.out.mono hb1)
      have HDG1 := Lib.hid (HDG.out.mono hb1)
      have HF1 := Lib.hid (HF.out.mono hb1)
      have HD1 := Lib.hid (HD.out.mono hb1)
      have HB1 := Lib.hid (HBW.out.trans (hb1.mono HBW.out.size))
      clear hb1
      go_wp2_with fail
      have hi := isRow19 HFG1.out HDG1.out
      rw [HT.out] at hi
      refine hi.mono ?_
      clear hi
      rintro e w2 ⟨rfl, hb2⟩
      have HFG2 := Lib.hid (HFG1.out.mono hb2)
      have HDG2 := Lib.hid (HDG1.out.mono hb2)
      have HF2 := Lib.hid (HF1.out.mono hb2)
      have HD2 := Lib.hid (HD1.out.mono hb2)
      have HB2 := Lib.hid (HB1.out.trans (hb2.mono HB1.out.size))
      clear hb2
      go_wp2_with fail
      refine (decon21 fs ds A n c A2 n2 c2 w2 HF2.out.at_ HD2.out.at_ HR.out).mono ?_
      rintro e w3 ⟨A4, c4, rfl, hc4, hb3⟩
      have HC4 := Lib.hid hc4
      have HFG3 := Lib.hid (HFG2.out.mono hb3)
      have HDG3 := Lib.hid (HDG2.out.mono hb3)
      have HB3 := Lib.hid (HB2.out.trans (hb3.mono HB2.out.size))
      clear hc4 hb3
      go_wp2_with fail
      refine (both28 [gr 0 fs] [.mk false 0 .empty ds] _ 1 1 _ 1 1 A4 _ c4 w3 HFG3.out.at_ HDG3.out.at_ (by rw [rowCells_group HR.out.ne]; exact HC4.out) HR3.out HDG3.out.nf (sh_texts _ HDG3.out.tx)).mono ?_
      rintro e w4 ⟨rfl, hb4⟩
      have HB4 := Lib.hid (HB3.out.trans (hb4.mono HB3.out.size))
      clear hb4
      go_wp2_with fail
      go_ret
      exact ⟨rfl, HB4.out⟩
    · have hr3 : isRow [gr 0 fs] [.mk false 0 .empty ds] = false := by simpa using hr2
      have HT := Lib.hid hr3
      clear hr2 hr3
      go_enter Tryz.func8, Tryz.ntmps8
      go_wp2_with fail
      refine HIS.out.mono ?_
      rintro e w1 ⟨rfl, hb1⟩
      have HFG1 := Lib.hid (HFG.out.mono hb1)
      have HDG1 := Lib.hid (HDG.out.mono hb1)
      have HB1 := Lib.hid (HBW.out.trans (hb1.mono HBW.out.size))
      clear hb1
      go_wp2_with fail
      have hi := isRow19 HFG1.out HDG1.out
      rw [HT.out] at hi
      refine hi.mono ?_
      clear hi
      rintro e w2 ⟨rfl, hb2⟩
      have HB2 := Lib.hid (HB1.out.trans (hb2.mono HB1.out.size))
      clear hb2
      go_wp2_with fail
      refine (works20 w2).mono ?_
      rintro e w3 ⟨rfl, hb3⟩
      have HB3 := Lib.hid (HB2.out.trans (hb3.mono HB2.out.size))
      clear hb3
      go_wp2_with fail
      go_ret
      exact ⟨rfl, HB3.out⟩
  · have hr' : isRow fs ds = false := by simpa using hr
    have HIS := Lib.hid (isRow19 HF.out HD.out)
    rw [hr'] at HIS
    clear hr hr'
    go_enter Tryz.func8, Tryz.ntmps8
    go_wp2_with fail
    refine HIS.out.mono ?_
    rintro e w1 ⟨rfl, hb1⟩
    have HB1 := Lib.hid (HBW.out.trans (hb1.mono HBW.out.size))
    clear hb1
    go_wp2_with fail
    refine (works20 w1).mono ?_
    rintro e w2 ⟨rfl, hb2⟩
    have HB2 := Lib.hid (HB1.out.trans (hb2.mono HB1.out.size))
    clear hb2
    go_wp2_with fail
    go_ret
    exact ⟨rfl, HB2.out⟩
end Go.Proofs.YtglgclkgppomiaaGreat

namespace Go.Proofs.YtglgclkgppomiaaGreat
open Go Go.RowKit

/-- A column's only cell, without a value. -/
def noCell (c : Nat) : Cl := ⟨(c : Int), 0, 0, true, 0, 0, .empty⟩
theorem isRow_missing {fs : List Fd} (ha : areFields [gr 1 fs] = true) : isRow [gr 1 fs] [.mk true 0 .empty []] = true := by
  have h : dataC (gr 1 fs) (.mk true 0 .empty []) = some 1 := by
    unfold dataC dataOf
    rw [if_pos ⟨rfl, rfl⟩, if_pos ⟨rfl, rfl, rfl⟩]
  simp only [isRow, ha, Bool.true_and]
  rw [rowGo_cons, h]
  simp [rowGo]
theorem isRow_fields {fs : List Fd} {ds : List Dt} (h : isRow fs ds = true) : areFields fs = true := by
  simp only [isRow, Bool.and_eq_true] at h
  exact h.1
theorem RowFacts.small {fs : List Fd} {ds : List Dt} (h : RowFacts fs ds) : ∀ x ∈ rowCells fs ds, (0 ≤ x.col ∧ x.col ≤ 1000000) ∧ (0 ≤ x.rep ∧ x.rep ≤ 1000000) ∧ (0 ≤ x.de ∧ x.de ≤ 1000000) := fun x hx => by
  obtain ⟨j, hj, hx⟩ := mem_parts hx
  have hc := h.cells x (List.mem_filter.1 hx).1
  have h1 := hc.lo; have h2 := hc.hi; have h3 := hc.rep; have h4 := hc.de; have h5 := h.leaves
  omega

set_option maxRecDepth 100000 in
set_option maxHeartbeats 4000000 in
theorem law9 {w : World} {A A2 : Option Addr} {n c n2 c2 : Nat} {fs : List Fd} {ds : List Dt} (hF : InF w A n c fs) (hD : InD w A2 n2 c2 ds) :
    Calls Tryz.prog 9 #[.slice A n c, .slice A2 n2 c2] w fun e w' => e = .returned (.bool true) ∧ Below w.heap.size w w' := by
  obtain ⟨s1, s2, s3⟩ := small_len hF.len.2
  obtain ⟨s4, s5, s6⟩ := small_len hD.len.2
  have hbw := below2 w (.cells #[.string ⟨#[120]⟩, .int .i64 1, .int .i64 0, .slice A n c] 41) (.cells #[.bool false, .int .i64 0, .string .empty, .slice A2 n2 c2] 43)
  have hrow1 := rowB_1 w #[.string ⟨#[120]⟩, .int .i64 1, .int .i64 0, .slice A n c] 41 (.cells #[.bool false, .int .i64 0, .string .empty, .slice A2 n2 c2] 43)
  have hrow2 := rowB_2 w #[.bool false, .int .i64 0, .string .empty, .slice A2 n2 c2] 43 (.cells #[.string ⟨#[120]⟩, .int .i64 1, .int .i64 0, .slice A n c] 41)
  have HF := Lib.hid (hF.mono hbw)
  have HD := Lib.hid (hD.mono hbw)
  have HR1 := Lib.hid hrow1
  have HR2 := Lib.hid hrow2
  have HBW := Lib.hid hbw
  obtain ⟨i39, j1, j2, j3, j4⟩ := info_parts info39
  have J1 := Lib.hid j1
  have J2 := Lib.hid j2
  have J3 := Lib.hid j3
  have J4 := Lib.hid j4
  clear hF hD hrow1 hrow2 hbw j1 j2 j3 j4
  by_cases hr : isRow fs ds = true
  · have HR := Lib.hid (rowFacts hr HD.out.nf)
    have hlv := HR.out.leaves
    have hpl := HR.out.plen
    have hFG := inF_gr HF.out HR.out.size HR1.out
    have hDG := inD_one HD.out HR.out.dsize HR2.out
    have HFG := Lib.hid hFG
    have HDG := Lib.hid hDG
    have HIS := Lib.hid (isRow19 HF.out HD.out)
    rw [hr] at HIS
    clear hr hFG hDG
    by_cases hr2 : isRow [gr 1 fs] [.mk false 0 .empty ds] = true
    · have HR3 := Lib.hid (rowFacts hr2 HDG.out.nf)
      have HR4 := Lib.hid (rowFacts (isRow_missing (isRow_fields hr2)) (NumsFit.mk [.mk true 0 .empty []] (fun d hd => by simp at hd; subst hd; show -9223372036854775808 ≤ (0 : Int) ∧ (0 : Int) ≤ _; omega) (fun d hd => by simp at hd; subst hd; exact .mk _ (fun _ h => by cases h) (fun _ h => by cases h))))
      have HT := Lib.hid hr2
      clear hr2
      go_enter Tryz.func9, Tryz.ntmps9
      go_wp2_with fail
      refine HIS.out.mono ?_
      rintro e w1 ⟨rfl, hb1⟩
      have HFG1 := Lib.hid (HFG.out.mono hb1)
      have HDG1 := Lib.hid (HDG.out.mono hb1)
      have HF1 := Lib.hid (HF.out.mono hb1)
      have HD1 := Lib.hid (HD.out.mono hb1)
      have HB1 := Lib.hid (HBW.out.trans (hb1.mono HBW.out.size))
      clear hb1
      go_wp2_with fail
      have hi := isRow19 HFG1.out HDG1.out
      rw [HT.out] at hi
      refine hi.mono ?_
      clear hi
      rintro e w2 ⟨rfl, hb2⟩
      have HFG2 := Lib.hid (HFG1.out.mono hb2)
      have HDG2 := Lib.hid (HDG1.out.mono hb2)
      have HF2 := Lib.hid (HF1.out.mono hb2)
      have HD2 := Lib.hid (HD1.out.mono hb2)
      have HB2 := Lib.hid (HB1.out.trans (hb2.mono HB1.out.size))
      clear hb2
      go_wp2_with fail
      refine (leaves_all 1000000000 (Nat.le_refl _) fs A n c w2 (by have := HR.out.size; omega) HF2.out.at_).mono ?_
      rintro e w3 ⟨rfl, hb3⟩
      have HFG3 := Lib.hid (HFG2.out.mono hb3)
      have HDG3 := Lib.hid (HDG2.out.mono hb3)
      have HF3 := Lib.hid (HF2.out.mono hb3)
      have HD3 := Lib.hid (HD2.out.mono hb3)
      have HB3 := Lib.hid (HB2.out.trans (hb3.mono HB2.out.size))
      clear hb3
      go_wp2_with fail
      go_loopw [7, 36] (fun v i wr => ∃ (j : Nat), j ≤ leaves fs ∧ i = .int .i64 j ∧ wr.ownsRow w3.heap.size 39 7 v j (clFlat ((List.range j).map noCell)) ∧ Below w3.heap.size w3 wr) (fun _ i _ => leaves fs - (intOf i).toNat)
      case atStart => exact ⟨0, Nat.zero_le _, rfl, World.ownsRow_nil _ _ _ _, Below.refl _ _⟩
      case round =>
        obtain ⟨j, hj, rfl, hown, hb5⟩ := hrel
        have HOWN := Lib.hid hown
        have HB5 := Lib.hid hb5
        clear hown
        by_cases hlt : j < leaves fs
        · have hj0 : (0 : Int) ≤ (j : Int) := Int.natCast_nonneg _
          have hj1 : (j : Int) < (leaves fs : Int) := by omega
          have hsz5 := hb5.size
          have HSZF : Hid (∀ o1, w3.heap.size ≤ (wr.alloc o1).heap.size) := Lib.hid fun o1 => by rw [size_alloc1]; omega
          have HNEW : Hid (∀ o1, (wr.alloc o1).heap[wr.heap.size]? = some o1) := Lib.hid fun o1 => heap_alloc_new _ _
          clear hb5
          go_wp2_with (at_builtin; refine wpList_append_lies _ rfl _ _ 26 rfl w3.heap.size 39 i39 _ 7 64 Tryz.underlying26 J1.out J2.out J3.out J4.out rfl (by decide) u7 j (clFlat ((List.range j).map noCell)) (by rfl) (HOWN.out.alloc _) ⟨wr.heap.size, 0, none⟩ 1 1 [.int .i64 j, .int .i64 0, .int .i64 0, .bool true, .int .i64 0, .int .i64 0, .string .empty] (by rfl) rfl (World.news_of_block (HNEW.out _)) (by simp [Value.oneCell']) (by decide) (by simp only [maxLen]; omega) (by omega) (HSZF.out _) _ rfl ?_; intro g cap w' hown' hgrow hat hlt')
          have hb9 : Below w3.heap.size w3 w' := (HB5.out.alloc hsz5 _).trans (below_grownRow hgrow (HSZF.out _) (fun k hk => (HOWN.out.lt k hk).1))
          refine ⟨⟨j + 1, by omega, by go_num, ?_, hb9⟩, by simp [intOf]; omega⟩
          rw [List.range_succ, List.map_append, List.map_cons, List.map_nil, clFlat_snoc]
          exact hown'
        · obtain rfl : j = leaves fs := by omega
          obtain ⟨A7, c7, rfl, hcls7⟩ := clsAt_owns HOWN.out (by simp)
          have HC7 := Lib.hid hcls7
          have HFG5 := Lib.hid (HFG3.out.mono HB5.out)
          have HDG5 := Lib.hid (HDG3.out.mono HB5.out)
          have HF5 := Lib.hid (HF3.out.mono HB5.out)
          have HD5 := Lib.hid (HD3.out.mono HB5.out)
          have HB6 := Lib.hid (HB3.out.trans (HB5.out.mono HB3.out.size))
          clear hcls7 HOWN hb5
          go_wp2_with fail
          refine (decon21 fs ds A n c A2 n2 c2 wr HF5.out.at_ HD5.out.at_ HR.out).mono ?_
          rintro e w4 ⟨A4, c4, rfl, hc4, hb4⟩
          have HC4 := Lib.hid hc4
          have HC8 := Lib.hid (HC7.out.mono hb4 hb4.size)
          have HFG6 := Lib.hid (HFG5.out.mono hb4)
          have HDG6 := Lib.hid (HDG5.out.mono hb4)
          have HB7 := Lib.hid (HB6.out.trans (hb4.mono HB6.out.size))
          clear hc4 hb4
          go_wp2_with fail
          refine (moved26 (rowCells fs ds) A4 _ c4 0 0 1 w4 HC4.out hpl HR.out.small (by decide) (by decide) (by decide)).mono ?_
          rintro e w5 ⟨A8, c8, rfl, hc8, hb8⟩
          have HC9 := Lib.hid hc8
          have HC10 := Lib.hid (HC8.out.mono hb8 hb8.size)
          have HFG7 := Lib.hid (HFG6.out.mono hb8)
          have HDG7 := Lib.hid (HDG6.out.mono hb8)
          have HB8 := Lib.hid (HB7.out.trans (hb8.mono HB7.out.size))
          clear hc8 hb8
          go_wp2_with fail
          refine (both28 [gr 1 fs] [.mk false 0 .empty ds] _ 1 1 _ 1 1 A8 _ c8 w5 HFG7.out.at_ HDG7.out.at_ (by rw [rowCells_optional HR.out.ne]; have := HC9.out; rwa [List.length_map] at this) HR3.out HDG7.out.nf (sh_texts _ HDG7.out.tx)).mono ?_
          rintro e w6 ⟨rfl, hb9⟩
          have HC11 := Lib.hid (HC10.out.mono hb9 hb9.size)
          have HFG8 := Lib.hid (HFG7.out.mono hb9)
          have HB9 := Lib.hid (HB8.out.trans (hb9.mono HB8.out.size))
          clear hb9
          go_wp2_with fail
          have hbA : Below w6.heap.size w6 (w6.alloc (.cells #[.bool true, .int .i64 0, .string .empty, .slice none 0 0] 43)) := (Below.refl _ _).alloc (Nat.le_refl _) _
          have hD0 : InD (w6.alloc (.cells #[.bool true, .int .i64 0, .string .empty, .slice none 0 0] 43)) none 0 0 [] := ⟨.nil _ _, .mk _ (fun _ h => by cases h) (fun _ h => by cases h), .mk _ (fun _ h => by cases h) (fun _ h => by cases h), by simp [dtsSize]⟩
          have hDM := inD_one hD0 (by simp [dtsSize]) (RowB.new w6 43 #[.bool true, .int .i64 0, .string .empty, .slice none 0 0])
          have hFM := HFG8.out.mono hbA
          have hCM := HC11.out.mono hbA hbA.size
          have HB10 := Lib.hid (HB9.out.trans (hbA.mono HB9.out.size))
          refine (both28 [gr 1 fs] [.mk true 0 .empty []] _ 1 1 _ 1 1 A7 _ c7 _ hFM.at_ hDM.at_ (by rw [rowCells_missing HR.out.ne]; exact hCM) HR4.out hDM.nf (sh_texts _ hDM.tx)).mono ?_
          rintro e w7 ⟨rfl, hb11⟩
          have HB11 := Lib.hid (HB10.out.trans (hb11.mono HB10.out.size))
          clear hb11 hbA hD0 hDM hFM hCM
          go_wp2_with fail
          go_ret
          exact ⟨rfl, HB11.out⟩
    · have hr3 : isRow [gr 1 fs] [.mk false 0 .empty ds] = false := by simpa using hr2
      have HT := Lib.hid hr3
      clear hr2 hr3
      go_enter Tryz.func9, Tryz.ntmps9
      go_wp2_with fail
      refine HIS.out.mono ?_
      rintro e w1 ⟨rfl, hb1⟩
      have HFG1 := Lib.hid (HFG.out.mono hb1)
      have HDG1 := Lib.hid (HDG.out.mono hb1)
      have HB1 := Lib.hid (HBW.out.trans (hb1.mono HBW.out.size))
      clear hb1
      go_wp2_with fail
      have hi := isRow19 HFG1.out HDG1.out
      rw [HT.out] at hi
      refine hi.mono ?_
      clear hi
      rintro e w2 ⟨rfl, hb2⟩
      have HB2 := Lib.hid (HB1.out.trans (hb2.mono HB1.out.size))
      clear hb2
      go_wp2_with fail
      refine (works20 w2).mono ?_
      rintro e w3 ⟨rfl, hb3⟩
      have HB3 := Lib.hid (HB2.out.trans (hb3.mono HB2.out.size))
      clear hb3
      go_wp2_with fail
      go_ret
      exact ⟨rfl, HB3.out⟩
  · have hr' : isRow fs ds = false := by simpa using hr
    have HIS := Lib.hid (isRow19 HF.out HD.out)
    rw [hr'] at HIS
    clear hr hr'
    go_enter Tryz.func9, Tryz.ntmps9
    go_wp2_with fail
    refine HIS.out.mono ?_
    rintro e w1 ⟨rfl, hb1⟩
    have HB1 := Lib.hid (HBW.out.trans (hb1.mono HBW.out.size))
    clear hb1
    go_wp2_with fail
    refine (works20 w1).mono ?_
    rintro e w2 ⟨rfl, hb2⟩
    have HB2 := Lib.hid (HB1.out.trans (hb2.mono HB1.out.size))
    clear hb2
    go_wp2_with fail
    go_ret
    exact ⟨rfl, HB2.out⟩
end Go.Proofs.YtglgclkgppomiaaGreat
