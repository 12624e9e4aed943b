/- From the walk of a law over fields; over fields and two lists of data; over fields, data and a number: to what its row asks. The walks of the laws FnRowsGroup and FnRowsOptional: fields in a group. The walk of the law FnRowsOptional. The walk of the law FnRowsField. -/
import Derived.Test.YtglgclkgppomiaaGreatYField02
import Derived.Test.YtglgclkgppomiaaGreatZ24
import Derived.Deep.RegionHeld3
set_option linter.unusedVariables false
set_option linter.unusedSimpArgs false
namespace Go.Proofs.YtglgclkgppomiaaGreat
open Go Go.RowKit Go.ChangeShapes Go.WideShapes Go.ChangeAt

theorem readable3 : Tryz.prog.readableRec 3 = true := by kernel_rfl
theorem rowed3 : 3 < Tryz.prog.types.size := of_decide_eq_true (by kernel_rfl)
set_option maxRecDepth 100000 in
/-- A law of fields and two lists of data. -/
theorem contract_fdd (F : FuncId) (f : Func) (s : ChangeSpec) (hp : f.params = #[22, 23, 23]) (hres : f.resultTypes = #[4]) (hvars : s.vars = [])
    (hfn : ∀ (H : Type) (d1 d2 d3 : DataW H), s.fn H [d1, d2, d3] = { results := [.lit (.bool true)], args := [d1, d2, d3] })
    (law : ∀ (w : World) (A A2 A3 : Option Addr) (n c n2 c2 n3 c3 : Nat) (fs : List Fd) (a b : List Dt), InF w A n c fs → InD w A2 n2 c2 a → InD w A3 n3 c3 b → Calls Tryz.prog F #[.slice A n c, .slice A2 n2 c2, .slice A3 n3 c3] w fun e w' => e = .returned (.bool true) ∧ Below w.heap.size w w')
    (H : Type) (enc : TypeId × Value → H) (W : World) (base : Nat) (args : Array Value) (ds gs : List (DataW H)) (before : List MemPlace)
    (hval : ∀ (j : Nat) t v, f.params[j]? = some t → args[j]? = some v → Value.okWide Tryz.prog W .any base t v)
    (hW : DataW.Whole enc Tryz.prog f.params.toList s.vars false W args.toList ds gs before) (hk : Rows.uptoSmall H (ds ++ gs) = true) :
    Calls Tryz.prog F args W fun e W' => ∃ v, e = .returned v ∧ s.post enc Tryz.prog f false true false false W args v W' := by
  have hW' := hW
  obtain ⟨p, q, hA, hV, rfl, hfz, hnd⟩ := hW
  rw [hp] at hA hval
  rw [hvars] at hV
  obtain ⟨v0, vs0, d0, ds0, p0, q0, hargs, rfl, rfl, h0, r0⟩ := trodAll_cons hA
  obtain ⟨v1, vs1, d1, ds1, p1, q1, hargs1, rfl, rfl, h1, r1⟩ := trodAll_cons r0
  obtain ⟨v2, vs2, d2, ds2, p2, q2, hargs2, rfl, rfl, h2, r2⟩ := trodAll_cons r1
  obtain ⟨rfl, rfl, rfl⟩ := trodAll_nil r2
  obtain rfl : args = #[v0, v1, v2] := by cases args; simp_all
  obtain ⟨rfl, rfl⟩ := trodVars_none hV
  have hkb := small_bulk hk
  simp only [List.append_nil, Rows.uptoBulkAll] at hkb
  obtain ⟨A, n, c, fs, rfl, hF⟩ := arg_fds (hval 0 22 v0 rfl rfl) h0 (by omega)
  obtain ⟨A2, n2, c2, dts, rfl, hD⟩ := arg_dts (hval 1 23 v1 rfl rfl) h1 (by omega)
  obtain ⟨A3, n3, c3, dts3, rfl, hD3⟩ := arg_dts (hval 2 23 v2 rfl rfl) h2 (by omega)
  have hlt0 : ∀ x ∈ p0, x.block < W.heap.size := fun x hx => hW'.lt x (by simp [hx])
  have hlt1 : ∀ x ∈ p1, x.block < W.heap.size := fun x hx => hW'.lt x (by simp [hx])
  have hlt2 : ∀ x ∈ p2, x.block < W.heap.size := fun x hx => hW'.lt x (by simp [hx])
  refine (law W A A2 A3 n c n2 c2 n3 c3 fs dts dts3 hF hD hD3).mono fun e W' ⟨he, hb⟩ => ⟨_, he, ?_⟩
  refine post_of_below hW' hb hres Tryz.underlying4 (by simp only [List.append_nil, hfn]) hvars (by simp only [List.append_nil, hfn]) (p0 ++ (p1 ++ (p2 ++ []))) ?_
  simp only [List.append_nil, hfn]
  rw [hp]
  have := trodAll_cons_mk (Below.trod laidOuts readable22 rowed22 h0 hb hlt0) (trodAll_cons_mk (Below.trod laidOuts readable23 rowed23 h1 hb hlt1) (trodAll_cons_mk (Below.trod laidOuts readable23 rowed23 h2 hb hlt2) trodAll_mk0))
  simpa using this
set_option maxRecDepth 100000 in
/-- A law of fields, data and a number. -/
theorem contract_fdk (F : FuncId) (f : Func) (s : ChangeSpec) (hp : f.params = #[22, 23, 3]) (hres : f.resultTypes = #[4]) (hvars : s.vars = [])
    (hfn : ∀ (H : Type) (d1 d2 d3 : DataW H), s.fn H [d1, d2, d3] = { results := [.lit (.bool true)], args := [d1, d2, d3] })
    (law : ∀ (w : World) (A A2 : Option Addr) (n c n2 c2 : Nat) (fs : List Fd) (a : List Dt) (k : Int), InF w A n c fs → InD w A2 n2 c2 a → Calls Tryz.prog F #[.slice A n c, .slice A2 n2 c2, .int .i64 k] w fun e w' => e = .returned (.bool true) ∧ Below w.heap.size w w')
    (H : Type) (enc : TypeId × Value → H) (W : World) (base : Nat) (args : Array Value) (ds gs : List (DataW H)) (before : List MemPlace)
    (hval : ∀ (j : Nat) t v, f.params[j]? = some t → args[j]? = some v → Value.okWide Tryz.prog W .any base t v)
    (hW : DataW.Whole enc Tryz.prog f.params.toList s.vars false W args.toList ds gs before) (hk : Rows.uptoSmall H (ds ++ gs) = true) :
    Calls Tryz.prog F args W fun e W' => ∃ v, e = .returned v ∧ s.post enc Tryz.prog f false true false false W args v W' := by
  have hW' := hW
  obtain ⟨p, q, hA, hV, rfl, hfz, hnd⟩ := hW
  rw [hp] at hA hval
  rw [hvars] at hV
  obtain ⟨v0, vs0, d0, ds0, p0, q0, hargs, rfl, rfl, h0, r0⟩ := trodAll_cons hA
  obtain ⟨v1, vs1, d1, ds1, p1, q1, hargs1, rfl, rfl, h1, r1⟩ := trodAll_cons r0
  obtain ⟨v2, vs2, d2, ds2, p2, q2, hargs2, rfl, rfl, h2, r2⟩ := trodAll_cons r1
  obtain ⟨rfl, rfl, rfl⟩ := trodAll_nil r2
  obtain rfl : args = #[v0, v1, v2] := by cases args; simp_all
  obtain ⟨rfl, rfl⟩ := trodVars_none hV
  have hkb := small_bulk hk
  simp only [List.append_nil, Rows.uptoBulkAll] at hkb
  obtain ⟨A, n, c, fs, rfl, hF⟩ := arg_fds (hval 0 22 v0 rfl rfl) h0 (by omega)
  obtain ⟨A2, n2, c2, dts, rfl, hD⟩ := arg_dts (hval 1 23 v1 rfl rfl) h1 (by omega)
  obtain ⟨k, rfl⟩ := okWide_int Tryz.underlying3 (hval 2 3 v2 rfl rfl)
  have hlt0 : ∀ x ∈ p0, x.block < W.heap.size := fun x hx => hW'.lt x (by simp [hx])
  have hlt1 : ∀ x ∈ p1, x.block < W.heap.size := fun x hx => hW'.lt x (by simp [hx])
  have hlt2 : ∀ x ∈ p2, x.block < W.heap.size := fun x hx => hW'.lt x (by simp [hx])
  refine (law W A A2 n c n2 c2 fs dts k hF hD).mono fun e W' ⟨he, hb⟩ => ⟨_, he, ?_⟩
  refine post_of_below hW' hb hres Tryz.underlying4 (by simp only [List.append_nil, hfn]) hvars (by simp only [List.append_nil, hfn]) (p0 ++ (p1 ++ (p2 ++ []))) ?_
  simp only [List.append_nil, hfn]
  rw [hp]
  have := trodAll_cons_mk (Below.trod laidOuts readable22 rowed22 h0 hb hlt0) (trodAll_cons_mk (Below.trod laidOuts readable23 rowed23 h1 hb hlt1) (trodAll_cons_mk (Below.trod laidOuts readable3 rowed3 h2 hb hlt2) trodAll_mk0))
  simpa using this
set_option maxRecDepth 100000 in
/-- A law of fields. -/
theorem contract_f (F : FuncId) (f : Func) (s : ChangeSpec) (hp : f.params = #[22]) (hres : f.resultTypes = #[4]) (hvars : s.vars = [])
    (hfn : ∀ (H : Type) (d1 : DataW H), s.fn H [d1] = { results := [.lit (.bool true)], args := [d1] })
    (law : ∀ (w : World) (A : Option Addr) (n c : Nat) (fs : List Fd), InF w A n c fs → Calls Tryz.prog F #[.slice A n c] w fun e w' => e = .returned (.bool true) ∧ Below w.heap.size w w')
    (H : Type) (enc : TypeId × Value → H) (W : World) (base : Nat) (args : Array Value) (ds gs : List (DataW H)) (before : List MemPlace)
    (hval : ∀ (j : Nat) t v, f.params[j]? = some t → args[j]? = some v → Value.okWide Tryz.prog W .any base t v)
    (hW : DataW.Whole enc Tryz.prog f.params.toList s.vars false W args.toList ds gs before) (hk : Rows.uptoSmall H (ds ++ gs) = true) :
    Calls Tryz.prog F args W fun e W' => ∃ v, e = .returned v ∧ s.post enc Tryz.prog f false true false false W args v W' := by
  have hW' := hW
  obtain ⟨p, q, hA, hV, rfl, hfz, hnd⟩ := hW
  rw [hp] at hA hval
  rw [hvars] at hV
  obtain ⟨v0, vs0, d0, ds0, p0, q0, hargs, rfl, rfl, h0, r0⟩ := trodAll_cons hA
  obtain ⟨rfl, rfl, rfl⟩ := trodAll_nil r0
  obtain rfl : args = #[v0] := by cases args; simp_all
  obtain ⟨rfl, rfl⟩ := trodVars_none hV
  have hkb := small_bulk hk
  simp only [List.append_nil, Rows.uptoBulkAll] at hkb
  obtain ⟨A, n, c, fs, rfl, hF⟩ := arg_fds (hval 0 22 v0 rfl rfl) h0 (by omega)
  have hlt0 : ∀ x ∈ p0, x.block < W.heap.size := fun x hx => hW'.lt x (by simp [hx])
  refine (law W A n c fs hF).mono fun e W' ⟨he, hb⟩ => ⟨_, he, ?_⟩
  refine post_of_below hW' hb hres Tryz.underlying4 (by simp only [List.append_nil, hfn]) hvars (by simp only [List.append_nil, hfn]) (p0 ++ []) ?_
  simp only [List.append_nil, hfn]
  rw [hp]
  have := trodAll_cons_mk (Below.trod laidOuts readable22 rowed22 h0 hb hlt0) trodAll_mk0
  simpa using this
end Go.Proofs.YtglgclkgppomiaaGreat

namespace Go.Proofs.YtglgclkgppomiaaGreat
open Go Go.RowKit

theorem inF_gr {W : World} {b : Nat} {way : Int} {A : Option Addr} {n c : Nat} {fs : List Fd} (hF : InF W A n c fs) (hs : fdsSize fs ≤ 300) (hr : RowB W b 41 #[.string ⟨#[120]⟩, .int .i64 way, .int .i64 0, .slice A n c]) : InF W (some ⟨b, 0, none⟩) 1 1 [gr way fs] where
  at_ := by
    have hl := hF.at_.len.1
    refine .mk b 0 1 1 _ (fun _ => A) (fun _ => c) hr.lt rfl (Nat.le_refl _) (fun k f hk => ?_) (fun k f hk => ?_)
    · cases k with
      | zero => simp at hk; subst hk; exact ⟨hr.cell 0, hr.cell 1, hr.cell 2, by show W.cell? ⟨b, 3, none⟩ = some (.slice A fs.length c); rw [hl]; exact hr.cell 3⟩
      | succ k => simp at hk
    · cases k with
      | zero => simp at hk; subst hk; show FdsAt W _ A fs.length c fs; rw [hl]; exact hF.at_
      | succ k => simp at hk
  nm := .mk _ (fun f hf => by simp at hf; subst hf; show (1 : Nat) ≤ _; omega) (fun f hf => by simp at hf; subst hf; exact hF.nm)
  sz := by
    have e : fdsSize [gr way fs] = 1 + fdsSize fs := by simp only [fdsSize, gr, fdSize, Nat.add_zero]
    rw [e]; omega
theorem inD_one {W : World} {b : Nat} {nn : Bool} {A : Option Addr} {n c : Nat} {ds : List Dt} (hD : InD W A n c ds) (hs : dtsSize ds ≤ 20000) (hr : RowB W b 43 #[.bool nn, .int .i64 0, .string .empty, .slice A n c]) : InD W (some ⟨b, 0, none⟩) 1 1 [.mk nn 0 .empty ds] where
  at_ := by
    have hl := hD.at_.len.1
    refine .mk b 0 1 1 _ (fun _ => A) (fun _ => c) hr.lt rfl (Nat.le_refl _) (fun k f hk => ?_) (fun k f hk => ?_)
    · cases k with
      | zero => simp at hk; subst hk; exact ⟨hr.cell 0, hr.cell 1, hr.cell 2, by show W.cell? ⟨b, 3, none⟩ = some (.slice A ds.length c); rw [hl]; exact hr.cell 3⟩
      | succ k => simp at hk
    · cases k with
      | zero => simp at hk; subst hk; show DtsAt W _ A ds.length c ds; rw [hl]; exact hD.at_
      | succ k => simp at hk
  tx := .mk _ (fun d hd => by simp at hd; subst hd; exact ⟨Nat.zero_le _, by have := dtsSize_length ds; show ds.length ≤ _; omega⟩) (fun d hd => by simp at hd; subst hd; exact hD.tx)
  nf := .mk _ (fun d hd => by simp at hd; subst hd; show -9223372036854775808 ≤ (0 : Int) ∧ (0 : Int) ≤ _; omega) (fun d hd => by simp at hd; subst hd; exact hD.nf)
  sz := by
    have e : dtsSize [Dt.mk nn 0 .empty ds] = 1 + dtsSize ds := by simp only [dtsSize, dtSize, Nat.add_zero]
    rw [e]; omega
theorem below2 (w : World) (o1 o2 : Obj) : Below w.heap.size w ((w.alloc o1).alloc o2) := ((Below.refl _ _).alloc (Nat.le_refl _) _).alloc (by rw [size_alloc1]; omega) _
theorem rowB_1 (w : World) (cs : Array Value) (t : TypeId) (o2 : Obj) : RowB ((w.alloc (.cells cs t)).alloc o2) w.heap.size t cs := (RowB.new w t cs).alloc _
theorem rowB_2 (w : World) (cs : Array Value) (t : TypeId) (o1 : Obj) : RowB ((w.alloc o1).alloc (.cells cs t)) (w.heap.size + 1) t cs := rowB_new (by rw [size_alloc1])

set_option maxRecDepth 100000 in
set_option maxHeartbeats 2000000 in
theorem law8 {w : World} {A A2 : Option Addr} {n c n2 c2 : Nat} {fs : List Fd} {ds : List Dt} (hF : InF w A n c fs) (hD : InD w A2 n2 c2 ds) :
    Calls Tryz.prog 8 #[.slice A n c, .slice A2 n2 c2] w fun e w' => e = .returned (.bool true) ∧ Below w.heap.size w w' := by
  obtain ⟨s1, s2, s3⟩ := small_len hF.len.2
  obtain ⟨s4, s5, s6⟩ := small_len hD.len.2
  have hbw := below2 w (.cells #[.string ⟨#[120]⟩, .int .i64 0, .int .i64 0, .slice A n c] 41) (.cells #[.bool false, .int .i64 0, .string .empty, .slice A2 n2 c2] 43)
  have hrow1 := rowB_1 w #[.string ⟨#[120]⟩, .int .i64 0, .int .i64 0, .slice A n c] 41 (.cells #[.bool false, .int .i64 0, .string .empty, .slice A2 n2 c2] 43)
  have hrow2 := rowB_2 w #[.bool false, .int .i64 0, .string .empty, .slice A2 n2 c2] 43 (.cells #[.string ⟨#[120]⟩, .int .i64 0, .int .i64 0, .slice A n c] 41)
  have HF := Lib.hid (hF.mono hbw)
  have HD := Lib.hid (hD.mono hbw)
  have HR1 := Lib.hid hrow1
  have HR2 := Lib.hid hrow2
  have HBW := Lib.hid hbw
  clear hF hD hrow1 hrow2 hbw
  by_cases hr : isRow fs ds = true
  · have HR := Lib.hid (rowFacts hr HD.out.nf)
    have hFG := inF_gr HF.out HR.out.size HR1.out
    have hDG := inD_one HD.out HR.out.dsize HR2.out
    have HFG := Lib.hid hFG
    have HDG := Lib.hid hDG
    have HIS := Lib.hid (isRow19 HF.out HD.out)
    rw [hr] at HIS
    clear hr hFG hDG
    by_cases hr2 : isRow [gr 0 fs] [.mk false 0 .empty ds] = true
    · have HR3 := Lib.hid (rowFacts hr2 HDG.out.nf)
      have HT := Lib.hid hr2
      clear hr2
      go_enter Tryz.func8, Tryz.ntmps8
      go_wp2_with fail
      refine HIS.out.mono ?_
      rintro e w1 ⟨rfl, hb1⟩
      have HFG1 := Lib.hid (HFG.out.mono hb1)
      have HDG1 := Lib.hid (HDG.out.mono hb1)
      have HF1 := Lib.hid (HF.out.mono hb1)
      have HD1 := Lib.hid (HD.out.mono hb1)
      have HB1 := Lib.hid (HBW.out.trans (hb1.mono HBW.out.size))
      clear hb1
      go_wp2_with fail
      have hi := isRow19 HFG1.out HDG1.out
      rw [HT.out] at hi
      refine hi.mono ?_
      clear hi
      rintro e w2 ⟨rfl, hb2⟩
      have HFG2 := Lib.hid (HFG1.out.mono hb2)
      have HDG2 := Lib.hid (HDG1.out.mono hb2)
      have HF2 := Lib.hid (HF1.out.mono hb2)
      have HD2 := Lib.hid (HD1.out.mono hb2)
      have HB2 := Lib.hid (HB1.out.trans (hb2.mono HB1.out.size))
      clear hb2
      go_wp2_with fail
      refine (decon21 fs ds A n c A2 n2 c2 w2 HF2.out.at_ HD2.out.at_ HR.out).mono ?_
      rintro e w3 ⟨A4, c4, rfl, hc4, hb3⟩
      have HC4 := Lib.hid hc4
      have HFG3 := Lib.hid (HFG2.out.mono hb3)
      have HDG3 := Lib.hid (HDG2.out.mono hb3)
      have HB3 := Lib.hid (HB2.out.trans (hb3.mono HB2.out.size))
      clear hc4 hb3
      go_wp2_with fail
      refine (both28 [gr 0 fs] [.mk false 0 .empty ds] _ 1 1 _ 1 1 A4 _ c4 w3 HFG3.out.at_ HDG3.out.at_ (by rw [rowCells_group HR.out.ne]; exact HC4.out) HR3.out HDG3.out.nf (sh_texts _ HDG3.out.tx)).mono ?_
      rintro e w4 ⟨rfl, hb4⟩
      have HB4 := Lib.hid (HB3.out.trans (hb4.mono HB3.out.size))
      clear hb4
      go_wp2_with fail
      go_ret
      exact ⟨rfl, HB4.out⟩
    · have hr3 : isRow [gr 0 fs] [.mk false 0 .empty ds] = false := by simpa using hr2
      have HT := Lib.hid hr3
      clear hr2 hr3
      go_enter Tryz.func8, Tryz.ntmps8
      go_wp2_with fail
      refine HIS.out.mono ?_
      rintro e w1 ⟨rfl, hb1⟩
      have HFG1 := Lib.hid (HFG.out.mono hb1)
      have HDG1 := Lib.hid (HDG.out.mono hb1)
      have HB1 := Lib.hid (HBW.out.trans (hb1.mono HBW.out.size))
      clear hb1
      go_wp2_with fail
      have hi := isRow19 HFG1.out HDG1.out
      rw [HT.out] at hi
      refine hi.mono ?_
      clear hi
      rintro e w2 ⟨rfl, hb2⟩
      have HB2 := Lib.hid (HB1.out.trans (hb2.mono HB1.out.size))
      clear hb2
      go_wp2_with fail
      refine (works20 w2).mono ?_
      rintro e w3 ⟨rfl, hb3⟩
      have HB3 := Lib.hid (HB2.out.trans (hb3.mono HB2.out.size))
      clear hb3
      go_wp2_with fail
      go_ret
      exact ⟨rfl, HB3.out⟩
  · have hr' : isRow fs ds = false := by simpa using hr
    have HIS := Lib.hid (isRow19 HF.out HD.out)
    rw [hr'] at HIS
    clear hr hr'
    go_enter Tryz.func8, Tryz.ntmps8
    go_wp2_with fail
    refine HIS.out.mono ?_
    rintro e w1 ⟨rfl, hb1⟩
    have HB1 := Lib.hid (HBW.out.trans (hb1.mono HBW.out.size))
    clear hb1
    go_wp2_with fail
    refine (works20 w1).mono ?_
    rintro e w2 ⟨rfl, hb2⟩
    have HB2 := Lib.hid (HB1.out.trans (hb2.mono HB1.out.size))
    clear hb2
    go_wp2_with fail
    go_ret
    exact ⟨rfl, HB2.out⟩
end Go.Proofs.YtglgclkgppomiaaGreat

namespace Go.Proofs.YtglgclkgppomiaaGreat
open Go Go.RowKit

/-- A column's only cell, without a value. -/
def noCell (c : Nat) : Cl := ⟨(c : Int), 0, 0, true, 0, 0, .empty⟩
theorem isRow_missing {fs : List Fd} (ha : areFields [gr 1 fs] = true) : isRow [gr 1 fs] [.mk true 0 .empty []] = true := by
  have h : dataC (gr 1 fs) (.mk true 0 .empty []) = some 1 := by
    unfold dataC dataOf
    rw [if_pos ⟨rfl, rfl⟩, if_pos ⟨rfl, rfl, rfl⟩]
  simp only [isRow, ha, Bool.true_and]
  rw [rowGo_cons, h]
  simp [rowGo]
theorem isRow_fields {fs : List Fd} {ds : List Dt} (h : isRow fs ds = true) : areFields fs = true := by
  simp only [isRow, Bool.and_eq_true] at h
  exact h.1
theorem RowFacts.small {fs : List Fd} {ds : List Dt} (h : RowFacts fs ds) : ∀ x ∈ rowCells fs ds, (0 ≤ x.col ∧ x.col ≤ 1000000) ∧ (0 ≤ x.rep ∧ x.rep ≤ 1000000) ∧ (0 ≤ x.de ∧ x.de ≤ 1000000) := fun x hx => by
  obtain ⟨j, hj, hx⟩ := mem_parts hx
  have hc := h.cells x (List.mem_filter.1 hx).1
  have h1 := hc.lo; have h2 := hc.hi; have h3 := hc.rep; have h4 := hc.de; have h5 := h.leaves
  omega

set_option maxRecDepth 100000 in
set_option maxHeartbeats 4000000 in
theorem law9 {w : World} {A A2 : Option Addr} {n c n2 c2 : Nat} {fs : List Fd} {ds : List Dt} (hF : InF w A n c fs) (hD : InD w A2 n2 c2 ds) :
    Calls Tryz.prog 9 #[.slice A n c, .slice A2 n2 c2] w fun e w' => e = .returned (.bool true) ∧ Below w.heap.size w w' := by
  obtain ⟨s1, s2, s3⟩ := small_len hF.len.2
  obtain ⟨s4, s5, s6⟩ := small_len hD.len.2
  have hbw := below2 w (.cells #[.string ⟨#[120]⟩, .int .i64 1, .int .i64 0, .slice A n c] 41) (.cells #[.bool false, .int .i64 0, .string .empty, .slice A2 n2 c2] 43)
  have hrow1 := rowB_1 w #[.string ⟨#[120]⟩, .int .i64 1, .int .i64 0, .slice A n c] 41 (.cells #[.bool false, .int .i64 0, .string .empty, .slice A2 n2 c2] 43)
  have hrow2 := rowB_2 w #[.bool false, .int .i64 0, .string .empty, .slice A2 n2 c2] 43 (.cells #[.string ⟨#[120]⟩, .int .i64 1, .int .i64 0, .slice A n c] 41)
  have HF := Lib.hid (hF.mono hbw)
  have HD := Lib.hid (hD.mono hbw)
  have HR1 := Lib.hid hrow1
  have HR2 := Lib.hid hrow2
  have HBW := Lib.hid hbw
  obtain ⟨i39, j1, j2, j3, j4⟩ := info_parts info39
  have J1 := Lib.hid j1
  have J2 := Lib.hid j2
  have J3 := Lib.hid j3
  have J4 := Lib.hid j4
  clear hF hD hrow1 hrow2 hbw j1 j2 j3 j4
  by_cases hr : isRow fs ds = true
  · have HR := Lib.hid (rowFacts hr HD.out.nf)
    have hlv := HR.out.leaves
    have hpl := HR.out.plen
    have hFG := inF_gr HF.out HR.out.size HR1.out
    have hDG := inD_one HD.out HR.out.dsize HR2.out
    have HFG := Lib.hid hFG
    have HDG := Lib.hid hDG
    have HIS := Lib.hid (isRow19 HF.out HD.out)
    rw [hr] at HIS
    clear hr hFG hDG
    by_cases hr2 : isRow [gr 1 fs] [.mk false 0 .empty ds] = true
    · have HR3 := Lib.hid (rowFacts hr2 HDG.out.nf)
      have HR4 := Lib.hid (rowFacts (isRow_missing (isRow_fields hr2)) (NumsFit.mk [.mk true 0 .empty []] (fun d hd => by simp at hd; subst hd; show -9223372036854775808 ≤ (0 : Int) ∧ (0 : Int) ≤ _; omega) (fun d hd => by simp at hd; subst hd; exact .mk _ (fun _ h => by cases h) (fun _ h => by cases h))))
      have HT := Lib.hid hr2
      clear hr2
      go_enter Tryz.func9, Tryz.ntmps9
      go_wp2_with fail
      refine HIS.out.mono ?_
      rintro e w1 ⟨rfl, hb1⟩
      have HFG1 := Lib.hid (HFG.out.mono hb1)
      have HDG1 := Lib.hid (HDG.out.mono hb1)
      have HF1 := Lib.hid (HF.out.mono hb1)
      have HD1 := Lib.hid (HD.out.mono hb1)
      have HB1 := Lib.hid (HBW.out.trans (hb1.mono HBW.out.size))
      clear hb1
      go_wp2_with fail
      have hi := isRow19 HFG1.out HDG1.out
      rw [HT.out] at hi
      refine hi.mono ?_
      clear hi
      rintro e w2 ⟨rfl, hb2⟩
      have HFG2 := Lib.hid (HFG1.out.mono hb2)
      have HDG2 := Lib.hid (HDG1.out.mono hb2)
      have HF2 := Lib.hid (HF1.out.mono hb2)
      have HD2 := Lib.hid (HD1.out.mono hb2)
      have HB2 := Lib.hid (HB1.out.trans (hb2.mono HB1.out.size))
      clear hb2
      go_wp2_with fail
      refine (leaves_all 1000000000 (Nat.le_refl _) fs A n c w2 (by have := HR.out.size; omega) HF2.out.at_).mono ?_
      rintro e w3 ⟨rfl, hb3⟩
      have HFG3 := Lib.hid (HFG2.out.mono hb3)
      have HDG3 := Lib.hid (HDG2.out.mono hb3)
      have HF3 := Lib.hid (HF2.out.mono hb3)
      have HD3 := Lib.hid (HD2.out.mono hb3)
      have HB3 := Lib.hid (HB2.out.trans (hb3.mono HB2.out.size))
      clear hb3
      go_wp2_with fail
      go_loopw [7, 36] (fun v i wr => ∃ (j : Nat), j ≤ leaves fs ∧ i = .int .i64 j ∧ wr.ownsRow w3.heap.size 39 7 v j (clFlat ((List.range j).map noCell)) ∧ Below w3.heap.size w3 wr) (fun _ i _ => leaves fs - (intOf i).toNat)
      case atStart => exact ⟨0, Nat.zero_le _, rfl, World.ownsRow_nil _ _ _ _, Below.refl _ _⟩
      case round =>
        obtain ⟨j, hj, rfl, hown, hb5⟩ := hrel
        have HOWN := Lib.hid hown
        have HB5 := Lib.hid hb5
        clear hown
        by_cases hlt : j < leaves fs
        · have hj0 : (0 : Int) ≤ (j : Int) := Int.natCast_nonneg _
          have hj1 : (j : Int) < (leaves fs : Int) := by omega
          have hsz5 := hb5.size
          have HSZF : Hid (∀ o1, w3.heap.size ≤ (wr.alloc o1).heap.size) := Lib.hid fun o1 => by rw [size_alloc1]; omega
          have HNEW : Hid (∀ o1, (wr.alloc o1).heap[wr.heap.size]? = some o1) := Lib.hid fun o1 => heap_alloc_new _ _
          clear hb5
          go_wp2_with (at_builtin; refine wpList_append_lies _ rfl _ _ 26 rfl w3.heap.size 39 i39 _ 7 64 Tryz.underlying26 J1.out J2.out J3.out J4.out rfl (by decide) u7 j (clFlat ((List.range j).map noCell)) (by rfl) (HOWN.out.alloc _) ⟨wr.heap.size, 0, none⟩ 1 1 [.int .i64 j, .int .i64 0, .int .i64 0, .bool true, .int .i64 0, .int .i64 0, .string .empty] (by rfl) rfl (World.news_of_block (HNEW.out _)) (by simp [Value.oneCell']) (by decide) (by simp only [maxLen]; omega) (by omega) (HSZF.out _) _ rfl ?_; intro g cap w' hown' hgrow hat hlt')
          have hb9 : Below w3.heap.size w3 w' := (HB5.out.alloc hsz5 _).trans (below_grownRow hgrow (HSZF.out _) (fun k hk => (HOWN.out.lt k hk).1))
          refine ⟨⟨j + 1, by omega, by go_num, ?_, hb9⟩, by simp [intOf]; omega⟩
          rw [List.range_succ, List.map_append, List.map_cons, List.map_nil, clFlat_snoc]
          exact hown'
        · obtain rfl : j = leaves fs := by omega
          obtain ⟨A7, c7, rfl, hcls7⟩ := clsAt_owns HOWN.out (by simp)
          have HC7 := Lib.hid hcls7
          have HFG5 := Lib.hid (HFG3.out.mono HB5.out)
          have HDG5 := Lib.hid (HDG3.out.mono HB5.out)
          have HF5 := Lib.hid (HF3.out.mono HB5.out)
          have HD5 := Lib.hid (HD3.out.mono HB5.out)
          have HB6 := Lib.hid (HB3.out.trans (HB5.out.mono HB3.out.size))
          clear hcls7 HOWN hb5
          go_wp2_with fail
          refine (decon21 fs ds A n c A2 n2 c2 wr HF5.out.at_ HD5.out.at_ HR.out).mono ?_
          rintro e w4 ⟨A4, c4, rfl, hc4, hb4⟩
          have HC4 := Lib.hid hc4
          have HC8 := Lib.hid (HC7.out.mono hb4 hb4.size)
          have HFG6 := Lib.hid (HFG5.out.mono hb4)
          have HDG6 := Lib.hid (HDG5.out.mono hb4)
          have HB7 := Lib.hid (HB6.out.trans (hb4.mono HB6.out.size))
          clear hc4 hb4
          go_wp2_with fail
          refine (moved26 (rowCells fs ds) A4 _ c4 0 0 1 w4 HC4.out hpl HR.out.small (by decide) (by decide) (by decide)).mono ?_
          rintro e w5 ⟨A8, c8, rfl, hc8, hb8⟩
          have HC9 := Lib.hid hc8
          have HC10 := Lib.hid (HC8.out.mono hb8 hb8.size)
          have HFG7 := Lib.hid (HFG6.out.mono hb8)
          have HDG7 := Lib.hid (HDG6.out.mono hb8)
          have HB8 := Lib.hid (HB7.out.trans (hb8.mono HB7.out.size))
          clear hc8 hb8
          go_wp2_with fail
          refine (both28 [gr 1 fs] [.mk false 0 .empty ds] _ 1 1 _ 1 1 A8 _ c8 w5 HFG7.out.at_ HDG7.out.at_ (by rw [rowCells_optional HR.out.ne]; have := HC9.out; rwa [List.length_map] at this) HR3.out HDG7.out.nf (sh_texts _ HDG7.out.tx)).mono ?_
          rintro e w6 ⟨rfl, hb9⟩
          have HC11 := Lib.hid (HC10.out.mono hb9 hb9.size)
          have HFG8 := Lib.hid (HFG7.out.mono hb9)
          have HB9 := Lib.hid (HB8.out.trans (hb9.mono HB8.out.size))
          clear hb9
          go_wp2_with fail
          have hbA : Below w6.heap.size w6 (w6.alloc (.cells #[.bool true, .int .i64 0, .string .empty, .slice none 0 0] 43)) := (Below.refl _ _).alloc (Nat.le_refl _) _
          have hD0 : InD (w6.alloc (.cells #[.bool true, .int .i64 0, .string .empty, .slice none 0 0] 43)) none 0 0 [] := ⟨.nil _ _, .mk _ (fun _ h => by cases h) (fun _ h => by cases h), .mk _ (fun _ h => by cases h) (fun _ h => by cases h), by simp [dtsSize]⟩
          have hDM := inD_one hD0 (by simp [dtsSize]) (RowB.new w6 43 #[.bool true, .int .i64 0, .string .empty, .slice none 0 0])
          have hFM := HFG8.out.mono hbA
          have hCM := HC11.out.mono hbA hbA.size
          have HB10 := Lib.hid (HB9.out.trans (hbA.mono HB9.out.size))
          refine (both28 [gr 1 fs] [.mk true 0 .empty []] _ 1 1 _ 1 1 A7 _ c7 _ hFM.at_ hDM.at_ (by rw [rowCells_missing HR.out.ne]; exact hCM) HR4.out hDM.nf (sh_texts _ hDM.tx)).mono ?_
          rintro e w7 ⟨rfl, hb11⟩
          have HB11 := Lib.hid (HB10.out.trans (hb11.mono HB10.out.size))
          clear hb11 hbA hD0 hDM hFM hCM
          go_wp2_with fail
          go_ret
          exact ⟨rfl, HB11.out⟩
    · have hr3 : isRow [gr 1 fs] [.mk false 0 .empty ds] = false := by simpa using hr2
      have HT := Lib.hid hr3
      clear hr2 hr3
      go_enter Tryz.func9, Tryz.ntmps9
      go_wp2_with fail
      refine HIS.out.mono ?_
      rintro e w1 ⟨rfl, hb1⟩
      have HFG1 := Lib.hid (HFG.out.mono hb1)
      have HDG1 := Lib.hid (HDG.out.mono hb1)
      have HB1 := Lib.hid (HBW.out.trans (hb1.mono HBW.out.size))
      clear hb1
      go_wp2_with fail
      have hi := isRow19 HFG1.out HDG1.out
      rw [HT.out] at hi
      refine hi.mono ?_
      clear hi
      rintro e w2 ⟨rfl, hb2⟩
      have HB2 := Lib.hid (HB1.out.trans (hb2.mono HB1.out.size))
      clear hb2
      go_wp2_with fail
      refine (works20 w2).mono ?_
      rintro e w3 ⟨rfl, hb3⟩
      have HB3 := Lib.hid (HB2.out.trans (hb3.mono HB2.out.size))
      clear hb3
      go_wp2_with fail
      go_ret
      exact ⟨rfl, HB3.out⟩
  · have hr' : isRow fs ds = false := by simpa using hr
    have HIS := Lib.hid (isRow19 HF.out HD.out)
    rw [hr'] at HIS
    clear hr hr'
    go_enter Tryz.func9, Tryz.ntmps9
    go_wp2_with fail
    refine HIS.out.mono ?_
    rintro e w1 ⟨rfl, hb1⟩
    have HB1 := Lib.hid (HBW.out.trans (hb1.mono HBW.out.size))
    clear hb1
    go_wp2_with fail
    refine (works20 w1).mono ?_
    rintro e w2 ⟨rfl, hb2⟩
    have HB2 := Lib.hid (HB1.out.trans (hb2.mono HB1.out.size))
    clear hb2
    go_wp2_with fail
    go_ret
    exact ⟨rfl, HB2.out⟩
end Go.Proofs.YtglgclkgppomiaaGreat

namespace Go.Proofs.YtglgclkgppomiaaGreat
open Go Go.RowKit

/-- A part of a list of fields, behind a slice. -/
theorem FdsAt.part {w : World} {B : Nat} {b o n c : Nat} {fs : List Fd} (h : FdsAt w B (some ⟨b, o, none⟩) n c fs) {i j : Nat} (hij : i ≤ j) (hj : j ≤ n) (c2 : Nat) (hc : j - i ≤ c2) : FdsAt w B (some ⟨b, o + i * 4, none⟩) (j - i) c2 ((fs.drop i).take (j - i)) := by
  cases h with
  | nil => obtain rfl : j = 0 := by omega
           obtain rfl : i = 0 := by omega
           simp; exact .nil _ _
  | mk _ _ _ _ _ A c' hb hn hnc h hr =>
    have hg : ∀ k f, ((fs.drop i).take (j - i))[k]? = some f → fs[i + k]? = some f := fun k f hk => by
      have hlt : k < j - i := by
        have := (List.getElem?_eq_some_iff.1 hk).1
        simp at this; omega
      rw [List.getElem?_take_of_lt hlt, List.getElem?_drop] at hk
      exact hk
    refine .mk b _ _ _ _ (fun k => A (i + k)) (fun k => c' (i + k)) hb (by simp; omega) hc (fun k f hk => ?_) (fun k f hk => hr _ f (hg k f hk))
    have := h _ f (hg k f hk)
    rw [show o + i * 4 + k * 4 = o + (i + k) * 4 by omega]
    exact this
theorem DtsAt.part {w : World} {B : Nat} {b o n c : Nat} {ds : List Dt} (h : DtsAt w B (some ⟨b, o, none⟩) n c ds) {i j : Nat} (hij : i ≤ j) (hj : j ≤ n) (c2 : Nat) (hc : j - i ≤ c2) : DtsAt w B (some ⟨b, o + i * 4, none⟩) (j - i) c2 ((ds.drop i).take (j - i)) := by
  cases h with
  | nil => obtain rfl : j = 0 := by omega
           obtain rfl : i = 0 := by omega
           simp; exact .nil _ _
  | mk _ _ _ _ _ A c' hb hn hnc h hr =>
    have hg : ∀ k f, ((ds.drop i).take (j - i))[k]? = some f → ds[i + k]? = some f := fun k f hk => by
      have hlt : k < j - i := by
        have := (List.getElem?_eq_some_iff.1 hk).1
        simp at this; omega
      rw [List.getElem?_take_of_lt hlt, List.getElem?_drop] at hk
      exact hk
    refine .mk b _ _ _ _ (fun k => A (i + k)) (fun k => c' (i + k)) hb (by simp; omega) hc (fun k f hk => ?_) (fun k f hk => hr _ f (hg k f hk))
    have := h _ f (hg k f hk)
    rw [show o + i * 4 + k * 4 = o + (i + k) * 4 by omega]
    exact this

theorem take_one {α : Type} {l : List α} {k : Nat} {x : α} (h : l[k]? = some x) : (l.drop k).take (k + 1 - k) = [x] := by
  have hk := (List.getElem?_eq_some_iff.1 h).1
  rw [show k + 1 - k = 1 by omega, List.drop_eq_getElem_cons hk, (List.getElem?_eq_some_iff.1 h).2]
  rfl
theorem FdsAt.one {w : World} {B : Nat} {b o n c : Nat} {fs : List Fd} (h : FdsAt w B (some ⟨b, o, none⟩) n c fs) {k : Nat} {f : Fd} (hf : fs[k]? = some f) (c2 : Nat) (hc : 1 ≤ c2) : FdsAt w B (some ⟨b, o + k * 4, none⟩) 1 c2 [f] := by
  have hk := (List.getElem?_eq_some_iff.1 hf).1
  have hn := h.len.1
  have := h.part (i := k) (j := k + 1) (by omega) (by omega) c2 (by omega)
  rw [take_one hf, show k + 1 - k = 1 by omega] at this
  exact this
theorem DtsAt.one {w : World} {B : Nat} {b o n c : Nat} {ds : List Dt} (h : DtsAt w B (some ⟨b, o, none⟩) n c ds) {k : Nat} {d : Dt} (hf : ds[k]? = some d) (c2 : Nat) (hc : 1 ≤ c2) : DtsAt w B (some ⟨b, o + k * 4, none⟩) 1 c2 [d] := by
  have hk := (List.getElem?_eq_some_iff.1 hf).1
  have hn := h.len.1
  have := h.part (i := k) (j := k + 1) (by omega) (by omega) c2 (by omega)
  rw [take_one hf, show k + 1 - k = 1 by omega] at this
  exact this
set_option maxRecDepth 100000 in
set_option maxHeartbeats 4000000 in
theorem law6 {w : World} {A A2 : Option Addr} {n c n2 c2 : Nat} {fs : List Fd} {ds : List Dt} (k : Int) (hF : InF w A n c fs) (hD : InD w A2 n2 c2 ds) :
    Calls Tryz.prog 6 #[.slice A n c, .slice A2 n2 c2, .int .i64 k] w fun e w' => e = .returned (.bool true) ∧ Below w.heap.size w w' := by
  have HF := Lib.hid hF
  have HD := Lib.hid hD
  obtain ⟨s1, s2, s3⟩ := small_len hF.len.2
  obtain ⟨s4, s5, s6⟩ := small_len hD.len.2
  have HIS := Lib.hid (isRow19 hF hD)
  clear hF hD
  by_cases hr : isRow fs ds = true
  · have HR := Lib.hid (rowFacts hr HD.out.nf)
    have HT := Lib.hid hr
    have hlv := HR.out.leaves
    have hpl := HR.out.plen
    have hn0 : 0 < n := by
      have h1 := HF.out.len.1
      have h2 : fs.length ≠ 0 := by simpa using HR.out.ne
      omega
    have hlen : n2 = n := by
      obtain ⟨m, hm⟩ := HR.out.row
      have h1 := (rowGo_len _ _ _ _ hm).1
      have h2 := HF.out.len.1
      have h3 := HD.out.len.1
      omega
    subst hlen
    obtain ⟨b, o, _, _, _, rfl, _⟩ := HF.out.at_.at_ hn0
    obtain ⟨b2, o2, _, _, _, rfl, _⟩ := HD.out.at_.at_ hn0
    have hnc := HF.out.at_.len.2
    have hnc2 := HD.out.at_.len.2
    have hn1 := HF.out.len.2
    obtain ⟨aI, hat, e2, hlt⟩ : ∃ aI : Int, wrap64 ((IntKind.u64.wrap k).tmod (n2 : Int)) = aI ∧ 0 ≤ aI ∧ aI < (n2 : Int) := by
      have h0 : 0 ≤ IntKind.u64.wrap k := by simp only [IntKind.wrap, IntKind.bits, IntKind.signed]; simp; omega
      have h1 := Int.emod_nonneg (IntKind.u64.wrap k) (b := (n2 : Int)) (by omega)
      have h2 := Int.emod_lt_of_pos (IntKind.u64.wrap k) (b := (n2 : Int)) (by omega)
      rw [Int.tmod_eq_emod_of_nonneg h0]
      refine ⟨IntKind.u64.wrap k % (n2 : Int), ?_, h1, h2⟩
      unfold wrap64; omega
    have e1 : aI ≤ (c : Int) := by omega
    have e3 : aI + 1 ≤ 2000000 := by omega
    have e4 : aI + 1 ≤ (c : Int) := by omega
    have e5 : aI + 1 ≤ (c2 : Int) := by omega
    rw [hr] at HIS
    clear hr
    go_enter Tryz.func6, Tryz.ntmps6
    go_wp2_with fail
    refine HIS.out.mono ?_
    rintro e w1 ⟨rfl, hb1⟩
    have HF1 := Lib.hid (HF.out.mono hb1)
    have HD1 := Lib.hid (HD.out.mono hb1)
    have HB1 := Lib.hid hb1
    clear hb1
    go_wp2_with fail
    have hp0 := HF1.out.at_.part (i := 0) (j := aI.toNat) (Nat.zero_le _) (by omega) c (by omega)
    simp only [Nat.zero_mul, Nat.add_zero, Nat.sub_zero, List.drop_zero] at hp0
    refine (leaves_all 1000000000 (Nat.le_refl _) (fs.take aI.toNat) _ aI.toNat c w1 (by have := HR.out.size; have := fdsSize_take fs aI.toNat; omega) hp0).mono ?_
    clear hp0
    rintro e w2 ⟨rfl, hb2⟩
    have HF2 := Lib.hid (HF1.out.mono hb2)
    have HD2 := Lib.hid (HD1.out.mono hb2)
    have HB2 := Lib.hid (HB1.out.trans (hb2.mono HB1.out.size))
    clear hb2
    go_wp2_with fail
    have hp1 := HF2.out.at_.part (i := 0) (j := (aI + 1).toNat) (Nat.zero_le _) (by omega) c (by omega)
    simp only [Nat.zero_mul, Nat.add_zero, Nat.sub_zero, List.drop_zero] at hp1
    refine (leaves_all 1000000000 (Nat.le_refl _) (fs.take (aI + 1).toNat) _ (aI + 1).toNat c w2 (by have := HR.out.size; have := fdsSize_take fs (aI + 1).toNat; omega) hp1).mono ?_
    clear hp1
    rintro e w3 ⟨rfl, hb3⟩
    have HF3 := Lib.hid (HF2.out.mono hb3)
    have HD3 := Lib.hid (HD2.out.mono hb3)
    have HB3 := Lib.hid (HB2.out.trans (hb3.mono HB2.out.size))
    clear hb3
    go_wp2_with fail
    refine (decon21 fs ds _ n2 c _ n2 c2 w3 HF3.out.at_ HD3.out.at_ HR.out).mono ?_
    rintro e w4 ⟨A4, c4, rfl, hc4, hb4⟩
    have HF4 := Lib.hid (HF3.out.mono hb4)
    have HD4 := Lib.hid (HD3.out.mono hb4)
    have HC4 := Lib.hid hc4
    have HB4 := Lib.hid (HB3.out.trans (hb4.mono HB3.out.size))
    clear hb4 hc4
    go_wp2_with fail
    try simp only [hat]
    clear hat
    have hw : IntKind.i64.wrap (aI + 1) = aI + 1 := by simp [IntKind.wrap, IntKind.bits, IntKind.signed]; omega
    have hw2 : wrap64 (aI + 1) = aI + 1 := by unfold wrap64; omega
    have e8 : aI ≤ aI + 1 := by omega
    have e9 : 0 ≤ aI + 1 := by omega
    have hne1 : ¬ c = aI.toNat := by omega
    have hne2 : ¬ c2 = aI.toNat := by omega
    have hdif : (aI + 1).toNat - aI.toNat = 1 := by omega
    have hatn : aI.toNat < n2 := by omega
    obtain ⟨f, hf⟩ : ∃ f, fs[aI.toNat]? = some f := ⟨_, List.getElem?_eq_getElem (by have := HF.out.len.1; omega)⟩
    obtain ⟨d, hd⟩ : ∃ d, ds[aI.toNat]? = some d := ⟨_, List.getElem?_eq_getElem (by have := HD.out.len.1; omega)⟩
    have HFN := Lib.hid hf
    have HDN := Lib.hid hd
    have HNO : Hid (NumsFit [d]) := .mk _ (fun x hx => by simp at hx; subst hx; exact (HD.out.nf.at_ (List.mem_of_getElem? hd)).1) (fun x hx => by simp at hx; subst hx; exact (HD.out.nf.at_ (List.mem_of_getElem? hd)).2)
    have HR1 := Lib.hid (rowFacts (isRow_one HT.out hf hd) HNO.out)
    have HFO := Lib.hid ((HF4.out.at_.one hf (c - aI.toNat) (by omega)).mono (Below.refl _ w4).drew (Nat.le_refl _))
    have HDO := Lib.hid ((HD4.out.at_.one hd (c2 - aI.toNat) (by omega)).mono (Below.refl _ w4).drew (Nat.le_refl _))
    have hpl1 := HR1.out.plen
    have hfr : (leaves (fs.take aI.toNat) : Int) ≤ 1000000 := by have := leaves_take_le fs aI.toNat; have := HR.out.size; omega
    have hfr0 : (0 : Int) ≤ (leaves (fs.take aI.toNat) : Int) := Int.natCast_nonneg _
    have htn : (aI + 1).toNat = aI.toNat + 1 := by omega
    rw [htn] at *
    have HLAW : Hid ((rowCells [f] [d]).map (mv (leaves (fs.take aI.toNat)) 0 0) = btw (leaves (fs.take aI.toNat)) (leaves (fs.take (aI.toNat + 1))) (rowCells fs ds)) := field_law hf hd
    clear hf hd hatn htn
    go_region_held3 (fun _ => True) (trivial) (first
      | (go_at_call 21
         refine (decon21 [f] [d] _ 1 _ _ 1 _ _ HFO.out HDO.out HR1.out).mono ?_
         rintro e w5 ⟨A5, c5, rfl, hc5, hb5⟩
         have HC5 := Lib.hid hc5
         have hbA : Below w4.heap.size w4 w5 := below_of_drew hb5
         have HC6 := Lib.hid (HC4.out.mono hbA hbA.size)
         have HB5 := Lib.hid (HB4.out.trans (hbA.mono HB4.out.size))
         clear hc5 hb5 hbA)
      | (go_at_call 26
         refine (moved26 (rowCells [f] [d]) A5 _ c5 _ 0 0 w5 HC5.out hpl1 HR1.out.small ⟨hfr0, hfr⟩ (by decide) (by decide)).mono ?_
         rintro e w6 ⟨A6, c6, rfl, hc6, hb6⟩
         rw [List.length_map] at hc6
         have HC7 := Lib.hid hc6
         have HC8 := Lib.hid (HC6.out.mono hb6 hb6.size)
         have HB6 := Lib.hid (HB5.out.trans (hb6.mono HB5.out.size))
         clear hc6 hb6)
      | (go_at_call 27
         refine (between27 (rowCells fs ds) A4 _ c4 _ _ w6 HC8.out hpl).mono ?_
         rintro e w7 ⟨A7, c7, rfl, hc7, hb7⟩
         have HC9 := Lib.hid hc7
         have HC10 := Lib.hid (HC7.out.mono hb7 hb7.size)
         have HB7 := Lib.hid (HB6.out.trans (hb7.mono HB6.out.size))
         clear hc7 hb7)
      | (go_at_call 23
         refine (sameCells_any ((rowCells [f] [d]).map (mv (leaves (fs.take aI.toNat)) 0 0)) (btw (leaves (fs.take aI.toNat)) (leaves (fs.take (aI.toNat + 1))) (rowCells fs ds)) A6 _ c6 A7 _ c7 w7 (by omega) HC10.out HC9.out).mono ?_
         rintro e w8 ⟨x, rfl, hx, hb8⟩
         obtain rfl : x = true := hx.2 HLAW.out
         have HB8 := Lib.hid (HB7.out.trans (hb8.mono HB7.out.size))
         clear hx hb8)
      | (go_at_call 20
         refine (works20 _).mono ?_
         rintro e w9 ⟨rfl, hb9⟩
         have HB9 := Lib.hid (HB8.out.trans (hb9.mono HB8.out.size))
         clear hb9))
    all_goals
      go_wp2_with fail
      go_ret
      exact ⟨rfl, HB9.out⟩
  · have hr' : isRow fs ds = false := by simpa using hr
    rw [hr'] at HIS
    clear hr hr'
    go_enter Tryz.func6, Tryz.ntmps6
    go_wp2_with fail
    refine HIS.out.mono ?_
    rintro e w1 ⟨rfl, hb1⟩
    have HB1 := Lib.hid hb1
    clear hb1
    go_wp2_with fail
    refine (works20 w1).mono ?_
    rintro e w2 ⟨rfl, hb2⟩
    have HB2 := Lib.hid (HB1.out.trans (hb2.mono HB1.out.size))
    clear hb2
    go_wp2_with fail
    go_ret
    exact ⟨rfl, HB2.out⟩
end Go.Proofs.YtglgclkgppomiaaGreat
