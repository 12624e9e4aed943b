/- The walk of the law FnRowsDiffer: rows with the same cells are the same. -/
import Derived.Test.YtglgclkgppomiaaGreatZ24
import Derived.Barred
set_option linter.unusedVariables false
set_option linter.unusedSimpArgs false
namespace Go.Proofs.YtglgclkgppomiaaGreat
open Go Go.RowKit

/-- Two contracts on one call speak of one end. -/
theorem calls_agree {P : Program} {f : FuncId} {args : Array Value} {w : World} {R R' : Value → World → Prop}
    (h : Calls P f args w fun e w' => ∃ v, e = .returned v ∧ R v w') (h' : Calls P f args w fun e w' => ∃ v, e = .returned v ∧ R' v w') (hi : P.inits.idxOf? f = none) : ∃ v w', R v w' ∧ R' v w' := by
  have g : ∀ {Q : Value → World → Prop}, Calls P f args w (fun e w' => ∃ v, e = .returned v ∧ Q v w') → Calls P f args w fun | .returned v, w' => Q v w' | _, _ => False := fun hq => hq.mono fun e w' ⟨v, he, hv⟩ => by subst he; exact hv
  obtain ⟨n, v, w1, e1, r1⟩ := (g h).done hi
  obtain ⟨m, v', w2, e2, r2⟩ := (g h').done hi
  have a := runN_ended e1 m
  have b := runN_ended e2 n
  rw [Nat.add_comm, a] at b
  injection b with ho hw
  injection ho with hv
  subst hv hw
  exact ⟨_, _, r1, r2⟩
theorem dt_ext {a b : Dt} (h0 : a.none = b.none) (h1 : a.num = b.num) (h2 : a.text = b.text) (h3 : a.items = b.items) : a = b := by
  cases a; cases b; simp only [Dt.none, Dt.num, Dt.text, Dt.items] at *; subst h0 h1 h2 h3; rfl
theorem DtsAt.inj {w : World} {B : Nat} {A : Option Addr} {n c : Nat} {a : List Dt} (h : DtsAt w B A n c a) : ∀ {b : List Dt}, DtsAt w B A n c b → a = b := by
  induction h with
  | nil A c => intro b hb; have := hb.len.1; exact (List.eq_nil_of_length_eq_zero this).symm
  | mk b0 o n c ds A c' hlt hn hnc h hr ih =>
    intro b hb
    cases hb with
    | nil => exact List.eq_nil_of_length_eq_zero hn
    | mk _ _ _ _ ds2 A2 c2 hlt2 hn2 hnc2 h2 hr2 =>
      apply List.ext_getElem?
      intro k
      by_cases hk : k < n
      · have e1 : ds[k]? = some (ds[k]'(by omega)) := List.getElem?_eq_getElem _
        have e2 : b[k]? = some (b[k]'(by omega)) := List.getElem?_eq_getElem _
        rw [e1, e2]
        obtain ⟨p0, p1, p2, p3⟩ := h k _ e1
        obtain ⟨q0, q1, q2, q3⟩ := h2 k _ e2
        rw [p0] at q0
        rw [p1] at q1
        rw [p2] at q2
        rw [p3] at q3
        simp only [Option.some.injEq, Value.bool.injEq, Value.int.injEq, true_and, Value.string.injEq, Value.slice.injEq] at q0 q1 q2 q3
        have hsub := hr2 k _ e2
        rw [← q3.1, ← q3.2.1, ← q3.2.2] at hsub
        rw [dt_ext q0 q1 q2 (ih k _ e1 hsub)]
      · rw [List.getElem?_eq_none (by omega), List.getElem?_eq_none (by omega)]
/-- Rows with the same cells are the same. -/
theorem cells_inj {w : World} {A A2 : Option Addr} {n c n2 c2 : Nat} {fs : List Fd} {a b : List Dt} (hF : FdsAt w w.heap.size A n c fs) (hc : ClsAt w w.heap.size A2 n2 c2 (rowCells fs a)) (ha : RowFacts fs a) (hb : RowFacts fs b) (na : NumsFit a) (nb : NumsFit b) (ta : TextsFit a) (tb : TextsFit b)
    (he : rowCells fs a = rowCells fs b) : a = b := by
  have h1 := recon22 fs a A n c A2 n2 c2 w hF hc ha na (sh_texts fs ta)
  have h2 := recon22 fs b A n c A2 n2 c2 w hF (by rw [← he]; exact hc) hb nb (sh_texts fs tb)
  obtain ⟨v, w', ⟨A3, c3, e3, d3⟩, ⟨A4, c4, e4, d4⟩⟩ := calls_agree (R := fun v w' => ∃ A c, v = .tuple #[.slice A a.length c, .bool true] ∧ DtsAt w' w'.heap.size A a.length c a)
    (R' := fun v w' => ∃ A c, v = .tuple #[.slice A b.length c, .bool true] ∧ DtsAt w' w'.heap.size A b.length c b)
    (h1.mono fun e w' ⟨A, c, he, hd, _⟩ => ⟨_, he, A, c, rfl, hd⟩) (h2.mono fun e w' ⟨A, c, he, hd, _⟩ => ⟨_, he, A, c, rfl, hd⟩) (by kernel_rfl)
  rw [e3] at e4
  simp only [Value.tuple.injEq, Array.mk.injEq, List.cons.injEq, Value.slice.injEq, and_true] at e4
  rw [← e4.1, ← e4.2.1, ← e4.2.2] at d4
  exact d3.inj d4

set_option maxRecDepth 100000 in
set_option maxHeartbeats 2000000 in
theorem law5 {w : World} {A A2 A3 : Option Addr} {n c n2 c2 n3 c3 : Nat} {fs : List Fd} {a b : List Dt} (hF : InF w A n c fs) (hD : InD w A2 n2 c2 a) (hE : InD w A3 n3 c3 b) :
    Calls Tryz.prog 5 #[.slice A n c, .slice A2 n2 c2, .slice A3 n3 c3] w fun e w' => e = .returned (.bool true) ∧ Below w.heap.size w w' := by
  have HF := Lib.hid hF
  have HD := Lib.hid hD
  have HE := Lib.hid hE
  obtain ⟨s1, s2, s3⟩ := small_len hF.len.2
  obtain ⟨s4, s5, s6⟩ := small_len hD.len.2
  obtain ⟨s7, s8, s9⟩ := small_len hE.len.2
  have HIS := Lib.hid (isRow19 hF hD)
  clear hF hD hE
  by_cases hr : isRow fs a = true
  · have HR := Lib.hid (rowFacts hr HD.out.nf)
    rw [hr] at HIS
    clear hr
    by_cases hr2 : isRow fs b = true
    · have HR2 := Lib.hid (rowFacts hr2 HE.out.nf)
      have HT := Lib.hid hr2
      clear hr2
      go_enter Tryz.func5, Tryz.ntmps5
      go_wp2_with fail
      refine HIS.out.mono ?_
      rintro e w1 ⟨rfl, hb1⟩
      have HB1 := Lib.hid hb1
      clear hb1
      go_wp2_with fail
      have hi := isRow19 (HF.out.mono HB1.out) (HE.out.mono HB1.out)
      rw [HT.out] at hi
      refine hi.mono ?_
      clear hi
      rintro e w2 ⟨rfl, hb2⟩
      have HB2 := Lib.hid (HB1.out.trans (hb2.mono HB1.out.size))
      clear hb2
      go_wp2_with fail
      refine (decon21 fs a A n c A2 n2 c2 w2 (HF.out.mono HB2.out).at_ (HD.out.mono HB2.out).at_ HR.out).mono ?_
      rintro e w3 ⟨A4, c4, rfl, hc4, hb3⟩
      have HC4 := Lib.hid hc4
      have HB3 := Lib.hid (HB2.out.trans (hb3.mono HB2.out.size))
      clear hc4 hb3
      go_wp2_with fail
      refine (decon21 fs b A n c A3 n3 c3 w3 (HF.out.mono HB3.out).at_ (HE.out.mono HB3.out).at_ HR2.out).mono ?_
      rintro e w4 ⟨A5, c5, rfl, hc5, hb4⟩
      have HC5 := Lib.hid hc5
      have HC6 := Lib.hid (HC4.out.mono hb4 hb4.size)
      have HB4 := Lib.hid (HB3.out.trans (hb4.mono HB3.out.size))
      clear hc5 hb4
      go_wp2_with fail
      refine (sameCells_any (rowCells fs a) (rowCells fs b) A4 _ c4 A5 _ c5 w4 (by have := HR.out.plen; omega) HC6.out HC5.out).mono ?_
      rintro e w5 ⟨x, rfl, hx, hb5⟩
      have HX : Hid (x = true ↔ a = b) := ⟨fun h => cells_inj (HF.out.mono HB4.out).at_ HC6.out HR.out HR2.out HD.out.nf HE.out.nf HD.out.tx HE.out.tx (hx.1 h), fun h => hx.2 (by rw [h])⟩
      have HB5 := Lib.hid (HB4.out.trans (hb5.mono HB4.out.size))
      clear hx hb5
      go_wp2_with fail
      refine (sameData_all 1000000000 (Nat.le_refl _) a b A2 n2 c2 A3 n3 c3 w5 (by have := HR.out.dsize; omega) (HD.out.mono HB5.out).at_ (HE.out.mono HB5.out).at_).mono ?_
      rintro e w6 ⟨y, rfl, hy, hb6⟩
      have hxy : x = y := Bool.eq_iff_iff.2 (HX.out.trans hy.symm)
      subst hxy
      have HB6 := Lib.hid (HB5.out.trans (hb6.mono HB5.out.size))
      clear hy hb6
      go_wp2_with fail
      go_ret
      exact ⟨ret_bool (by simp), HB6.out⟩
    · have hr3 : isRow fs b = false := by simpa using hr2
      have HT := Lib.hid hr3
      clear hr2 hr3
      go_enter Tryz.func5, Tryz.ntmps5
      go_wp2_with fail
      refine HIS.out.mono ?_
      rintro e w1 ⟨rfl, hb1⟩
      have HB1 := Lib.hid hb1
      clear hb1
      go_wp2_with fail
      have hi := isRow19 (HF.out.mono HB1.out) (HE.out.mono HB1.out)
      rw [HT.out] at hi
      refine hi.mono ?_
      clear hi
      rintro e w2 ⟨rfl, hb2⟩
      have HB2 := Lib.hid (HB1.out.trans (hb2.mono HB1.out.size))
      clear hb2
      go_wp2_with fail
      refine (works20 w2).mono ?_
      rintro e w3 ⟨rfl, hb3⟩
      have HB3 := Lib.hid (HB2.out.trans (hb3.mono HB2.out.size))
      clear hb3
      go_wp2_with fail
      go_ret
      exact ⟨rfl, HB3.out⟩
  · have hr' : isRow fs a = false := by simpa using hr
    rw [hr'] at HIS
    clear hr hr'
    go_enter Tryz.func5, Tryz.ntmps5
    go_wp2_with fail
    refine HIS.out.mono ?_
    rintro e w1 ⟨rfl, hb1⟩
    have HB1 := Lib.hid hb1
    clear hb1
    go_wp2_with fail
    refine (works20 w1).mono ?_
    rintro e w2 ⟨rfl, hb2⟩
    have HB2 := Lib.hid (HB1.out.trans (hb2.mono HB1.out.size))
    clear hb2
    go_wp2_with fail
    go_ret
    exact ⟨rfl, HB2.out⟩
end Go.Proofs.YtglgclkgppomiaaGreat
