/- The walk of the law FnRowsFirst. -/
import Derived.Test.YtglgclkgppomiaaGreatYFirst01
import Derived.Test.YtglgclkgppomiaaGreatZ24
set_option linter.unusedVariables false
set_option linter.unusedSimpArgs false
namespace Go.Proofs.YtglgclkgppomiaaGreat
open Go Go.RowKit

theorem firstOk_last : ∀ (L : List Cl) (a b : Int), firstOk a L b → a ≤ b
  | [], a, b, h => by simp only [firstOk] at h; omega
  | x :: r, a, b, ⟨_, h2, h3⟩ => by have := firstOk_last r _ b h3; omega
set_option maxRecDepth 100000 in
set_option maxHeartbeats 2000000 in
theorem law7 {w : World} {A A2 : Option Addr} {n c n2 c2 : Nat} {fs : List Fd} {ds : List Dt} (hF : InF w A n c fs) (hD : InD w A2 n2 c2 ds) :
    Calls Tryz.prog 7 #[.slice A n c, .slice A2 n2 c2] w fun e w' => e = .returned (.bool true) ∧ Below w.heap.size w w' := by
  have HF := Lib.hid hF
  have HD := Lib.hid hD
  obtain ⟨s1, s2, s3⟩ := small_len hF.len.2
  obtain ⟨s4, s5, s6⟩ := small_len hD.len.2
  have HIS := Lib.hid (isRow19 hF hD)
  clear hF hD
  by_cases hr : isRow fs ds = true
  · have HR := Lib.hid (rowFacts hr HD.out.nf)
    have hlv := HR.out.leaves
    have hpl := HR.out.plen
    rw [hr] at HIS
    clear hr
    go_enter Tryz.func7, Tryz.ntmps7
    go_wp2_with fail
    refine HIS.out.mono ?_
    rintro e w1 ⟨rfl, hb1⟩
    have HB1 := Lib.hid hb1
    clear hb1
    go_wp2_with fail
    refine (decon21 fs ds A n c A2 n2 c2 w1 (HF.out.mono HB1.out).at_ (HD.out.mono HB1.out).at_ HR.out).mono ?_
    rintro e w2 ⟨A3, c3, rfl, hc3, hb2⟩
    have HC3 := Lib.hid hc3
    have HB2 := Lib.hid (HB1.out.trans (hb2.mono HB1.out.size))
    clear hc3 hb2
    have HFO := Lib.hid (firstOk_row fs ds)
    generalize rowCells fs ds = cs at *
    go_wp2_with fail
    go_loopw [5, 25] (fun l i wr => ∃ (j : Nat) (last : Int), j ≤ cs.length ∧ i = .int .i64 j ∧ l = .int .i64 last ∧ -1 ≤ last ∧ firstOk last (cs.drop j) ((leaves fs : Int) - 1) ∧ Below w2.heap.size w2 wr) (fun _ i _ => cs.length - (intOf i).toNat)
    case atStart => exact ⟨0, -1, Nat.zero_le _, rfl, rfl, Int.le_refl _, HFO.out, Below.refl _ _⟩
    case round =>
      obtain ⟨j, last, hj, rfl, rfl, hl0, hfo, hb5⟩ := hrel
      have HB5 := Lib.hid hb5
      by_cases hlt : j < cs.length
      · obtain ⟨b0, o, x, rfl, hb0, hxk, c0, c1, c2, c3, c4, c5, c6⟩ := HC3.out.at_ hlt
        have hdr : cs.drop j = x :: cs.drop (j + 1) := by
          rw [List.drop_eq_getElem_cons hlt]
          rw [List.getElem?_eq_getElem hlt] at hxk
          injection hxk with hxk
          rw [hxk]
        rw [hdr] at hfo
        obtain ⟨f1, f2, f3⟩ := hfo
        have hll := firstOk_last _ _ _ f3
        have HF3 := Lib.hid f3
        have c0' := (bcell hb5 hb0).trans c0
        have c1' := (bcell hb5 hb0).trans c1
        have c2' := (bcell hb5 hb0).trans c2
        have c3' := (bcell hb5 hb0).trans c3
        have c4' := (bcell hb5 hb0).trans c4
        have c5' := (bcell hb5 hb0).trans c5
        have c6' := (bcell hb5 hb0).trans c6
        have hj0 : (0 : Int) ≤ (j : Int) := Int.natCast_nonneg _
        have hj1 : (j : Int) < (cs.length : Int) := by omega
        have hsz5 := hb5.size
        clear c0 c1 c2 c3 c4 c5 c6 hxk hb5 hdr f3
        generalize hxc : x.col = xc at *
        generalize hxr : x.rep = xr at *
        have HXC := Lib.hid hxc
        have e1 : wrap64 (last + 1) = last + 1 := by unfold wrap64; omega
        have hb9 : ∀ o1, Below w2.heap.size w2 (wr.alloc o1) := fun o1 => HB5.out.alloc hsz5 _
        have HB9 := Lib.hid hb9
        clear hb9 hxc hxr
        by_cases hc : xc = last + 1
        · have hr0 : xr = 0 := f1.2 hc
          subst hr0
          subst hc
          have q1 : ((last + 1 : Int) == last) = false := by simp; omega
          clear f1 f2
          go_wp2_with fail
          exact ⟨⟨j + 1, last + 1, by omega, by go_num, rfl, by omega, HF3.out, HB9.out _⟩, by simp [intOf]; omega⟩
        · have hr0 : xr ≠ 0 := fun h => hc (f1.1 h)
          have hc2 : xc = last := by omega
          subst hc2
          have q1 : (xc == xc + 1) = false := by simp; omega
          have q2 : (xr == 0) = false := by simpa using hr0
          clear f1 f2 hc
          go_wp2_with fail
          exact ⟨⟨j + 1, xc, by omega, by go_num, rfl, hl0, HF3.out, HB9.out _⟩, by simp [intOf]; omega⟩
      · obtain rfl : j = cs.length := by omega
        rw [List.drop_length] at hfo
        simp only [firstOk] at hfo
        go_wp2_with fail
        have HB3 := Lib.hid (HB2.out.trans (HB5.out.mono HB2.out.size))
        have e2 : wrap64 ((leaves fs : Nat) - 1 : Int) = (leaves fs : Int) - 1 := by unfold wrap64; omega
        subst hfo
        clear hb5
        refine (leaves_all 1000000000 (Nat.le_refl _) fs A n c wr (by have := HF.out.sz; omega) (HF.out.mono HB3.out).at_).mono ?_
        rintro e w4 ⟨rfl, hb4⟩
        have HB4 := Lib.hid (HB3.out.trans (hb4.mono HB3.out.size))
        clear hb4
        go_wp2_with fail
        go_ret
        exact ⟨ret_bool (by simp), HB4.out⟩
  · have hr' : isRow fs ds = false := by simpa using hr
    rw [hr'] at HIS
    clear hr hr'
    go_enter Tryz.func7, Tryz.ntmps7
    go_wp2_with fail
    refine HIS.out.mono ?_
    rintro e w1 ⟨rfl, hb1⟩
    have HB1 := Lib.hid hb1
    clear hb1
    go_wp2_with fail
    refine (works20 w1).mono ?_
    rintro e w2 ⟨rfl, hb2⟩
    have HB2 := Lib.hid (HB1.out.trans (hb2.mono HB1.out.size))
    clear hb2
    go_wp2_with fail
    go_ret
    exact ⟨rfl, HB2.out⟩
end Go.Proofs.YtglgclkgppomiaaGreat
