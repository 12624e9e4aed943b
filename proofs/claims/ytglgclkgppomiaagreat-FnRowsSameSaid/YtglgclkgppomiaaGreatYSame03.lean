/- The walk of spec.IsCell. spec.IsCell whole, and spec.AreCells. Plain: what a cell is that spec.IsCell lets in; the walk of laws.zzFits2. Plain: floating-point numbers that spec.IsCell lets in are equal just if their bits are. The walks of bytes.Equal and of Equal of two values of one kind (printed by tools/gen_t12.py). Equal and DeepEqual of the values of two cells. -/
import Derived.Test.YtglgclkgppomiaaGreatYSame01
import Derived.Test.YtglgclkgppomiaaGreatYSame02
import Derived.Test.YtglgclkgppomiaaGreatZ02
import Derived.Test.YtglgclkgppomiaaGreatZ14
import Derived.Test.YtglgclkgppomiaaGreatZ15
import Derived.Test.YtglgclkgppomiaaGreatZ18
import Derived.Test.YtglgclkgppomiaaGreatZ22
set_option linter.unusedVariables false
set_option linter.unusedSimpArgs false
namespace Go.Proofs.YtglgclkgppomiaaGreat
open Go Go.RowKit

/-- Is a float's negative nought borne? -/
def isNeg0 (kind num : Int) : Bool := (decide (kind = 4) && decide (num = 2147483648)) || (decide (kind = 5) && decide (num = -9223372036854775808))
/-- What spec.IsCell says. -/
def isCl (x : Cl) : Bool :=
  if x.col < 0 ∨ 1000 < x.col ∨ x.rep < 0 ∨ 255 < x.rep ∨ x.de < 0 ∨ 255 < x.de then false
  else if x.null then decide (x.kind = 0) && (decide (x.num = 0) && decide (x.text.size = 0))
  else isKd x.kind && (plainOk x.kind (.mk false x.num x.text []) && (isNum x.kind x.num && !isNeg0 x.kind x.num))

set_option maxRecDepth 100000 in
set_option maxHeartbeats 2000000 in
theorem cell42_bad (col rep de kind num : Int) (nl : Bool) (text : ByteArray) (w : World) (hb : col < 0 ∨ 1000 < col ∨ rep < 0 ∨ 255 < rep ∨ de < 0 ∨ 255 < de) :
    Calls Tryz.prog 42 #[.agg #[.int .i64 col, .int .i64 rep, .int .i64 de, .bool nl, .int .i64 kind, .int .i64 num, .string text]] w fun e w' => e = .returned (.bool false) ∧ Below w.heap.size w w' := by
  by_cases c0 : col < 0
  · have e0 : decide ((col : Int) < 0) = true := by simpa using c0
    clear hb c0
    go_enter Tryz.func42, Tryz.ntmps42
    go_wp2_with fail
    go_ret
    exact ⟨rfl, (Below.refl _ _).alloc (Nat.le_refl _) _⟩
  have e0 : decide ((col : Int) < 0) = false := by simpa using c0
  by_cases c1 : 1000 < col
  · have e1 : decide ((1000 : Int) < col) = true := by simpa using c1
    clear hb c1
    go_enter Tryz.func42, Tryz.ntmps42
    go_wp2_with fail
    go_ret
    exact ⟨rfl, (Below.refl _ _).alloc (Nat.le_refl _) _⟩
  have e1 : decide ((1000 : Int) < col) = false := by simpa using c1
  by_cases c2 : rep < 0
  · have e2 : decide ((rep : Int) < 0) = true := by simpa using c2
    clear hb c2
    go_enter Tryz.func42, Tryz.ntmps42
    go_wp2_with fail
    go_ret
    exact ⟨rfl, (Below.refl _ _).alloc (Nat.le_refl _) _⟩
  have e2 : decide ((rep : Int) < 0) = false := by simpa using c2
  by_cases c3 : 255 < rep
  · have e3 : decide ((255 : Int) < rep) = true := by simpa using c3
    clear hb c3
    go_enter Tryz.func42, Tryz.ntmps42
    go_wp2_with fail
    go_ret
    exact ⟨rfl, (Below.refl _ _).alloc (Nat.le_refl _) _⟩
  have e3 : decide ((255 : Int) < rep) = false := by simpa using c3
  by_cases c4 : de < 0
  · have e4 : decide ((de : Int) < 0) = true := by simpa using c4
    clear hb c4
    go_enter Tryz.func42, Tryz.ntmps42
    go_wp2_with fail
    go_ret
    exact ⟨rfl, (Below.refl _ _).alloc (Nat.le_refl _) _⟩
  have e4 : decide ((de : Int) < 0) = false := by simpa using c4
  by_cases c5 : 255 < de
  · have e5 : decide ((255 : Int) < de) = true := by simpa using c5
    clear hb c5
    go_enter Tryz.func42, Tryz.ntmps42
    go_wp2_with fail
    go_ret
    exact ⟨rfl, (Below.refl _ _).alloc (Nat.le_refl _) _⟩
  have e5 : decide ((255 : Int) < de) = false := by simpa using c5
  omega

set_option maxRecDepth 100000 in
set_option maxHeartbeats 2000000 in
theorem cell42_null (col rep de kind num : Int) (text : ByteArray) (w : World) (e0 : decide ((col : Int) < 0) = false) (e1 : decide ((1000 : Int) < col) = false) (e2 : decide ((rep : Int) < 0) = false) (e3 : decide ((255 : Int) < rep) = false) (e4 : decide ((de : Int) < 0) = false) (e5 : decide ((255 : Int) < de) = false) :
    Calls Tryz.prog 42 #[.agg #[.int .i64 col, .int .i64 rep, .int .i64 de, .bool true, .int .i64 kind, .int .i64 num, .string text]] w fun e w' => e = .returned (.bool (decide (kind = 0) && (decide (num = 0) && decide (text.size = 0)))) ∧ Below w.heap.size w w' := by
  have hte := toList_empty text
  by_cases k0 : kind = 0
  · have x0 : (kind == 0) = true := by simpa using k0
    have K0 := Lib.hid k0
    clear k0
    by_cases n0 : num = 0
    · have y0 : (num == 0) = true := by simpa using n0
      have N0 := Lib.hid n0
      clear n0
      by_cases h0 : text.size = 0
      · have t1 : text.toList = [] := by simpa [h0] using hte
        have H0 := Lib.hid h0
        clear hte h0
        go_enter Tryz.func42, Tryz.ntmps42
        go_wp2_with fail
        go_ret
        exact ⟨ret_bool (by rw [K0.out, N0.out, H0.out]; rfl), (Below.refl _ _).alloc (Nat.le_refl _) _⟩
      · have t1 : ¬ text.toList = [] := by simpa [h0] using hte
        have t2 : text.toList.isEmpty = false := by simpa [h0] using hte
        have H0 := Lib.hid h0
        clear hte h0
        go_enter Tryz.func42, Tryz.ntmps42
        go_wp2_with fail
        go_ret
        exact ⟨ret_bool (by rw [decide_eq_false H0.out]; simp), (Below.refl _ _).alloc (Nat.le_refl _) _⟩
    · have y0 : (num == 0) = false := by simpa using n0
      have N0 := Lib.hid n0
      clear n0 hte
      go_enter Tryz.func42, Tryz.ntmps42
      go_wp2_with fail
      go_ret
      exact ⟨ret_bool (by rw [decide_eq_false N0.out]; simp), (Below.refl _ _).alloc (Nat.le_refl _) _⟩
  · have x0 : (kind == 0) = false := by simpa using k0
    have K0 := Lib.hid k0
    clear k0 hte
    go_enter Tryz.func42, Tryz.ntmps42
    go_wp2_with fail
    go_ret
    exact ⟨ret_bool (by rw [decide_eq_false K0.out]; simp), (Below.refl _ _).alloc (Nat.le_refl _) _⟩

set_option maxRecDepth 100000 in
set_option maxHeartbeats 4000000 in
theorem cell42_there (col rep de kind num : Int) (text : ByteArray) (w : World) (e0 : decide ((col : Int) < 0) = false) (e1 : decide ((1000 : Int) < col) = false) (e2 : decide ((rep : Int) < 0) = false) (e3 : decide ((255 : Int) < rep) = false) (e4 : decide ((de : Int) < 0) = false) (e5 : decide ((255 : Int) < de) = false) (hts : text.size ≤ 1000000000000) :
    Calls Tryz.prog 42 #[.agg #[.int .i64 col, .int .i64 rep, .int .i64 de, .bool false, .int .i64 kind, .int .i64 num, .string text]] w fun e w' => e = .returned (.bool (isKd kind && (plainOk kind (.mk false num text []) && (isNum kind num && !isNeg0 kind num)))) ∧ Below w.heap.size w w' := by
  by_cases k4 : kind = 4
  · have x4 : (kind == 4) = true := by simpa using k4
    have x5 : (kind == 5) = false := by simp; omega
    by_cases n4 : num = 2147483648
    · have y4 : (num == 2147483648) = true := by simpa using n4
      have HZ : Hid (isNeg0 kind num = true) := by show _ = _; simp [isNeg0, k4, n4]
      clear k4 n4
      go_enter Tryz.func42, Tryz.ntmps42
      go_wp2_with fail
      refine (isKind_any kind _).mono ?_
      rintro e w1 ⟨rfl, rfl⟩
      cases hK : isKd kind with
      | false =>
        have HK := Lib.hid hK
        clear hK
        go_wp2_with fail
        go_ret
        exact ⟨ret_bool (by rw [HK.out]; rfl), (Below.refl _ _).alloc (Nat.le_refl _) _⟩
      | true =>
        have HK := Lib.hid hK
        clear hK
        go_wp2_with fail
        refine (isPlain_any kind (.mk false num text []) none 0 0 _ rfl hts).mono ?_
        rintro e w2 ⟨rfl, hb2⟩
        have HB2 := Lib.hid (((Below.refl w.heap.size w).alloc (Nat.le_refl _) (.cells #[.int .i64 col, .int .i64 rep, .int .i64 de, .bool false, .int .i64 kind, .int .i64 num, .string text] 39)).trans (hb2.mono (by rw [size_alloc1]; omega)))
        have hr : RowB w2 w.heap.size 39 #[.int .i64 col, .int .i64 rep, .int .i64 de, .bool false, .int .i64 kind, .int .i64 num, .string text] := (RowB.new w 39 _).keep hb2 (by rw [size_alloc1]; omega)
        obtain ⟨r0, r1, r2, r3, r4, r5, r6⟩ := hr.c7
        clear hb2 hr
        cases hP : plainOk kind (.mk false num text []) with
        | false =>
          have HP := Lib.hid hP
          clear hP
          go_wp2_with fail
          go_ret
          exact ⟨ret_bool (by rw [HK.out, HP.out]; rfl), HB2.out⟩
        | true =>
          have HP := Lib.hid hP
          clear hP
          go_wp2_with fail
          refine (number66 ⟨col, rep, de, false, kind, num, text⟩ w2).mono ?_
          rintro e w3 ⟨rfl, hb3⟩
          have HB3 := Lib.hid (HB2.out.trans (hb3.mono HB2.out.size))
          clear hb3
          cases hN : isNum kind num with
          | false =>
            have HN := Lib.hid hN
            clear hN
            go_wp2_with fail
            go_ret
            exact ⟨ret_bool (by rw [HK.out, HP.out, HN.out]; rfl), HB3.out⟩
          | true =>
            have HN := Lib.hid hN
            clear hN
            go_wp2_with fail
            go_ret
            exact ⟨ret_bool (by rw [HK.out, HP.out, HN.out, HZ.out]; rfl), HB3.out⟩
    · have y4 : (num == 2147483648) = false := by simpa using n4
      have HZ : Hid (isNeg0 kind num = false) := by show _ = _; simp [isNeg0, k4, n4]
      clear k4 n4
      go_enter Tryz.func42, Tryz.ntmps42
      go_wp2_with fail
      refine (isKind_any kind _).mono ?_
      rintro e w1 ⟨rfl, rfl⟩
      cases hK : isKd kind with
      | false =>
        have HK := Lib.hid hK
        clear hK
        go_wp2_with fail
        go_ret
        exact ⟨ret_bool (by rw [HK.out]; rfl), (Below.refl _ _).alloc (Nat.le_refl _) _⟩
      | true =>
        have HK := Lib.hid hK
        clear hK
        go_wp2_with fail
        refine (isPlain_any kind (.mk false num text []) none 0 0 _ rfl hts).mono ?_
        rintro e w2 ⟨rfl, hb2⟩
        have HB2 := Lib.hid (((Below.refl w.heap.size w).alloc (Nat.le_refl _) (.cells #[.int .i64 col, .int .i64 rep, .int .i64 de, .bool false, .int .i64 kind, .int .i64 num, .string text] 39)).trans (hb2.mono (by rw [size_alloc1]; omega)))
        have hr : RowB w2 w.heap.size 39 #[.int .i64 col, .int .i64 rep, .int .i64 de, .bool false, .int .i64 kind, .int .i64 num, .string text] := (RowB.new w 39 _).keep hb2 (by rw [size_alloc1]; omega)
        obtain ⟨r0, r1, r2, r3, r4, r5, r6⟩ := hr.c7
        clear hb2 hr
        cases hP : plainOk kind (.mk false num text []) with
        | false =>
          have HP := Lib.hid hP
          clear hP
          go_wp2_with fail
          go_ret
          exact ⟨ret_bool (by rw [HK.out, HP.out]; rfl), HB2.out⟩
        | true =>
          have HP := Lib.hid hP
          clear hP
          go_wp2_with fail
          refine (number66 ⟨col, rep, de, false, kind, num, text⟩ w2).mono ?_
          rintro e w3 ⟨rfl, hb3⟩
          have HB3 := Lib.hid (HB2.out.trans (hb3.mono HB2.out.size))
          clear hb3
          cases hN : isNum kind num with
          | false =>
            have HN := Lib.hid hN
            clear hN
            go_wp2_with fail
            go_ret
            exact ⟨ret_bool (by rw [HK.out, HP.out, HN.out]; rfl), HB3.out⟩
          | true =>
            have HN := Lib.hid hN
            clear hN
            go_wp2_with fail
            go_ret
            exact ⟨ret_bool (by rw [HK.out, HP.out, HN.out, HZ.out]; rfl), HB3.out⟩
  · have x4 : (kind == 4) = false := by simpa using k4
    by_cases k5 : kind = 5
    · have x5 : (kind == 5) = true := by simpa using k5
      by_cases n5 : num = -9223372036854775808
      · have y5 : (num == -9223372036854775808) = true := by simpa using n5
        have HZ : Hid (isNeg0 kind num = true) := by show _ = _; simp [isNeg0, k5, n5]
        clear k4 k5 n5
        go_enter Tryz.func42, Tryz.ntmps42
        go_wp2_with fail
        refine (isKind_any kind _).mono ?_
        rintro e w1 ⟨rfl, rfl⟩
        cases hK : isKd kind with
        | false =>
          have HK := Lib.hid hK
          clear hK
          go_wp2_with fail
          go_ret
          exact ⟨ret_bool (by rw [HK.out]; rfl), (Below.refl _ _).alloc (Nat.le_refl _) _⟩
        | true =>
          have HK := Lib.hid hK
          clear hK
          go_wp2_with fail
          refine (isPlain_any kind (.mk false num text []) none 0 0 _ rfl hts).mono ?_
          rintro e w2 ⟨rfl, hb2⟩
          have HB2 := Lib.hid (((Below.refl w.heap.size w).alloc (Nat.le_refl _) (.cells #[.int .i64 col, .int .i64 rep, .int .i64 de, .bool false, .int .i64 kind, .int .i64 num, .string text] 39)).trans (hb2.mono (by rw [size_alloc1]; omega)))
          have hr : RowB w2 w.heap.size 39 #[.int .i64 col, .int .i64 rep, .int .i64 de, .bool false, .int .i64 kind, .int .i64 num, .string text] := (RowB.new w 39 _).keep hb2 (by rw [size_alloc1]; omega)
          obtain ⟨r0, r1, r2, r3, r4, r5, r6⟩ := hr.c7
          clear hb2 hr
          cases hP : plainOk kind (.mk false num text []) with
          | false =>
            have HP := Lib.hid hP
            clear hP
            go_wp2_with fail
            go_ret
            exact ⟨ret_bool (by rw [HK.out, HP.out]; rfl), HB2.out⟩
          | true =>
            have HP := Lib.hid hP
            clear hP
            go_wp2_with fail
            refine (number66 ⟨col, rep, de, false, kind, num, text⟩ w2).mono ?_
            rintro e w3 ⟨rfl, hb3⟩
            have HB3 := Lib.hid (HB2.out.trans (hb3.mono HB2.out.size))
            clear hb3
            cases hN : isNum kind num with
            | false =>
              have HN := Lib.hid hN
              clear hN
              go_wp2_with fail
              go_ret
              exact ⟨ret_bool (by rw [HK.out, HP.out, HN.out]; rfl), HB3.out⟩
            | true =>
              have HN := Lib.hid hN
              clear hN
              go_wp2_with fail
              go_ret
              exact ⟨ret_bool (by rw [HK.out, HP.out, HN.out, HZ.out]; rfl), HB3.out⟩
      · have y5 : (num == -9223372036854775808) = false := by simpa using n5
        have HZ : Hid (isNeg0 kind num = false) := by show _ = _; simp [isNeg0, k5, n5]
        clear k4 k5 n5
        go_enter Tryz.func42, Tryz.ntmps42
        go_wp2_with fail
        refine (isKind_any kind _).mono ?_
        rintro e w1 ⟨rfl, rfl⟩
        cases hK : isKd kind with
        | false =>
          have HK := Lib.hid hK
          clear hK
          go_wp2_with fail
          go_ret
          exact ⟨ret_bool (by rw [HK.out]; rfl), (Below.refl _ _).alloc (Nat.le_refl _) _⟩
        | true =>
          have HK := Lib.hid hK
          clear hK
          go_wp2_with fail
          refine (isPlain_any kind (.mk false num text []) none 0 0 _ rfl hts).mono ?_
          rintro e w2 ⟨rfl, hb2⟩
          have HB2 := Lib.hid (((Below.refl w.heap.size w).alloc (Nat.le_refl _) (.cells #[.int .i64 col, .int .i64 rep, .int .i64 de, .bool false, .int .i64 kind, .int .i64 num, .string text] 39)).trans (hb2.mono (by rw [size_alloc1]; omega)))
          have hr : RowB w2 w.heap.size 39 #[.int .i64 col, .int .i64 rep, .int .i64 de, .bool false, .int .i64 kind, .int .i64 num, .string text] := (RowB.new w 39 _).keep hb2 (by rw [size_alloc1]; omega)
          obtain ⟨r0, r1, r2, r3, r4, r5, r6⟩ := hr.c7
          clear hb2 hr
          cases hP : plainOk kind (.mk false num text []) with
          | false =>
            have HP := Lib.hid hP
            clear hP
            go_wp2_with fail
            go_ret
            exact ⟨ret_bool (by rw [HK.out, HP.out]; rfl), HB2.out⟩
          | true =>
            have HP := Lib.hid hP
            clear hP
            go_wp2_with fail
            refine (number66 ⟨col, rep, de, false, kind, num, text⟩ w2).mono ?_
            rintro e w3 ⟨rfl, hb3⟩
            have HB3 := Lib.hid (HB2.out.trans (hb3.mono HB2.out.size))
            clear hb3
            cases hN : isNum kind num with
            | false =>
              have HN := Lib.hid hN
              clear hN
              go_wp2_with fail
              go_ret
              exact ⟨ret_bool (by rw [HK.out, HP.out, HN.out]; rfl), HB3.out⟩
            | true =>
              have HN := Lib.hid hN
              clear hN
              go_wp2_with fail
              go_ret
              exact ⟨ret_bool (by rw [HK.out, HP.out, HN.out, HZ.out]; rfl), HB3.out⟩
    · have x5 : (kind == 5) = false := by simpa using k5
      have HZ : Hid (isNeg0 kind num = false) := by show _ = _; simp [isNeg0, k4, k5]
      clear k4 k5
      go_enter Tryz.func42, Tryz.ntmps42
      go_wp2_with fail
      refine (isKind_any kind _).mono ?_
      rintro e w1 ⟨rfl, rfl⟩
      cases hK : isKd kind with
      | false =>
        have HK := Lib.hid hK
        clear hK
        go_wp2_with fail
        go_ret
        exact ⟨ret_bool (by rw [HK.out]; rfl), (Below.refl _ _).alloc (Nat.le_refl _) _⟩
      | true =>
        have HK := Lib.hid hK
        clear hK
        go_wp2_with fail
        refine (isPlain_any kind (.mk false num text []) none 0 0 _ rfl hts).mono ?_
        rintro e w2 ⟨rfl, hb2⟩
        have HB2 := Lib.hid (((Below.refl w.heap.size w).alloc (Nat.le_refl _) (.cells #[.int .i64 col, .int .i64 rep, .int .i64 de, .bool false, .int .i64 kind, .int .i64 num, .string text] 39)).trans (hb2.mono (by rw [size_alloc1]; omega)))
        have hr : RowB w2 w.heap.size 39 #[.int .i64 col, .int .i64 rep, .int .i64 de, .bool false, .int .i64 kind, .int .i64 num, .string text] := (RowB.new w 39 _).keep hb2 (by rw [size_alloc1]; omega)
        obtain ⟨r0, r1, r2, r3, r4, r5, r6⟩ := hr.c7
        clear hb2 hr
        cases hP : plainOk kind (.mk false num text []) with
        | false =>
          have HP := Lib.hid hP
          clear hP
          go_wp2_with fail
          go_ret
          exact ⟨ret_bool (by rw [HK.out, HP.out]; rfl), HB2.out⟩
        | true =>
          have HP := Lib.hid hP
          clear hP
          go_wp2_with fail
          refine (number66 ⟨col, rep, de, false, kind, num, text⟩ w2).mono ?_
          rintro e w3 ⟨rfl, hb3⟩
          have HB3 := Lib.hid (HB2.out.trans (hb3.mono HB2.out.size))
          clear hb3
          cases hN : isNum kind num with
          | false =>
            have HN := Lib.hid hN
            clear hN
            go_wp2_with fail
            go_ret
            exact ⟨ret_bool (by rw [HK.out, HP.out, HN.out]; rfl), HB3.out⟩
          | true =>
            have HN := Lib.hid hN
            clear hN
            go_wp2_with fail
            go_ret
            exact ⟨ret_bool (by rw [HK.out, HP.out, HN.out, HZ.out]; rfl), HB3.out⟩
end Go.Proofs.YtglgclkgppomiaaGreat

namespace Go.Proofs.YtglgclkgppomiaaGreat
open Go Go.RowKit

theorem cell42_any (x : Cl) (w : World) (hts : x.text.size ≤ 1000000000000) : Calls Tryz.prog 42 #[clVal x] w fun e w' => e = .returned (.bool (isCl x)) ∧ Below w.heap.size w w' := by
  obtain ⟨col, rep, de, nl, kind, num, text⟩ := x
  unfold isCl
  simp only []
  by_cases hb : col < 0 ∨ 1000 < col ∨ rep < 0 ∨ 255 < rep ∨ de < 0 ∨ 255 < de
  · rw [if_pos hb]
    exact cell42_bad col rep de kind num nl text w hb
  · rw [if_neg hb]
    have e0 : decide ((col : Int) < 0) = false := by simp; omega
    have e1 : decide ((1000 : Int) < col) = false := by simp; omega
    have e2 : decide ((rep : Int) < 0) = false := by simp; omega
    have e3 : decide ((255 : Int) < rep) = false := by simp; omega
    have e4 : decide ((de : Int) < 0) = false := by simp; omega
    have e5 : decide ((255 : Int) < de) = false := by simp; omega
    cases nl with
    | true => exact cell42_null col rep de kind num text w e0 e1 e2 e3 e4 e5
    | false => exact cell42_there col rep de kind num text w e0 e1 e2 e3 e4 e5 hts
/-- What spec.AreCells says. -/
def areCl (cs : List Cl) : Bool := cs.all isCl && decide (cs.length ≤ 5000)
theorem all_take {cs : List Cl} {j : Nat} {x : Cl} (h : cs[j]? = some x) : (cs.take (j + 1)).all isCl = ((cs.take j).all isCl && isCl x) := by
  rw [List.take_add_one, h]; simp
theorem areCl_bad {cs : List Cl} {j : Nat} {x : Cl} (h : cs[j]? = some x) (hx : isCl x = false) : areCl cs = false := by
  unfold areCl
  have : cs.all isCl = false := by
    rw [List.all_eq_false]
    exact ⟨x, List.mem_of_getElem? h, by simp [hx]⟩
  rw [this]; rfl

set_option maxRecDepth 100000 in
set_option maxHeartbeats 2000000 in
theorem cells37 (cs : List Cl) (A : Option Addr) (n c : Nat) (w : World) (hcl : ClsAt w w.heap.size A n c cs) (hn : n ≤ 3000000000) (hts : ∀ x ∈ cs, x.text.size ≤ 1000000000000) :
    Calls Tryz.prog 37 #[.slice A n c] w fun e w' => e = .returned (.bool (areCl cs)) ∧ Below w.heap.size w w' := by
  have HCL := Lib.hid hcl
  have HTS := Lib.hid hts
  have HLEN := Lib.hid hcl.1
  clear hcl hts
  go_enter Tryz.func37, Tryz.ntmps37
  go_wp2_with fail
  go_loopw [7] (fun i wr => ∃ (j : Nat), j ≤ n ∧ i = .int .i64 j ∧ (cs.take j).all isCl = true ∧ Below w.heap.size w wr) (fun i _ => n - (intOf i).toNat)
  case atStart => exact ⟨0, Nat.zero_le _, rfl, rfl, Below.refl _ _⟩
  case round =>
    obtain ⟨j, hj, rfl, hall, hb5⟩ := hrel
    have HALL := Lib.hid hall
    have HB5 := Lib.hid hb5
    clear hall
    by_cases hlt : j < n
    · obtain ⟨b0, o, x, rfl, hb0, hxk, c0, c1, c2, c3, c4, c5, c6⟩ := HCL.out.at_ hlt
      have HX := Lib.hid hxk
      have c0' := (bcell hb5 hb0).trans c0
      have c1' := (bcell hb5 hb0).trans c1
      have c2' := (bcell hb5 hb0).trans c2
      have c3' := (bcell hb5 hb0).trans c3
      have c4' := (bcell hb5 hb0).trans c4
      have c5' := (bcell hb5 hb0).trans c5
      have c6' := (bcell hb5 hb0).trans c6
      have hj0 : (0 : Int) ≤ (j : Int) := Int.natCast_nonneg _
      have hj1 : (j : Int) < (n : Int) := by omega
      have hbq : Below w.heap.size w (wr.alloc (.cells #[.int .i64 x.col, .int .i64 x.rep, .int .i64 x.de, .bool x.null, .int .i64 x.kind, .int .i64 x.num, .string x.text] 39)) := hb5.alloc hb5.size _
      have HC := Lib.hid (cell42_any x (wr.alloc (.cells #[.int .i64 x.col, .int .i64 x.rep, .int .i64 x.de, .bool x.null, .int .i64 x.kind, .int .i64 x.num, .string x.text] 39)) (HTS.out x (List.mem_of_getElem? hxk)))
      have HBQ := Lib.hid hbq
      clear c0 c1 c2 c3 c4 c5 c6 hxk hb5 hbq
      cases hx : isCl x with
      | false =>
        rw [hx] at HC
        have HBAD := Lib.hid (areCl_bad HX.out hx)
        clear hx
        go_wp2_with fail
        refine HC.out.mono ?_
        rintro e w6 ⟨rfl, hb6⟩
        have HB6 := Lib.hid (HBQ.out.trans (hb6.mono HBQ.out.size))
        clear hb6
        go_wp2_with fail
        go_ret
        exact ⟨ret_bool (by rw [HBAD.out]), HB6.out⟩
      | true =>
        rw [hx] at HC
        have HT := Lib.hid (all_take HX.out)
        rw [hx] at HT
        clear hx
        go_wp2_with fail
        refine HC.out.mono ?_
        rintro e w6 ⟨rfl, hb6⟩
        have HB6 := Lib.hid (HBQ.out.trans (hb6.mono HBQ.out.size))
        clear hb6
        go_wp2_with fail
        refine ⟨⟨j + 1, by omega, by go_num, by rw [HT.out, HALL.out]; rfl, HB6.out⟩, by simp [intOf]; omega⟩
    · obtain rfl : j = n := by omega
      have hfin : areCl cs = decide ((j : Int) ≤ 5000) := by
        have h1 := HALL.out
        have h2 := HLEN.out
        rw [List.take_of_length_le (by omega)] at h1
        unfold areCl
        rw [h1, h2, Bool.true_and]
        exact decide_eq_decide.2 (by omega)
      have HFIN := Lib.hid hfin
      clear hfin hb5
      go_wp2_with fail
      go_ret
      exact ⟨ret_bool (by rw [HFIN.out]), HB5.out⟩
end Go.Proofs.YtglgclkgppomiaaGreat

namespace Go.Proofs.YtglgclkgppomiaaGreat
open Go Go.RowKit

theorem empty_of_size {t : ByteArray} (h : t.size = 0) : t = ByteArray.empty := by
  cases t with
  | mk d =>
    cases d with
    | mk l =>
      cases l with
      | nil => rfl
      | cons a r => simp [ByteArray.size] at h
theorem isCl_facts {x : Cl} (h : isCl x = true) (hn : -9223372036854775808 ≤ x.num ∧ x.num ≤ 9223372036854775807) : ClOk x ∧ x.text.size ≤ 20000 := by
  unfold isCl at h
  split at h
  · cases h
  · rename_i hb
    by_cases hnl : x.null = true
    · rw [if_pos hnl] at h
      simp only [Bool.and_eq_true, decide_eq_true_eq] at h
      obtain ⟨h1, h2, h3⟩ := h
      exact ⟨⟨by omega, by omega, by omega, fun _ => ⟨h1, h2, empty_of_size h3⟩, fun h0 => by rw [hnl] at h0; cases h0⟩, by omega⟩
    · rw [if_neg hnl] at h
      simp only [Bool.and_eq_true] at h
      obtain ⟨h1, h2, _, _⟩ := h
      have ht : x.text.size ≤ 20000 := plainOk_text h2
      have hr := plainOk_rest x.kind (.mk false x.num x.text []) rfl (by simp [Dt.items]) (by show ¬ 20000 < x.text.size; omega)
      rw [h2] at hr
      simp only [Dt.text, Dt.num] at hr
      refine ⟨⟨by omega, by omega, by omega, fun h0 => absurd h0 hnl, fun _ => ⟨h1, plainOk_num h2, hn, fun hk => ?_, fun hk => ?_⟩⟩, ht⟩
      · have hk6 : x.kind ≠ 6 := hk
        by_cases k0 : x.kind = 0
        · rw [if_pos k0] at hr; simp only [Bool.true_eq, Bool.and_eq_true] at hr; exact empty_of_size (of_decide_eq_true hr.1)
        · rw [if_neg k0] at hr
          by_cases k1 : x.kind = 1
          · rw [if_pos k1] at hr; simp only [Bool.true_eq, Bool.and_eq_true] at hr; exact empty_of_size (of_decide_eq_true hr.1)
          · rw [if_neg k1] at hr
            by_cases k4 : x.kind = 4
            · rw [if_pos k4] at hr; simp only [Bool.true_eq, Bool.and_eq_true] at hr; exact empty_of_size (of_decide_eq_true hr.1)
            · rw [if_neg k4, if_neg hk6] at hr; exact empty_of_size (of_decide_eq_true hr.symm)
      · rw [if_neg (by omega), if_neg (by omega), if_neg (by omega), if_pos hk] at hr
        exact of_decide_eq_true hr.symm
set_option maxRecDepth 100000 in
set_option maxHeartbeats 2000000 in
theorem fits34 (cs : List Cl) (A : Option Addr) (n c : Nat) (w : World) (hcl : ClsAt w w.heap.size A n c cs) (hn : n ≤ 2000000000) (hts : ∀ x ∈ cs, x.text.size ≤ 2000000000) :
    Calls Tryz.prog 34 #[.slice A n c] w fun e w' => e = .returned (.bool true) ∧ Below w.heap.size w w' := by
  have HCL := Lib.hid hcl
  have HTS := Lib.hid hts
  have h1 : decide ((2147483647 : Int) < (n : Int)) = false := by simp; omega
  have h2 : decide (2147483647 < n) = false := by simp; omega
  have h3 : ¬ (2147483647 < n) := by omega
  clear hcl hts
  go_enter Tryz.func34, Tryz.ntmps34
  go_wp2_with fail
  go_loopw [10] (fun i wr => ∃ (j : Nat), j ≤ n ∧ i = .int .i64 j ∧ Below w.heap.size w wr) (fun i _ => n - (intOf i).toNat)
  case atStart => exact ⟨0, Nat.zero_le _, rfl, Below.refl _ _⟩
  case round =>
    obtain ⟨j, hj, rfl, hb5⟩ := hrel
    have HB5 := Lib.hid hb5
    by_cases hlt : j < n
    · obtain ⟨b0, o, x, rfl, hb0, hxk, c0, c1, c2, c3, c4, c5, c6⟩ := HCL.out.at_ hlt
      have c0' := (bcell hb5 hb0).trans c0
      have c1' := (bcell hb5 hb0).trans c1
      have c2' := (bcell hb5 hb0).trans c2
      have c3' := (bcell hb5 hb0).trans c3
      have c4' := (bcell hb5 hb0).trans c4
      have c5' := (bcell hb5 hb0).trans c5
      have c6' := (bcell hb5 hb0).trans c6
      have hj0 : (0 : Int) ≤ (j : Int) := Int.natCast_nonneg _
      have hj1 : (j : Int) < (n : Int) := by omega
      have hbq : Below w.heap.size w (wr.alloc (.cells #[.int .i64 x.col, .int .i64 x.rep, .int .i64 x.de, .bool x.null, .int .i64 x.kind, .int .i64 x.num, .string x.text] 39)) := hb5.alloc hb5.size _
      have HC := Lib.hid (fits41 x (wr.alloc (.cells #[.int .i64 x.col, .int .i64 x.rep, .int .i64 x.de, .bool x.null, .int .i64 x.kind, .int .i64 x.num, .string x.text] 39)) (HTS.out x (List.mem_of_getElem? hxk)))
      have HBQ := Lib.hid hbq
      clear c0 c1 c2 c3 c4 c5 c6 hxk hb5 hbq
      go_wp2_with fail
      refine HC.out.mono ?_
      rintro e w6 ⟨rfl, hb6⟩
      have HB6 := Lib.hid (HBQ.out.trans (hb6.mono HBQ.out.size))
      clear hb6
      go_wp2_with fail
      refine ⟨⟨j + 1, by omega, by go_num, HB6.out⟩, by simp [intOf]; omega⟩
    · obtain rfl : j = n := by omega
      clear hb5
      go_wp2_with fail
      go_ret
      exact ⟨rfl, HB5.out⟩
end Go.Proofs.YtglgclkgppomiaaGreat

namespace Go.Proofs.YtglgclkgppomiaaGreat
open Go Go.RowKit
theorem wrap_i64_small {n : Nat} (h : n < 9223372036854775808) : IntKind.i64.wrap (n : Int) = n := by
  have e : (2 : Int) ^ (64 : Nat) = 18446744073709551616 := by decide
  have e' : (2 : Int) ^ ((64 : Nat) - 1) = 9223372036854775808 := by decide
  simp only [IntKind.wrap, IntKind.bits, IntKind.signed, e, e']
  have h1 : (n : Int) % 18446744073709551616 = n := by omega
  rw [h1]
  have h2 : ¬ ((n : Int) ≥ 9223372036854775808) := by omega
  simp [h2]
theorem ofInt_toNat (num : Int) : (BitVec.ofInt 64 num).toNat = (num % 18446744073709551616).toNat := by
  rw [BitVec.toNat_ofInt]; rfl
theorem bits_and31 (num : Int) : bits .and .i64 num 2147483647 = ((((num % 18446744073709551616).toNat % 2147483648 : Nat)) : Int) := by
  show IntKind.i64.wrap ((BitVec.ofInt 64 num &&& BitVec.ofInt 64 2147483647).toNat : Int) = _
  have h1 : (BitVec.ofInt 64 2147483647).toNat = 2 ^ 31 - 1 := by rw [ofInt_toNat]; decide
  rw [BitVec.toNat_and, ofInt_toNat, h1, Nat.and_two_pow_sub_one_eq_mod]
  exact wrap_i64_small (by omega)
theorem bits_and63 (num : Int) : bits .and .i64 num 9223372036854775807 = ((((num % 18446744073709551616).toNat % 9223372036854775808 : Nat)) : Int) := by
  show IntKind.i64.wrap ((BitVec.ofInt 64 num &&& BitVec.ofInt 64 9223372036854775807).toNat : Int) = _
  have h1 : (BitVec.ofInt 64 9223372036854775807).toNat = 2 ^ 63 - 1 := by rw [ofInt_toNat]; decide
  rw [BitVec.toNat_and, ofInt_toNat, h1, Nat.and_two_pow_sub_one_eq_mod]
  exact wrap_i64_small (by omega)
theorem single_sizes : Ieee.single.binade = 8388608 ∧ Ieee.single.infRung = 2139095040 ∧ Ieee.single.signWeight = 2147483648 := by decide
theorem double_sizes : Ieee.double.binade = 4503599627370496 ∧ Ieee.double.infRung = 9218868437227405312 ∧ Ieee.double.signWeight = 9223372036854775808 := by decide
theorem single_fit {a : Int} (h0 : 0 ≤ a) (h1 : a < 4294967296) (hn : isNum 4 a = true) (hz : isNeg0 4 a = false) : a.toNat < 2 * Ieee.single.signWeight ∧ a.toNat % Ieee.single.signWeight ≤ Ieee.single.infRung ∧ a.toNat ≠ Ieee.single.signWeight := by
  obtain ⟨e1, e2, e3⟩ := single_sizes
  rw [e2, e3]
  unfold isNum at hn
  rw [if_pos rfl, bits_and31] at hn
  simp [isNeg0] at hz
  have hn := of_decide_eq_true hn
  have : (a % 18446744073709551616).toNat = a.toNat := by omega
  rw [this] at hn
  refine ⟨by omega, by omega, by omega⟩
theorem double_fit {a : Int} (h0 : -9223372036854775808 ≤ a) (h1 : a ≤ 9223372036854775807) (hn : isNum 5 a = true) (hz : isNeg0 5 a = false) : (encU a).toNat < 2 * Ieee.double.signWeight ∧ (encU a).toNat % Ieee.double.signWeight ≤ Ieee.double.infRung ∧ (encU a).toNat ≠ Ieee.double.signWeight := by
  obtain ⟨e1, e2, e3⟩ := double_sizes
  rw [e2, e3]
  unfold isNum at hn
  rw [if_neg (by decide), if_pos rfl, bits_and63] at hn
  simp [isNeg0] at hz
  have hn := of_decide_eq_true hn
  unfold encU
  refine ⟨by omega, by omega, by omega⟩
theorem f32_same {a b : Int} (h0 : 0 ≤ a) (h1 : a < 4294967296) (hn : isNum 4 a = true) (hz : isNeg0 4 a = false) (k0 : 0 ≤ b) (k1 : b < 4294967296) (kn : isNum 4 b = true) (kz : isNeg0 4 b = false) :
    (FloatKind.f32.format.order a.toNat b.toNat == some Ordering.eq) = decide (a = b) := by
  obtain ⟨a1, a2, a3⟩ := single_fit h0 h1 hn hz
  obtain ⟨b1, b2, b3⟩ := single_fit k0 k1 kn kz
  obtain ⟨e1, e2, e3⟩ := single_sizes
  show (Ieee.single.order a.toNat b.toNat == some Ordering.eq) = _
  rw [order_eq (by rw [e1]; decide) (by rw [e1, e2]; decide) (by rw [e2, e3]; decide) a1 b1 a2 b2 a3 b3]
  exact decide_eq_decide.2 (by omega)
theorem f64_same {a b : Int} (h0 : -9223372036854775808 ≤ a) (h1 : a ≤ 9223372036854775807) (hn : isNum 5 a = true) (hz : isNeg0 5 a = false) (k0 : -9223372036854775808 ≤ b) (k1 : b ≤ 9223372036854775807) (kn : isNum 5 b = true) (kz : isNeg0 5 b = false) :
    (FloatKind.f64.format.order (encU a).toNat (encU b).toNat == some Ordering.eq) = decide (a = b) := by
  obtain ⟨a1, a2, a3⟩ := double_fit h0 h1 hn hz
  obtain ⟨b1, b2, b3⟩ := double_fit k0 k1 kn kz
  obtain ⟨e1, e2, e3⟩ := double_sizes
  show (Ieee.double.order _ _ == some Ordering.eq) = _
  rw [order_eq (by rw [e1]; decide) (by rw [e1, e2]; decide) (by rw [e2, e3]; decide) a1 b1 a2 b2 a3 b3]
  exact decide_eq_decide.2 (by unfold encU; omega)
end Go.Proofs.YtglgclkgppomiaaGreat

namespace Go.Proofs.YtglgclkgppomiaaGreat
open Go Go.RowKit

set_option maxHeartbeats 1000000
set_option maxRecDepth 100000
theorem bytes96 (D D2 : Option Addr) (n c n2 c2 lo B lo2 B2 : Nat) (t t2 : ByteArray) (w : World) (h : BytesAt w lo B D n c t) (h2 : BytesAt w lo2 B2 D2 n2 c2 t2) :
    Calls Tryz.prog 96 #[.slice D n c, .slice D2 n2 c2] w fun e w' => e = .returned (.bool (decide (t = t2))) ∧ Below w.heap.size w w' := by
  have k1 := bytes_back h
  have k2 := bytes_back h2
  have HE : Hid ((t.toList == t2.toList) = decide (t = t2)) := Lib.hid (by rw [Bool.eq_iff_iff, text_eq, decide_eq_true_eq])
  clear h h2
  go_enter Tryz.func96, Tryz.ntmps96
  go_wp2_with fail
  go_ret
  exact ⟨ret_bool HE.out, Below.refl _ _⟩
theorem kinds67 (D D2 : Option Addr) (dn dc dn2 dc2 : Nat) (u u2 kd kd2 de de2 rep rep2 ci ci2 : Int) (hk : kd ≠ kd2) (w : World) :
    Calls Tryz.prog 67 #[vlV D dn dc u kd de rep ci, vlV D2 dn2 dc2 u2 kd2 de2 rep2 ci2] w fun e w' => e = .returned (.bool false) ∧ Below w.heap.size w w' := by
  have hk1 : (kd != kd2) = true := by simpa using hk
  clear hk
  go_enter Tryz.func67, Tryz.ntmps67
  go_wp2_with fail
  go_ret
  exact ⟨rfl, ((Below.refl _ _).alloc (Nat.le_refl _) _).alloc (by simp) _⟩
theorem null67 (D D2 : Option Addr) (dn dc dn2 dc2 : Nat) (u u2 de de2 rep rep2 ci ci2 : Int) (w : World) :
    Calls Tryz.prog 67 #[vlV D dn dc u 0 de rep ci, vlV D2 dn2 dc2 u2 0 de2 rep2 ci2] w fun e w' => e = .returned (.bool true) ∧ Below w.heap.size w w' := by
  go_enter Tryz.func67, Tryz.ntmps67
  go_wp2_with fail
  go_ret
  exact ⟨rfl, ((Below.refl _ _).alloc (Nat.le_refl _) _).alloc (by simp) _⟩
theorem same67_0 (D D2 : Option Addr) (dn dc dn2 dc2 : Nat) (u u2 de de2 rep rep2 ci ci2 : Int) (w : World) :
    Calls Tryz.prog 67 #[vlV D dn dc u (-1) de rep ci, vlV D2 dn2 dc2 u2 (-1) de2 rep2 ci2] w fun e w' => e = .returned (.bool ((u != 0) == (u2 != 0))) ∧ Below w.heap.size w w' := by
  have R1 := Lib.hid ((RowB.new w 76 (vCells D dn dc u (-1) de rep ci)).alloc (.cells (vCells D2 dn2 dc2 u2 (-1) de2 rep2 ci2) 76))
  have R2 : Hid (RowB ((w.alloc (.cells (vCells D dn dc u (-1) de rep ci) 76)).alloc (.cells (vCells D2 dn2 dc2 u2 (-1) de2 rep2 ci2) 76)) (w.heap.size + 1) 76 (vCells D2 dn2 dc2 u2 (-1) de2 rep2 ci2)) := Lib.hid (rowB_new (by rw [size_alloc1]))
  have HB : Hid (Below w.heap.size w ((w.alloc (.cells (vCells D dn dc u (-1) de rep ci) 76)).alloc (.cells (vCells D2 dn2 dc2 u2 (-1) de2 rep2 ci2) 76))) := Lib.hid (((Below.refl _ _).alloc (Nat.le_refl _) _).alloc (by simp) _)
  go_enter Tryz.func67, Tryz.ntmps67
  go_wp2_with fail
  refine (bool91 _ D dn dc u (-1) de rep ci _ R1.out).mono ?_
  rintro e w1 ⟨rfl, hb1⟩
  have HB1 := Lib.hid (HB.out.trans (hb1.mono HB.out.size))
  have R3 := Lib.hid (R2.out.keep hb1 R2.out.lt)
  clear hb1
  go_wp2_with fail
  refine (bool91 _ D2 dn2 dc2 u2 (-1) de2 rep2 ci2 _ R3.out).mono ?_
  rintro e w2 ⟨rfl, hb2⟩
  have HB2 := Lib.hid (HB1.out.trans (hb2.mono HB1.out.size))
  clear hb2
  go_wp2_with fail
  go_ret
  exact ⟨rfl, HB2.out⟩
theorem same67_1 (D D2 : Option Addr) (dn dc dn2 dc2 : Nat) (u u2 de de2 rep rep2 ci ci2 : Int) (r r2 : Int) (w : World) (hr : wrap32 u = r) (hr2 : wrap32 u2 = r2) :
    Calls Tryz.prog 67 #[vlV D dn dc u (-2) de rep ci, vlV D2 dn2 dc2 u2 (-2) de2 rep2 ci2] w fun e w' => e = .returned (.bool (r == r2)) ∧ Below w.heap.size w w' := by
  have R1 := Lib.hid ((RowB.new w 76 (vCells D dn dc u (-2) de rep ci)).alloc (.cells (vCells D2 dn2 dc2 u2 (-2) de2 rep2 ci2) 76))
  have R2 : Hid (RowB ((w.alloc (.cells (vCells D dn dc u (-2) de rep ci) 76)).alloc (.cells (vCells D2 dn2 dc2 u2 (-2) de2 rep2 ci2) 76)) (w.heap.size + 1) 76 (vCells D2 dn2 dc2 u2 (-2) de2 rep2 ci2)) := Lib.hid (rowB_new (by rw [size_alloc1]))
  have HB : Hid (Below w.heap.size w ((w.alloc (.cells (vCells D dn dc u (-2) de rep ci) 76)).alloc (.cells (vCells D2 dn2 dc2 u2 (-2) de2 rep2 ci2) 76))) := Lib.hid (((Below.refl _ _).alloc (Nat.le_refl _) _).alloc (by simp) _)
  have HR := Lib.hid hr
  have HR2 := Lib.hid hr2
  clear hr hr2
  go_enter Tryz.func67, Tryz.ntmps67
  go_wp2_with fail
  refine (i3292 _ D dn dc u (-2) de rep ci r HR.out _ R1.out).mono ?_
  rintro e w1 ⟨rfl, hb1⟩
  have HB1 := Lib.hid (HB.out.trans (hb1.mono HB.out.size))
  have R3 := Lib.hid (R2.out.keep hb1 R2.out.lt)
  clear hb1
  go_wp2_with fail
  refine (i3292 _ D2 dn2 dc2 u2 (-2) de2 rep2 ci2 r2 HR2.out _ R3.out).mono ?_
  rintro e w2 ⟨rfl, hb2⟩
  have HB2 := Lib.hid (HB1.out.trans (hb2.mono HB1.out.size))
  clear hb2
  go_wp2_with fail
  go_ret
  exact ⟨rfl, HB2.out⟩
theorem same67_2 (D D2 : Option Addr) (dn dc dn2 dc2 : Nat) (u u2 de de2 rep rep2 ci ci2 : Int) (r r2 : Int) (w : World) (hr : wrap64 u = r) (hr2 : wrap64 u2 = r2) :
    Calls Tryz.prog 67 #[vlV D dn dc u (-3) de rep ci, vlV D2 dn2 dc2 u2 (-3) de2 rep2 ci2] w fun e w' => e = .returned (.bool (r == r2)) ∧ Below w.heap.size w w' := by
  have R1 := Lib.hid ((RowB.new w 76 (vCells D dn dc u (-3) de rep ci)).alloc (.cells (vCells D2 dn2 dc2 u2 (-3) de2 rep2 ci2) 76))
  have R2 : Hid (RowB ((w.alloc (.cells (vCells D dn dc u (-3) de rep ci) 76)).alloc (.cells (vCells D2 dn2 dc2 u2 (-3) de2 rep2 ci2) 76)) (w.heap.size + 1) 76 (vCells D2 dn2 dc2 u2 (-3) de2 rep2 ci2)) := Lib.hid (rowB_new (by rw [size_alloc1]))
  have HB : Hid (Below w.heap.size w ((w.alloc (.cells (vCells D dn dc u (-3) de rep ci) 76)).alloc (.cells (vCells D2 dn2 dc2 u2 (-3) de2 rep2 ci2) 76))) := Lib.hid (((Below.refl _ _).alloc (Nat.le_refl _) _).alloc (by simp) _)
  have HR := Lib.hid hr
  have HR2 := Lib.hid hr2
  clear hr hr2
  go_enter Tryz.func67, Tryz.ntmps67
  go_wp2_with fail
  refine (i6493 _ D dn dc u (-3) de rep ci r HR.out _ R1.out).mono ?_
  rintro e w1 ⟨rfl, hb1⟩
  have HB1 := Lib.hid (HB.out.trans (hb1.mono HB.out.size))
  have R3 := Lib.hid (R2.out.keep hb1 R2.out.lt)
  clear hb1
  go_wp2_with fail
  refine (i6493 _ D2 dn2 dc2 u2 (-3) de2 rep2 ci2 r2 HR2.out _ R3.out).mono ?_
  rintro e w2 ⟨rfl, hb2⟩
  have HB2 := Lib.hid (HB1.out.trans (hb2.mono HB1.out.size))
  clear hb2
  go_wp2_with fail
  go_ret
  exact ⟨rfl, HB2.out⟩
theorem same67_4 (D D2 : Option Addr) (dn dc dn2 dc2 : Nat) (u u2 de de2 rep rep2 ci ci2 : Int) (r r2 : Int) (w : World) (hr : u % 4294967296 = r) (hr2 : u2 % 4294967296 = r2) :
    Calls Tryz.prog 67 #[vlV D dn dc u (-5) de rep ci, vlV D2 dn2 dc2 u2 (-5) de2 rep2 ci2] w fun e w' => e = .returned (.bool (FloatKind.f32.format.order r.toNat r2.toNat == some Ordering.eq)) ∧ Below w.heap.size w w' := by
  have R1 := Lib.hid ((RowB.new w 76 (vCells D dn dc u (-5) de rep ci)).alloc (.cells (vCells D2 dn2 dc2 u2 (-5) de2 rep2 ci2) 76))
  have R2 : Hid (RowB ((w.alloc (.cells (vCells D dn dc u (-5) de rep ci) 76)).alloc (.cells (vCells D2 dn2 dc2 u2 (-5) de2 rep2 ci2) 76)) (w.heap.size + 1) 76 (vCells D2 dn2 dc2 u2 (-5) de2 rep2 ci2)) := Lib.hid (rowB_new (by rw [size_alloc1]))
  have HB : Hid (Below w.heap.size w ((w.alloc (.cells (vCells D dn dc u (-5) de rep ci) 76)).alloc (.cells (vCells D2 dn2 dc2 u2 (-5) de2 rep2 ci2) 76))) := Lib.hid (((Below.refl _ _).alloc (Nat.le_refl _) _).alloc (by simp) _)
  have HR := Lib.hid hr
  have HR2 := Lib.hid hr2
  clear hr hr2
  go_enter Tryz.func67, Tryz.ntmps67
  go_wp2_with fail
  refine (f3294 _ D dn dc u (-5) de rep ci r HR.out _ R1.out).mono ?_
  rintro e w1 ⟨rfl, hb1⟩
  have HB1 := Lib.hid (HB.out.trans (hb1.mono HB.out.size))
  have R3 := Lib.hid (R2.out.keep hb1 R2.out.lt)
  clear hb1
  go_wp2_with fail
  refine (f3294 _ D2 dn2 dc2 u2 (-5) de2 rep2 ci2 r2 HR2.out _ R3.out).mono ?_
  rintro e w2 ⟨rfl, hb2⟩
  have HB2 := Lib.hid (HB1.out.trans (hb2.mono HB1.out.size))
  clear hb2
  go_wp2_with fail
  go_ret
  exact ⟨rfl, HB2.out⟩
theorem same67_5 (D D2 : Option Addr) (dn dc dn2 dc2 : Nat) (u u2 de de2 rep rep2 ci ci2 : Int) (w : World) :
    Calls Tryz.prog 67 #[vlV D dn dc u (-6) de rep ci, vlV D2 dn2 dc2 u2 (-6) de2 rep2 ci2] w fun e w' => e = .returned (.bool (FloatKind.f64.format.order u.toNat u2.toNat == some Ordering.eq)) ∧ Below w.heap.size w w' := by
  have R1 := Lib.hid ((RowB.new w 76 (vCells D dn dc u (-6) de rep ci)).alloc (.cells (vCells D2 dn2 dc2 u2 (-6) de2 rep2 ci2) 76))
  have R2 : Hid (RowB ((w.alloc (.cells (vCells D dn dc u (-6) de rep ci) 76)).alloc (.cells (vCells D2 dn2 dc2 u2 (-6) de2 rep2 ci2) 76)) (w.heap.size + 1) 76 (vCells D2 dn2 dc2 u2 (-6) de2 rep2 ci2)) := Lib.hid (rowB_new (by rw [size_alloc1]))
  have HB : Hid (Below w.heap.size w ((w.alloc (.cells (vCells D dn dc u (-6) de rep ci) 76)).alloc (.cells (vCells D2 dn2 dc2 u2 (-6) de2 rep2 ci2) 76))) := Lib.hid (((Below.refl _ _).alloc (Nat.le_refl _) _).alloc (by simp) _)
  go_enter Tryz.func67, Tryz.ntmps67
  go_wp2_with fail
  refine (f6495 _ D dn dc u (-6) de rep ci _ R1.out).mono ?_
  rintro e w1 ⟨rfl, hb1⟩
  have HB1 := Lib.hid (HB.out.trans (hb1.mono HB.out.size))
  have R3 := Lib.hid (R2.out.keep hb1 R2.out.lt)
  clear hb1
  go_wp2_with fail
  refine (f6495 _ D2 dn2 dc2 u2 (-6) de2 rep2 ci2 _ R3.out).mono ?_
  rintro e w2 ⟨rfl, hb2⟩
  have HB2 := Lib.hid (HB1.out.trans (hb2.mono HB1.out.size))
  clear hb2
  go_wp2_with fail
  go_ret
  exact ⟨rfl, HB2.out⟩
theorem same67_6 (D D2 : Option Addr) (dn dc dn2 dc2 : Nat) (u u2 de de2 rep rep2 ci ci2 : Int) (lo B lo2 B2 : Nat) (t t2 : ByteArray) (w : World) (h1 : BytesAt w lo B D dn dc t) (h2 : BytesAt w lo2 B2 D2 dn2 dc2 t2) (hB : B ≤ w.heap.size) (hB2 : B2 ≤ w.heap.size) :
    Calls Tryz.prog 67 #[vlV D dn dc u (-7) de rep ci, vlV D2 dn2 dc2 u2 (-7) de2 rep2 ci2] w fun e w' => e = .returned (.bool (decide (t = t2))) ∧ Below w.heap.size w w' := by
  have R1 := Lib.hid ((RowB.new w 76 (vCells D dn dc u (-7) de rep ci)).alloc (.cells (vCells D2 dn2 dc2 u2 (-7) de2 rep2 ci2) 76))
  have R2 : Hid (RowB ((w.alloc (.cells (vCells D dn dc u (-7) de rep ci) 76)).alloc (.cells (vCells D2 dn2 dc2 u2 (-7) de2 rep2 ci2) 76)) (w.heap.size + 1) 76 (vCells D2 dn2 dc2 u2 (-7) de2 rep2 ci2)) := Lib.hid (rowB_new (by rw [size_alloc1]))
  have HB : Hid (Below w.heap.size w ((w.alloc (.cells (vCells D dn dc u (-7) de rep ci) 76)).alloc (.cells (vCells D2 dn2 dc2 u2 (-7) de2 rep2 ci2) 76))) := Lib.hid (((Below.refl _ _).alloc (Nat.le_refl _) _).alloc (by simp) _)
  have HT1 := Lib.hid h1
  have HT2 := Lib.hid h2
  have HBw := Lib.hid hB
  have HBw2 := Lib.hid hB2
  clear h1 h2 hB hB2
  go_enter Tryz.func67, Tryz.ntmps67
  go_wp2_with fail
  refine (bytes97 _ D dn dc u (-7) de rep ci _ R1.out).mono ?_
  rintro e w1 ⟨rfl, hb1⟩
  have HB1 := Lib.hid (HB.out.trans (hb1.mono HB.out.size))
  have R3 := Lib.hid (R2.out.keep hb1 R2.out.lt)
  clear hb1
  go_wp2_with fail
  refine (bytes97 _ D2 dn2 dc2 u2 (-7) de2 rep2 ci2 _ R3.out).mono ?_
  rintro e w2 ⟨rfl, hb2⟩
  have HB2 := Lib.hid (HB1.out.trans (hb2.mono HB1.out.size))
  clear hb2
  go_wp2_with fail
  refine (bytes96 D D2 dn dc dn2 dc2 lo B lo2 B2 t t2 _ (HT1.out.frame (fun b _ h => HB2.out.block b (Nat.lt_of_lt_of_le h HBw.out)) (Nat.le_refl _) (Nat.le_refl _)) (HT2.out.frame (fun b _ h => HB2.out.block b (Nat.lt_of_lt_of_le h HBw2.out)) (Nat.le_refl _) (Nat.le_refl _))).mono ?_
  rintro e w3 ⟨rfl, hb3⟩
  have HB3 := Lib.hid (HB2.out.trans (hb3.mono HB2.out.size))
  clear hb3
  go_wp2_with fail
  go_ret
  exact ⟨rfl, HB3.out⟩
end Go.Proofs.YtglgclkgppomiaaGreat

namespace Go.Proofs.YtglgclkgppomiaaGreat
open Go Go.RowKit

/-- A cell that spec.IsCell lets in. -/
structure Good (x : Cl) : Prop where
  is : isCl x = true
  num : -9223372036854775808 ≤ x.num ∧ x.num ≤ 9223372036854775807
theorem Good.ok {x : Cl} (h : Good x) : ClOk x := (isCl_facts h.is h.num).1
theorem Good.text {x : Cl} (h : Good x) : x.text.size ≤ 20000 := (isCl_facts h.is h.num).2
theorem Good.float {x : Cl} (h : Good x) (hn : x.null = false) : isNum x.kind x.num = true ∧ isNeg0 x.kind x.num = false := by
  have h1 := h.is
  unfold isCl at h1
  split at h1
  · cases h1
  · rw [if_neg (by rw [hn]; decide)] at h1
    simp only [Bool.and_eq_true] at h1
    obtain ⟨_, _, h3, h4⟩ := h1
    exact ⟨h3, by simpa using h4⟩
def sameV (x y : Cl) : Bool := decide (x.null = y.null ∧ x.kind = y.kind ∧ x.num = y.num ∧ x.text = y.text)

set_option maxRecDepth 100000 in
theorem equal67 (x y : Cl) (hx : Good x) (hy : Good y) (lo B lo2 B2 : Nat) (D D2 : Option Addr) (dn dc dn2 dc2 : Nat) (u u2 de de2 rep rep2 ci ci2 : Int) (w : World)
    (hv : VR w lo B x.null x.kind x.num x.text D dn dc u) (hv2 : VR w lo2 B2 y.null y.kind y.num y.text D2 dn2 dc2 u2) (hB : B ≤ w.heap.size) (hB2 : B2 ≤ w.heap.size) :
    Calls Tryz.prog 67 #[vlV D dn dc u (kdOf x.null x.kind) de rep ci, vlV D2 dn2 dc2 u2 (kdOf y.null y.kind) de2 rep2 ci2] w fun e w' => e = .returned (.bool (sameV x y)) ∧ Below w.heap.size w w' := by
  have ox := hx.ok
  have oy := hy.ok
  have fx := hx.float
  have fy := hy.float
  obtain ⟨xc, xr, xd, xn, xk, xm, xt⟩ := x
  obtain ⟨yc, yr, yd, yn, yk, ym, yt⟩ := y
  have e0 : (-((0 : Int) + 1)) = -1 := by decide
  have e1 : (-((1 : Int) + 1)) = -2 := by decide
  have e2 : (-((2 : Int) + 1)) = -3 := by decide
  have e4 : (-((4 : Int) + 1)) = -5 := by decide
  have e5 : (-((5 : Int) + 1)) = -6 := by decide
  have e6 : (-((6 : Int) + 1)) = -7 := by decide
  by_cases hk : kdOf xn xk = kdOf yn yk
  · cases xn with
    | true =>
      cases yn with
      | true =>
        obtain ⟨a1, a2, a3⟩ := ox.nul rfl
        obtain ⟨b1, b2, b3⟩ := oy.nul rfl
        have hs : sameV ⟨xc, xr, xd, true, xk, xm, xt⟩ ⟨yc, yr, yd, true, yk, ym, yt⟩ = true := decide_eq_true ⟨rfl, a1.trans b1.symm, a2.trans b2.symm, a3.trans b3.symm⟩
        rw [hs]
        exact null67 D D2 dn dc dn2 dc2 u u2 de de2 rep rep2 ci ci2 w
      | false =>
        have := kd_cases (oy.there rfl).kd
        simp only [kdOf] at hk
        exfalso
        simp at hk this
        omega
    | false =>
      cases yn with
      | true =>
        have := kd_cases (ox.there rfl).kd
        simp only [kdOf] at hk
        exfalso
        simp at hk this
        omega
      | false =>
        have hkk : xk = yk := by simp [kdOf] at hk; omega
        subst hkk
        have cx := ox.there rfl
        have cy := oy.there rfl
        have hux : xk ≠ 6 → u = encU xm := fun h => by
          cases hv with
          | num => rfl
          | text => exact absurd rfl h
        have huy : xk ≠ 6 → u2 = encU ym := fun h => by
          cases hv2 with
          | num => rfl
          | text => exact absurd rfl h
        have tx := cx.noText
        have ty := cy.noText
        obtain ⟨p0, p1, p4⟩ := cx.ok
        obtain ⟨q0, q1, q4⟩ := cy.ok
        have hsv : ∀ b : Bool, (b = decide (xm = ym ∧ xt = yt)) → b = sameV ⟨xc, xr, xd, false, xk, xm, xt⟩ ⟨yc, yr, yd, false, xk, ym, yt⟩ := fun b hb => by
          rw [hb]; unfold sameV; exact decide_eq_decide.2 ⟨fun h => ⟨rfl, rfl, h⟩, fun h => h.2.2⟩
        obtain ⟨fx1, fx2⟩ := fx rfl
        obtain ⟨fy1, fy2⟩ := fy rfl
        have n64 := cx.i64
        have m64 := cy.i64
        have nx := cx.noNum
        have ny := cy.noNum
        simp only at fx1 fx2 fy1 fy2 n64 m64 tx ty p0 p1 p4 q0 q1 q4 nx ny
        show Calls Tryz.prog 67 #[vlV D dn dc u (-(xk + 1)) de rep ci, vlV D2 dn2 dc2 u2 (-(xk + 1)) de2 rep2 ci2] w _
        rcases kd_cases cx.kd with h | h | h | h | h | h <;> simp only at h <;> subst h
        · obtain rfl := tx (by decide)
          obtain rfl := ty (by decide)
          obtain rfl := hux (by decide)
          obtain rfl := huy (by decide)
          rw [e0, ← hsv ((encU xm != 0) == (encU ym != 0)) (by rcases p0 rfl with rfl | rfl <;> rcases q0 rfl with rfl | rfl <;> simp <;> decide)]
          exact same67_0 D D2 dn dc dn2 dc2 _ _ de de2 rep rep2 ci ci2 w
        · obtain rfl := tx (by decide)
          obtain rfl := ty (by decide)
          obtain rfl := hux (by decide)
          obtain rfl := huy (by decide)
          rw [e1, ← hsv (xm == ym) (by simp [Bool.beq_eq_decide_eq])]
          exact same67_1 D D2 dn dc dn2 dc2 _ _ de de2 rep rep2 ci ci2 xm ym w (by have := p1 rfl; unfold wrap32 encU; omega) (by have := q1 rfl; unfold wrap32 encU; omega)
        · obtain rfl := tx (by decide)
          obtain rfl := ty (by decide)
          obtain rfl := hux (by decide)
          obtain rfl := huy (by decide)
          rw [e2, ← hsv (xm == ym) (by simp [Bool.beq_eq_decide_eq])]
          exact same67_2 D D2 dn dc dn2 dc2 _ _ de de2 rep rep2 ci ci2 xm ym w (by unfold wrap64 encU; omega) (by unfold wrap64 encU; omega)
        · obtain rfl := tx (by decide)
          obtain rfl := ty (by decide)
          obtain rfl := hux (by decide)
          obtain rfl := huy (by decide)
          have b1 := p4 rfl
          have b2 := q4 rfl
          rw [e4, ← hsv (FloatKind.f32.format.order xm.toNat ym.toNat == some Ordering.eq) (by rw [f32_same (by omega) (by omega) fx1 fx2 (by omega) (by omega) fy1 fy2]; simp)]
          exact same67_4 D D2 dn dc dn2 dc2 _ _ de de2 rep rep2 ci ci2 xm ym w (by unfold encU; omega) (by unfold encU; omega)
        · obtain rfl := tx (by decide)
          obtain rfl := ty (by decide)
          obtain rfl := hux (by decide)
          obtain rfl := huy (by decide)
          rw [e5, ← hsv (FloatKind.f64.format.order (encU xm).toNat (encU ym).toNat == some Ordering.eq) (by rw [f64_same n64.1 n64.2 fx1 fx2 m64.1 m64.2 fy1 fy2]; simp)]
          exact same67_5 D D2 dn dc dn2 dc2 _ _ de de2 rep rep2 ci ci2 w
        · obtain rfl := nx rfl
          obtain rfl := ny rfl
          rw [e6, ← hsv (decide (xt = yt)) (by simp)]
          cases hv with
          | num _ _ _ hk => exact absurd rfl hk
          | text _ _ _ _ _ h1 =>
            cases hv2 with
            | num _ _ _ hk => exact absurd rfl hk
            | text _ _ _ _ _ h2 => exact same67_6 D D2 dn dc dn2 dc2 _ _ de de2 rep rep2 ci ci2 lo B lo2 B2 xt yt w h1 h2 hB hB2
  · have hs : sameV ⟨xc, xr, xd, xn, xk, xm, xt⟩ ⟨yc, yr, yd, yn, yk, ym, yt⟩ = false := decide_eq_false fun h => hk (by
      obtain ⟨h1, h2, _⟩ := h
      simp only at h1 h2
      rw [h1, h2])
    rw [hs]
    exact kinds67 D D2 dn dc dn2 dc2 u u2 _ _ de de2 rep rep2 ci ci2 hk w
set_option maxRecDepth 100000 in
set_option maxHeartbeats 2000000 in
theorem deep68 (B0 : Bool) (D D2 : Option Addr) (dn dc dn2 dc2 : Nat) (u u2 kd kd2 de de2 rep rep2 ci ci2 : Int) (w : World)
    (h67 : ∀ W, Below w.heap.size w W → Calls Tryz.prog 67 #[vlV D dn dc u kd de rep ci, vlV D2 dn2 dc2 u2 kd2 de2 rep2 ci2] W fun e w' => e = .returned (.bool B0) ∧ Below W.heap.size W w') :
    Calls Tryz.prog 68 #[vlV D dn dc u kd de rep ci, vlV D2 dn2 dc2 u2 kd2 de2 rep2 ci2] w fun e w' => e = .returned (.bool (B0 && ((rep == rep2) && ((de == de2) && (ci == ci2))))) ∧ Below w.heap.size w w' := by
  have HB : Below w.heap.size w ((w.alloc (.cells (vCells D dn dc u kd de rep ci) 76)).alloc (.cells (vCells D2 dn2 dc2 u2 kd2 de2 rep2 ci2) 76)) := ((Below.refl _ _).alloc (Nat.le_refl _) _).alloc (by simp) _
  have H67 := Lib.hid (h67 _ HB)
  have R1 := Lib.hid ((RowB.new w 76 (vCells D dn dc u kd de rep ci)).alloc (.cells (vCells D2 dn2 dc2 u2 kd2 de2 rep2 ci2) 76))
  have R2 : Hid (RowB ((w.alloc (.cells (vCells D dn dc u kd de rep ci) 76)).alloc (.cells (vCells D2 dn2 dc2 u2 kd2 de2 rep2 ci2) 76)) (w.heap.size + 1) 76 (vCells D2 dn2 dc2 u2 kd2 de2 rep2 ci2)) := Lib.hid (rowB_new (by rw [size_alloc1]))
  have HBH := Lib.hid HB
  clear h67 HB
  obtain ⟨b1, hb1⟩ : ∃ b, (rep == rep2) = b := ⟨_, rfl⟩
  obtain ⟨b2, hb2⟩ : ∃ b, (de == de2) = b := ⟨_, rfl⟩
  obtain ⟨b3, hb3⟩ : ∃ b, (ci == ci2) = b := ⟨_, rfl⟩
  have G1 := Lib.hid hb1
  have G2 := Lib.hid hb2
  have G3 := Lib.hid hb3
  go_enter Tryz.func68, Tryz.ntmps68
  go_wp2_with fail
  refine H67.out.mono ?_
  rintro e w1 ⟨rfl, hb⟩
  have HB1 := Lib.hid (HBH.out.trans (hb.mono HBH.out.size))
  obtain ⟨c0, c1, c2, c3, c4, c5⟩ := (R1.out.keep hb R1.out.lt).c6
  obtain ⟨d0, d1, d2, d3, d4, d5⟩ := (R2.out.keep hb R2.out.lt).c6
  clear hb
  cases B0 with
  | false =>
    go_wp2_with fail
    go_ret
    exact ⟨rfl, HB1.out⟩
  | true =>
    cases b1 with
    | false =>
      go_wp2_with fail
      go_ret
      exact ⟨ret_bool (by rw [G1.out]; rfl), HB1.out⟩
    | true =>
      cases b2 with
      | false =>
        go_wp2_with fail
        go_ret
        exact ⟨ret_bool (by rw [G1.out, G2.out]; rfl), HB1.out⟩
      | true =>
        go_wp2_with fail
        go_ret
        exact ⟨ret_bool (by rw [G1.out, G2.out, G3.out]; rfl), HB1.out⟩
end Go.Proofs.YtglgclkgppomiaaGreat
