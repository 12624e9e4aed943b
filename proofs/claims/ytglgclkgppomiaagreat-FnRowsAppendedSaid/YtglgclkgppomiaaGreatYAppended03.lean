/- The walk of spec.IsCell. spec.IsCell whole, and spec.AreCells. Plain: what a cell is that spec.IsCell lets in; the walk of laws.zzFits2. Plain: floating-point numbers that spec.IsCell lets in are equal just if their bits are. The walks of bytes.Equal and of Equal of two values of one kind (printed by tools/gen_t12.py). Equal and DeepEqual of the values of two cells. append of any slice (empty, too) onto a row of one's own; rows of values behind a slice of slices. Lists of cells behind a slice of slices; the walk of laws.zzFits1. The walk of impl.columns. The walk of appendRow over rows behind a slice of slices. -/
import Derived.Test.YtglgclkgppomiaaGreatYAppended01
import Derived.Test.YtglgclkgppomiaaGreatYAppended02
import Derived.Test.YtglgclkgppomiaaGreatZ02
import Derived.Test.YtglgclkgppomiaaGreatZ14
import Derived.Test.YtglgclkgppomiaaGreatZ15
import Derived.Test.YtglgclkgppomiaaGreatZ18
import Derived.Test.YtglgclkgppomiaaGreatZ22
set_option linter.unusedVariables false
set_option linter.unusedSimpArgs false
namespace Go.Proofs.YtglgclkgppomiaaGreat
open Go Go.RowKit

/-- Is a float's negative nought borne? -/
def isNeg0 (kind num : Int) : Bool := (decide (kind = 4) && decide (num = 2147483648)) || (decide (kind = 5) && decide (num = -9223372036854775808))
/-- What spec.IsCell says. -/
def isCl (x : Cl) : Bool :=
  if x.col < 0 ∨ 1000 < x.col ∨ x.rep < 0 ∨ 255 < x.rep ∨ x.de < 0 ∨ 255 < x.de then false
  else if x.null then decide (x.kind = 0) && (decide (x.num = 0) && decide (x.text.size = 0))
  else isKd x.kind && (plainOk x.kind (.mk false x.num x.text []) && (isNum x.kind x.num && !isNeg0 x.kind x.num))

set_option maxRecDepth 100000 in
set_option maxHeartbeats 2000000 in
theorem cell42_bad (col rep de kind num : Int) (nl : Bool) (text : ByteArray) (w : World) (hb : col < 0 ∨ 1000 < col ∨ rep < 0 ∨ 255 < rep ∨ de < 0 ∨ 255 < de) :
    Calls Tryz.prog 42 #[.agg #[.int .i64 col, .int .i64 rep, .int .i64 de, .bool nl, .int .i64 kind, .int .i64 num, .string text]] w fun e w' => e = .returned (.bool false) ∧ Below w.heap.size w w' := by
  by_cases c0 : col < 0
  · have e0 : decide ((col : Int) < 0) = true := by simpa using c0
    clear hb c0
    go_enter Tryz.func42, Tryz.ntmps42
    go_wp2_with fail
    go_ret
    exact ⟨rfl, (Below.refl _ _).alloc (Nat.le_refl _) _⟩
  have e0 : decide ((col : Int) < 0) = false := by simpa using c0
  by_cases c1 : 1000 < col
  · have e1 : decide ((1000 : Int) < col) = true := by simpa using c1
    clear hb c1
    go_enter Tryz.func42, Tryz.ntmps42
    go_wp2_with fail
    go_ret
    exact ⟨rfl, (Below.refl _ _).alloc (Nat.le_refl _) _⟩
  have e1 : decide ((1000 : Int) < col) = false := by simpa using c1
  by_cases c2 : rep < 0
  · have e2 : decide ((rep : Int) < 0) = true := by simpa using c2
    clear hb c2
    go_enter Tryz.func42, Tryz.ntmps42
    go_wp2_with fail
    go_ret
    exact ⟨rfl, (Below.refl _ _).alloc (Nat.le_refl _) _⟩
  have e2 : decide ((rep : Int) < 0) = false := by simpa using c2
  by_cases c3 : 255 < rep
  · have e3 : decide ((255 : Int) < rep) = true := by simpa using c3
    clear hb c3
    go_enter Tryz.func42, Tryz.ntmps42
    go_wp2_with fail
    go_ret
    exact ⟨rfl, (Below.refl _ _).alloc (Nat.le_refl _) _⟩
  have e3 : decide ((255 : Int) < rep) = false := by simpa using c3
  by_cases c4 : de < 0
  · have e4 : decide ((de : Int) < 0) = true := by simpa using c4
    clear hb c4
    go_enter Tryz.func42, Tryz.ntmps42
    go_wp2_with fail
    go_ret
    exact ⟨rfl, (Below.refl _ _).alloc (Nat.le_refl _) _⟩
  have e4 : decide ((de : Int) < 0) = false := by simpa using c4
  by_cases c5 : 255 < de
  · have e5 : decide ((255 : Int) < de) = true := by simpa using c5
    clear hb c5
    go_enter Tryz.func42, Tryz.ntmps42
    go_wp2_with fail
    go_ret
    exact ⟨rfl, (Below.refl _ _).alloc (Nat.le_refl _) _⟩
  have e5 : decide ((255 : Int) < de) = false := by simpa using c5
  omega

set_option maxRecDepth 100000 in
set_option maxHeartbeats 2000000 in
theorem cell42_null (col rep de kind num : Int) (text : ByteArray) (w : World) (e0 : decide ((col : Int) < 0) = false) (e1 : decide ((1000 : Int) < col) = false) (e2 : decide ((rep : Int) < 0) = false) (e3 : decide ((255 : Int) < rep) = false) (e4 : decide ((de : Int) < 0) = false) (e5 : decide ((255 : Int) < de) = false) :
    Calls Tryz.prog 42 #[.agg #[.int .i64 col, .int .i64 rep, .int .i64 de, .bool true, .int .i64 kind, .int .i64 num, .string text]] w fun e w' => e = .returned (.bool (decide (kind = 0) && (decide (num = 0) && decide (text.size = 0)))) ∧ Below w.heap.size w w' := by
  have hte := toList_empty text
  by_cases k0 : kind = 0
  · have x0 : (kind == 0) = true := by simpa using k0
    have K0 := Lib.hid k0
    clear k0
    by_cases n0 : num = 0
    · have y0 : (num == 0) = true := by simpa using n0
      have N0 := Lib.hid n0
      clear n0
      by_cases h0 : text.size = 0
      · have t1 : text.toList = [] := by simpa [h0] using hte
        have H0 := Lib.hid h0
        clear hte h0
        go_enter Tryz.func42, Tryz.ntmps42
        go_wp2_with fail
        go_ret
        exact ⟨ret_bool (by rw [K0.out, N0.out, H0.out]; rfl), (Below.refl _ _).alloc (Nat.le_refl _) _⟩
      · have t1 : ¬ text.toList = [] := by simpa [h0] using hte
        have t2 : text.toList.isEmpty = false := by simpa [h0] using hte
        have H0 := Lib.hid h0
        clear hte h0
        go_enter Tryz.func42, Tryz.ntmps42
        go_wp2_with fail
        go_ret
        exact ⟨ret_bool (by rw [decide_eq_false H0.out]; simp), (Below.refl _ _).alloc (Nat.le_refl _) _⟩
    · have y0 : (num == 0) = false := by simpa using n0
      have N0 := Lib.hid n0
      clear n0 hte
      go_enter Tryz.func42, Tryz.ntmps42
      go_wp2_with fail
      go_ret
      exact ⟨ret_bool (by rw [decide_eq_false N0.out]; simp), (Below.refl _ _).alloc (Nat.le_refl _) _⟩
  · have x0 : (kind == 0) = false := by simpa using k0
    have K0 := Lib.hid k0
    clear k0 hte
    go_enter Tryz.func42, Tryz.ntmps42
    go_wp2_with fail
    go_ret
    exact ⟨ret_bool (by rw [decide_eq_false K0.out]; simp), (Below.refl _ _).alloc (Nat.le_refl _) _⟩

set_option maxRecDepth 100000 in
set_option maxHeartbeats 4000000 in
theorem cell42_there (col rep de kind num : Int) (text : ByteArray) (w : World) (e0 : decide ((col : Int) < 0) = false) (e1 : decide ((1000 : Int) < col) = false) (e2 : decide ((rep : Int) < 0) = false) (e3 : decide ((255 : Int) < rep) = false) (e4 : decide ((de : Int) < 0) = false) (e5 : decide ((255 : Int) < de) = false) (hts : text.size ≤ 1000000000000) :
    Calls Tryz.prog 42 #[.agg #[.int .i64 col, .int .i64 rep, .int .i64 de, .bool false, .int .i64 kind, .int .i64 num, .string text]] w fun e w' => e = .returned (.bool (isKd kind && (plainOk kind (.mk false num text []) && (isNum kind num && !isNeg0 kind num)))) ∧ Below w.heap.size w w' := by
  by_cases k4 : kind = 4
  · have x4 : (kind == 4) = true := by simpa using k4
    have x5 : (kind == 5) = false := by simp; omega
    by_cases n4 : num = 2147483648
    · have y4 : (num == 2147483648) = true := by simpa using n4
      have HZ : Hid (isNeg0 kind num = true) := by show _ = _; simp [isNeg0, k4, n4]
      clear k4 n4
      go_enter Tryz.func42, Tryz.ntmps42
      go_wp2_with fail
      refine (isKind_any kind _).mono ?_
      rintro e w1 ⟨rfl, rfl⟩
      cases hK : isKd kind with
      | false =>
        have HK := Lib.hid hK
        clear hK
        go_wp2_with fail
        go_ret
        exact ⟨ret_bool (by rw [HK.out]; rfl), (Below.refl _ _).alloc (Nat.le_refl _) _⟩
      | true =>
        have HK := Lib.hid hK
        clear hK
        go_wp2_with fail
        refine (isPlain_any kind (.mk false num text []) none 0 0 _ rfl hts).mono ?_
        rintro e w2 ⟨rfl, hb2⟩
        have HB2 := Lib.hid (((Below.refl w.heap.size w).alloc (Nat.le_refl _) (.cells #[.int .i64 col, .int .i64 rep, .int .i64 de, .bool false, .int .i64 kind, .int .i64 num, .string text] 39)).trans (hb2.mono (by rw [size_alloc1]; omega)))
        have hr : RowB w2 w.heap.size 39 #[.int .i64 col, .int .i64 rep, .int .i64 de, .bool false, .int .i64 kind, .int .i64 num, .string text] := (RowB.new w 39 _).keep hb2 (by rw [size_alloc1]; omega)
        obtain ⟨r0, r1, r2, r3, r4, r5, r6⟩ := hr.c7
        clear hb2 hr
        cases hP : plainOk kind (.mk false num text []) with
        | false =>
          have HP := Lib.hid hP
          clear hP
          go_wp2_with fail
          go_ret
          exact ⟨ret_bool (by rw [HK.out, HP.out]; rfl), HB2.out⟩
        | true =>
          have HP := Lib.hid hP
          clear hP
          go_wp2_with fail
          refine (number66 ⟨col, rep, de, false, kind, num, text⟩ w2).mono ?_
          rintro e w3 ⟨rfl, hb3⟩
          have HB3 := Lib.hid (HB2.out.trans (hb3.mono HB2.out.size))
          clear hb3
          cases hN : isNum kind num with
          | false =>
            have HN := Lib.hid hN
            clear hN
            go_wp2_with fail
            go_ret
            exact ⟨ret_bool (by rw [HK.out, HP.out, HN.out]; rfl), HB3.out⟩
          | true =>
            have HN := Lib.hid hN
            clear hN
            go_wp2_with fail
            go_ret
            exact ⟨ret_bool (by rw [HK.out, HP.out, HN.out, HZ.out]; rfl), HB3.out⟩
    · have y4 : (num == 2147483648) = false := by simpa using n4
      have HZ : Hid (isNeg0 kind num = false) := by show _ = _; simp [isNeg0, k4, n4]
      clear k4 n4
      go_enter Tryz.func42, Tryz.ntmps42
      go_wp2_with fail
      refine (isKind_any kind _).mono ?_
      rintro e w1 ⟨rfl, rfl⟩
      cases hK : isKd kind with
      | false =>
        have HK := Lib.hid hK
        clear hK
        go_wp2_with fail
        go_ret
        exact ⟨ret_bool (by rw [HK.out]; rfl), (Below.refl _ _).alloc (Nat.le_refl _) _⟩
      | true =>
        have HK := Lib.hid hK
        clear hK
        go_wp2_with fail
        refine (isPlain_any kind (.mk false num text []) none 0 0 _ rfl hts).mono ?_
        rintro e w2 ⟨rfl, hb2⟩
        have HB2 := Lib.hid (((Below.refl w.heap.size w).alloc (Nat.le_refl _) (.cells #[.int .i64 col, .int .i64 rep, .int .i64 de, .bool false, .int .i64 kind, .int .i64 num, .string text] 39)).trans (hb2.mono (by rw [size_alloc1]; omega)))
        have hr : RowB w2 w.heap.size 39 #[.int .i64 col, .int .i64 rep, .int .i64 de, .bool false, .int .i64 kind, .int .i64 num, .string text] := (RowB.new w 39 _).keep hb2 (by rw [size_alloc1]; omega)
        obtain ⟨r0, r1, r2, r3, r4, r5, r6⟩ := hr.c7
        clear hb2 hr
        cases hP : plainOk kind (.mk false num text []) with
        | false =>
          have HP := Lib.hid hP
          clear hP
          go_wp2_with fail
          go_ret
          exact ⟨ret_bool (by rw [HK.out, HP.out]; rfl), HB2.out⟩
        | true =>
          have HP := Lib.hid hP
          clear hP
          go_wp2_with fail
          refine (number66 ⟨col, rep, de, false, kind, num, text⟩ w2).mono ?_
          rintro e w3 ⟨rfl, hb3⟩
          have HB3 := Lib.hid (HB2.out.trans (hb3.mono HB2.out.size))
          clear hb3
          cases hN : isNum kind num with
          | false =>
            have HN := Lib.hid hN
            clear hN
            go_wp2_with fail
            go_ret
            exact ⟨ret_bool (by rw [HK.out, HP.out, HN.out]; rfl), HB3.out⟩
          | true =>
            have HN := Lib.hid hN
            clear hN
            go_wp2_with fail
            go_ret
            exact ⟨ret_bool (by rw [HK.out, HP.out, HN.out, HZ.out]; rfl), HB3.out⟩
  · have x4 : (kind == 4) = false := by simpa using k4
    by_cases k5 : kind = 5
    · have x5 : (kind == 5) = true := by simpa using k5
      by_cases n5 : num = -9223372036854775808
      · have y5 : (num == -9223372036854775808) = true := by simpa using n5
        have HZ : Hid (isNeg0 kind num = true) := by show _ = _; simp [isNeg0, k5, n5]
        clear k4 k5 n5
        go_enter Tryz.func42, Tryz.ntmps42
        go_wp2_with fail
        refine (isKind_any kind _).mono ?_
        rintro e w1 ⟨rfl, rfl⟩
        cases hK : isKd kind with
        | false =>
          have HK := Lib.hid hK
          clear hK
          go_wp2_with fail
          go_ret
          exact ⟨ret_bool (by rw [HK.out]; rfl), (Below.refl _ _).alloc (Nat.le_refl _) _⟩
        | true =>
          have HK := Lib.hid hK
          clear hK
          go_wp2_with fail
          refine (isPlain_any kind (.mk false num text []) none 0 0 _ rfl hts).mono ?_
          rintro e w2 ⟨rfl, hb2⟩
          have HB2 := Lib.hid (((Below.refl w.heap.size w).alloc (Nat.le_refl _) (.cells #[.int .i64 col, .int .i64 rep, .int .i64 de, .bool false, .int .i64 kind, .int .i64 num, .string text] 39)).trans (hb2.mono (by rw [size_alloc1]; omega)))
          have hr : RowB w2 w.heap.size 39 #[.int .i64 col, .int .i64 rep, .int .i64 de, .bool false, .int .i64 kind, .int .i64 num, .string text] := (RowB.new w 39 _).keep hb2 (by rw [size_alloc1]; omega)
          obtain ⟨r0, r1, r2, r3, r4, r5, r6⟩ := hr.c7
          clear hb2 hr
          cases hP : plainOk kind (.mk false num text []) with
          | false =>
            have HP := Lib.hid hP
            clear hP
            go_wp2_with fail
            go_ret
            exact ⟨ret_bool (by rw [HK.out, HP.out]; rfl), HB2.out⟩
          | true =>
            have HP := Lib.hid hP
            clear hP
            go_wp2_with fail
            refine (number66 ⟨col, rep, de, false, kind, num, text⟩ w2).mono ?_
            rintro e w3 ⟨rfl, hb3⟩
            have HB3 := Lib.hid (HB2.out.trans (hb3.mono HB2.out.size))
            clear hb3
            cases hN : isNum kind num with
            | false =>
              have HN := Lib.hid hN
              clear hN
              go_wp2_with fail
              go_ret
              exact ⟨ret_bool (by rw [HK.out, HP.out, HN.out]; rfl), HB3.out⟩
            | true =>
              have HN := Lib.hid hN
              clear hN
              go_wp2_with fail
              go_ret
              exact ⟨ret_bool (by rw [HK.out, HP.out, HN.out, HZ.out]; rfl), HB3.out⟩
      · have y5 : (num == -9223372036854775808) = false := by simpa using n5
        have HZ : Hid (isNeg0 kind num = false) := by show _ = _; simp [isNeg0, k5, n5]
        clear k4 k5 n5
        go_enter Tryz.func42, Tryz.ntmps42
        go_wp2_with fail
        refine (isKind_any kind _).mono ?_
        rintro e w1 ⟨rfl, rfl⟩
        cases hK : isKd kind with
        | false =>
          have HK := Lib.hid hK
          clear hK
          go_wp2_with fail
          go_ret
          exact ⟨ret_bool (by rw [HK.out]; rfl), (Below.refl _ _).alloc (Nat.le_refl _) _⟩
        | true =>
          have HK := Lib.hid hK
          clear hK
          go_wp2_with fail
          refine (isPlain_any kind (.mk false num text []) none 0 0 _ rfl hts).mono ?_
          rintro e w2 ⟨rfl, hb2⟩
          have HB2 := Lib.hid (((Below.refl w.heap.size w).alloc (Nat.le_refl _) (.cells #[.int .i64 col, .int .i64 rep, .int .i64 de, .bool false, .int .i64 kind, .int .i64 num, .string text] 39)).trans (hb2.mono (by rw [size_alloc1]; omega)))
          have hr : RowB w2 w.heap.size 39 #[.int .i64 col, .int .i64 rep, .int .i64 de, .bool false, .int .i64 kind, .int .i64 num, .string text] := (RowB.new w 39 _).keep hb2 (by rw [size_alloc1]; omega)
          obtain ⟨r0, r1, r2, r3, r4, r5, r6⟩ := hr.c7
          clear hb2 hr
          cases hP : plainOk kind (.mk false num text []) with
          | false =>
            have HP := Lib.hid hP
            clear hP
            go_wp2_with fail
            go_ret
            exact ⟨ret_bool (by rw [HK.out, HP.out]; rfl), HB2.out⟩
          | true =>
            have HP := Lib.hid hP
            clear hP
            go_wp2_with fail
            refine (number66 ⟨col, rep, de, false, kind, num, text⟩ w2).mono ?_
            rintro e w3 ⟨rfl, hb3⟩
            have HB3 := Lib.hid (HB2.out.trans (hb3.mono HB2.out.size))
            clear hb3
            cases hN : isNum kind num with
            | false =>
              have HN := Lib.hid hN
              clear hN
              go_wp2_with fail
              go_ret
              exact ⟨ret_bool (by rw [HK.out, HP.out, HN.out]; rfl), HB3.out⟩
            | true =>
              have HN := Lib.hid hN
              clear hN
              go_wp2_with fail
              go_ret
              exact ⟨ret_bool (by rw [HK.out, HP.out, HN.out, HZ.out]; rfl), HB3.out⟩
    · have x5 : (kind == 5) = false := by simpa using k5
      have HZ : Hid (isNeg0 kind num = false) := by show _ = _; simp [isNeg0, k4, k5]
      clear k4 k5
      go_enter Tryz.func42, Tryz.ntmps42
      go_wp2_with fail
      refine (isKind_any kind _).mono ?_
      rintro e w1 ⟨rfl, rfl⟩
      cases hK : isKd kind with
      | false =>
        have HK := Lib.hid hK
        clear hK
        go_wp2_with fail
        go_ret
        exact ⟨ret_bool (by rw [HK.out]; rfl), (Below.refl _ _).alloc (Nat.le_refl _) _⟩
      | true =>
        have HK := Lib.hid hK
        clear hK
        go_wp2_with fail
        refine (isPlain_any kind (.mk false num text []) none 0 0 _ rfl hts).mono ?_
        rintro e w2 ⟨rfl, hb2⟩
        have HB2 := Lib.hid (((Below.refl w.heap.size w).alloc (Nat.le_refl _) (.cells #[.int .i64 col, .int .i64 rep, .int .i64 de, .bool false, .int .i64 kind, .int .i64 num, .string text] 39)).trans (hb2.mono (by rw [size_alloc1]; omega)))
        have hr : RowB w2 w.heap.size 39 #[.int .i64 col, .int .i64 rep, .int .i64 de, .bool false, .int .i64 kind, .int .i64 num, .string text] := (RowB.new w 39 _).keep hb2 (by rw [size_alloc1]; omega)
        obtain ⟨r0, r1, r2, r3, r4, r5, r6⟩ := hr.c7
        clear hb2 hr
        cases hP : plainOk kind (.mk false num text []) with
        | false =>
          have HP := Lib.hid hP
          clear hP
          go_wp2_with fail
          go_ret
          exact ⟨ret_bool (by rw [HK.out, HP.out]; rfl), HB2.out⟩
        | true =>
          have HP := Lib.hid hP
          clear hP
          go_wp2_with fail
          refine (number66 ⟨col, rep, de, false, kind, num, text⟩ w2).mono ?_
          rintro e w3 ⟨rfl, hb3⟩
          have HB3 := Lib.hid (HB2.out.trans (hb3.mono HB2.out.size))
          clear hb3
          cases hN : isNum kind num with
          | false =>
            have HN := Lib.hid hN
            clear hN
            go_wp2_with fail
            go_ret
            exact ⟨ret_bool (by rw [HK.out, HP.out, HN.out]; rfl), HB3.out⟩
          | true =>
            have HN := Lib.hid hN
            clear hN
            go_wp2_with fail
            go_ret
            exact ⟨ret_bool (by rw [HK.out, HP.out, HN.out, HZ.out]; rfl), HB3.out⟩
end Go.Proofs.YtglgclkgppomiaaGreat

namespace Go.Proofs.YtglgclkgppomiaaGreat
open Go Go.RowKit

theorem cell42_any (x : Cl) (w : World) (hts : x.text.size ≤ 1000000000000) : Calls Tryz.prog 42 #[clVal x] w fun e w' => e = .returned (.bool (isCl x)) ∧ Below w.heap.size w w' := by
  obtain ⟨col, rep, de, nl, kind, num, text⟩ := x
  unfold isCl
  simp only []
  by_cases hb : col < 0 ∨ 1000 < col ∨ rep < 0 ∨ 255 < rep ∨ de < 0 ∨ 255 < de
  · rw [if_pos hb]
    exact cell42_bad col rep de kind num nl text w hb
  · rw [if_neg hb]
    have e0 : decide ((col : Int) < 0) = false := by simp; omega
    have e1 : decide ((1000 : Int) < col) = false := by simp; omega
    have e2 : decide ((rep : Int) < 0) = false := by simp; omega
    have e3 : decide ((255 : Int) < rep) = false := by simp; omega
    have e4 : decide ((de : Int) < 0) = false := by simp; omega
    have e5 : decide ((255 : Int) < de) = false := by simp; omega
    cases nl with
    | true => exact cell42_null col rep de kind num text w e0 e1 e2 e3 e4 e5
    | false => exact cell42_there col rep de kind num text w e0 e1 e2 e3 e4 e5 hts
/-- What spec.AreCells says. -/
def areCl (cs : List Cl) : Bool := cs.all isCl && decide (cs.length ≤ 5000)
theorem all_take {cs : List Cl} {j : Nat} {x : Cl} (h : cs[j]? = some x) : (cs.take (j + 1)).all isCl = ((cs.take j).all isCl && isCl x) := by
  rw [List.take_add_one, h]; simp
theorem areCl_bad {cs : List Cl} {j : Nat} {x : Cl} (h : cs[j]? = some x) (hx : isCl x = false) : areCl cs = false := by
  unfold areCl
  have : cs.all isCl = false := by
    rw [List.all_eq_false]
    exact ⟨x, List.mem_of_getElem? h, by simp [hx]⟩
  rw [this]; rfl

set_option maxRecDepth 100000 in
set_option maxHeartbeats 2000000 in
theorem cells37 (cs : List Cl) (A : Option Addr) (n c : Nat) (w : World) (hcl : ClsAt w w.heap.size A n c cs) (hn : n ≤ 3000000000) (hts : ∀ x ∈ cs, x.text.size ≤ 1000000000000) :
    Calls Tryz.prog 37 #[.slice A n c] w fun e w' => e = .returned (.bool (areCl cs)) ∧ Below w.heap.size w w' := by
  have HCL := Lib.hid hcl
  have HTS := Lib.hid hts
  have HLEN := Lib.hid hcl.1
  clear hcl hts
  go_enter Tryz.func37, Tryz.ntmps37
  go_wp2_with fail
  go_loopw [7] (fun i wr => ∃ (j : Nat), j ≤ n ∧ i = .int .i64 j ∧ (cs.take j).all isCl = true ∧ Below w.heap.size w wr) (fun i _ => n - (intOf i).toNat)
  case atStart => exact ⟨0, Nat.zero_le _, rfl, rfl, Below.refl _ _⟩
  case round =>
    obtain ⟨j, hj, rfl, hall, hb5⟩ := hrel
    have HALL := Lib.hid hall
    have HB5 := Lib.hid hb5
    clear hall
    by_cases hlt : j < n
    · obtain ⟨b0, o, x, rfl, hb0, hxk, c0, c1, c2, c3, c4, c5, c6⟩ := HCL.out.at_ hlt
      have HX := Lib.hid hxk
      have c0' := (bcell hb5 hb0).trans c0
      have c1' := (bcell hb5 hb0).trans c1
      have c2' := (bcell hb5 hb0).trans c2
      have c3' := (bcell hb5 hb0).trans c3
      have c4' := (bcell hb5 hb0).trans c4
      have c5' := (bcell hb5 hb0).trans c5
      have c6' := (bcell hb5 hb0).trans c6
      have hj0 : (0 : Int) ≤ (j : Int) := Int.natCast_nonneg _
      have hj1 : (j : Int) < (n : Int) := by omega
      have hbq : Below w.heap.size w (wr.alloc (.cells #[.int .i64 x.col, .int .i64 x.rep, .int .i64 x.de, .bool x.null, .int .i64 x.kind, .int .i64 x.num, .string x.text] 39)) := hb5.alloc hb5.size _
      have HC := Lib.hid (cell42_any x (wr.alloc (.cells #[.int .i64 x.col, .int .i64 x.rep, .int .i64 x.de, .bool x.null, .int .i64 x.kind, .int .i64 x.num, .string x.text] 39)) (HTS.out x (List.mem_of_getElem? hxk)))
      have HBQ := Lib.hid hbq
      clear c0 c1 c2 c3 c4 c5 c6 hxk hb5 hbq
      cases hx : isCl x with
      | false =>
        rw [hx] at HC
        have HBAD := Lib.hid (areCl_bad HX.out hx)
        clear hx
        go_wp2_with fail
        refine HC.out.mono ?_
        rintro e w6 ⟨rfl, hb6⟩
        have HB6 := Lib.hid (HBQ.out.trans (hb6.mono HBQ.out.size))
        clear hb6
        go_wp2_with fail
        go_ret
        exact ⟨ret_bool (by rw [HBAD.out]), HB6.out⟩
      | true =>
        rw [hx] at HC
        have HT := Lib.hid (all_take HX.out)
        rw [hx] at HT
        clear hx
        go_wp2_with fail
        refine HC.out.mono ?_
        rintro e w6 ⟨rfl, hb6⟩
        have HB6 := Lib.hid (HBQ.out.trans (hb6.mono HBQ.out.size))
        clear hb6
        go_wp2_with fail
        refine ⟨⟨j + 1, by omega, by go_num, by rw [HT.out, HALL.out]; rfl, HB6.out⟩, by simp [intOf]; omega⟩
    · obtain rfl : j = n := by omega
      have hfin : areCl cs = decide ((j : Int) ≤ 5000) := by
        have h1 := HALL.out
        have h2 := HLEN.out
        rw [List.take_of_length_le (by omega)] at h1
        unfold areCl
        rw [h1, h2, Bool.true_and]
        exact decide_eq_decide.2 (by omega)
      have HFIN := Lib.hid hfin
      clear hfin hb5
      go_wp2_with fail
      go_ret
      exact ⟨ret_bool (by rw [HFIN.out]), HB5.out⟩
end Go.Proofs.YtglgclkgppomiaaGreat

namespace Go.Proofs.YtglgclkgppomiaaGreat
open Go Go.RowKit

theorem empty_of_size {t : ByteArray} (h : t.size = 0) : t = ByteArray.empty := by
  cases t with
  | mk d =>
    cases d with
    | mk l =>
      cases l with
      | nil => rfl
      | cons a r => simp [ByteArray.size] at h
theorem isCl_facts {x : Cl} (h : isCl x = true) (hn : -9223372036854775808 ≤ x.num ∧ x.num ≤ 9223372036854775807) : ClOk x ∧ x.text.size ≤ 20000 := by
  unfold isCl at h
  split at h
  · cases h
  · rename_i hb
    by_cases hnl : x.null = true
    · rw [if_pos hnl] at h
      simp only [Bool.and_eq_true, decide_eq_true_eq] at h
      obtain ⟨h1, h2, h3⟩ := h
      exact ⟨⟨by omega, by omega, by omega, fun _ => ⟨h1, h2, empty_of_size h3⟩, fun h0 => by rw [hnl] at h0; cases h0⟩, by omega⟩
    · rw [if_neg hnl] at h
      simp only [Bool.and_eq_true] at h
      obtain ⟨h1, h2, _, _⟩ := h
      have ht : x.text.size ≤ 20000 := plainOk_text h2
      have hr := plainOk_rest x.kind (.mk false x.num x.text []) rfl (by simp [Dt.items]) (by show ¬ 20000 < x.text.size; omega)
      rw [h2] at hr
      simp only [Dt.text, Dt.num] at hr
      refine ⟨⟨by omega, by omega, by omega, fun h0 => absurd h0 hnl, fun _ => ⟨h1, plainOk_num h2, hn, fun hk => ?_, fun hk => ?_⟩⟩, ht⟩
      · have hk6 : x.kind ≠ 6 := hk
        by_cases k0 : x.kind = 0
        · rw [if_pos k0] at hr; simp only [Bool.true_eq, Bool.and_eq_true] at hr; exact empty_of_size (of_decide_eq_true hr.1)
        · rw [if_neg k0] at hr
          by_cases k1 : x.kind = 1
          · rw [if_pos k1] at hr; simp only [Bool.true_eq, Bool.and_eq_true] at hr; exact empty_of_size (of_decide_eq_true hr.1)
          · rw [if_neg k1] at hr
            by_cases k4 : x.kind = 4
            · rw [if_pos k4] at hr; simp only [Bool.true_eq, Bool.and_eq_true] at hr; exact empty_of_size (of_decide_eq_true hr.1)
            · rw [if_neg k4, if_neg hk6] at hr; exact empty_of_size (of_decide_eq_true hr.symm)
      · rw [if_neg (by omega), if_neg (by omega), if_neg (by omega), if_pos hk] at hr
        exact of_decide_eq_true hr.symm
set_option maxRecDepth 100000 in
set_option maxHeartbeats 2000000 in
theorem fits34 (cs : List Cl) (A : Option Addr) (n c : Nat) (w : World) (hcl : ClsAt w w.heap.size A n c cs) (hn : n ≤ 2000000000) (hts : ∀ x ∈ cs, x.text.size ≤ 2000000000) :
    Calls Tryz.prog 34 #[.slice A n c] w fun e w' => e = .returned (.bool true) ∧ Below w.heap.size w w' := by
  have HCL := Lib.hid hcl
  have HTS := Lib.hid hts
  have h1 : decide ((2147483647 : Int) < (n : Int)) = false := by simp; omega
  have h2 : decide (2147483647 < n) = false := by simp; omega
  have h3 : ¬ (2147483647 < n) := by omega
  clear hcl hts
  go_enter Tryz.func34, Tryz.ntmps34
  go_wp2_with fail
  go_loopw [10] (fun i wr => ∃ (j : Nat), j ≤ n ∧ i = .int .i64 j ∧ Below w.heap.size w wr) (fun i _ => n - (intOf i).toNat)
  case atStart => exact ⟨0, Nat.zero_le _, rfl, Below.refl _ _⟩
  case round =>
    obtain ⟨j, hj, rfl, hb5⟩ := hrel
    have HB5 := Lib.hid hb5
    by_cases hlt : j < n
    · obtain ⟨b0, o, x, rfl, hb0, hxk, c0, c1, c2, c3, c4, c5, c6⟩ := HCL.out.at_ hlt
      have c0' := (bcell hb5 hb0).trans c0
      have c1' := (bcell hb5 hb0).trans c1
      have c2' := (bcell hb5 hb0).trans c2
      have c3' := (bcell hb5 hb0).trans c3
      have c4' := (bcell hb5 hb0).trans c4
      have c5' := (bcell hb5 hb0).trans c5
      have c6' := (bcell hb5 hb0).trans c6
      have hj0 : (0 : Int) ≤ (j : Int) := Int.natCast_nonneg _
      have hj1 : (j : Int) < (n : Int) := by omega
      have hbq : Below w.heap.size w (wr.alloc (.cells #[.int .i64 x.col, .int .i64 x.rep, .int .i64 x.de, .bool x.null, .int .i64 x.kind, .int .i64 x.num, .string x.text] 39)) := hb5.alloc hb5.size _
      have HC := Lib.hid (fits41 x (wr.alloc (.cells #[.int .i64 x.col, .int .i64 x.rep, .int .i64 x.de, .bool x.null, .int .i64 x.kind, .int .i64 x.num, .string x.text] 39)) (HTS.out x (List.mem_of_getElem? hxk)))
      have HBQ := Lib.hid hbq
      clear c0 c1 c2 c3 c4 c5 c6 hxk hb5 hbq
      go_wp2_with fail
      refine HC.out.mono ?_
      rintro e w6 ⟨rfl, hb6⟩
      have HB6 := Lib.hid (HBQ.out.trans (hb6.mono HBQ.out.size))
      clear hb6
      go_wp2_with fail
      refine ⟨⟨j + 1, by omega, by go_num, HB6.out⟩, by simp [intOf]; omega⟩
    · obtain rfl : j = n := by omega
      clear hb5
      go_wp2_with fail
      go_ret
      exact ⟨rfl, HB5.out⟩
end Go.Proofs.YtglgclkgppomiaaGreat

namespace Go.Proofs.YtglgclkgppomiaaGreat
open Go Go.RowKit
theorem wrap_i64_small {n : Nat} (h : n < 9223372036854775808) : IntKind.i64.wrap (n : Int) = n := by
  have e : (2 : Int) ^ (64 : Nat) = 18446744073709551616 := by decide
  have e' : (2 : Int) ^ ((64 : Nat) - 1) = 9223372036854775808 := by decide
  simp only [IntKind.wrap, IntKind.bits, IntKind.signed, e, e']
  have h1 : (n : Int) % 18446744073709551616 = n := by omega
  rw [h1]
  have h2 : ¬ ((n : Int) ≥ 9223372036854775808) := by omega
  simp [h2]
theorem ofInt_toNat (num : Int) : (BitVec.ofInt 64 num).toNat = (num % 18446744073709551616).toNat := by
  rw [BitVec.toNat_ofInt]; rfl
theorem bits_and31 (num : Int) : bits .and .i64 num 2147483647 = ((((num % 18446744073709551616).toNat % 2147483648 : Nat)) : Int) := by
  show IntKind.i64.wrap ((BitVec.ofInt 64 num &&& BitVec.ofInt 64 2147483647).toNat : Int) = _
  have h1 : (BitVec.ofInt 64 2147483647).toNat = 2 ^ 31 - 1 := by rw [ofInt_toNat]; decide
  rw [BitVec.toNat_and, ofInt_toNat, h1, Nat.and_two_pow_sub_one_eq_mod]
  exact wrap_i64_small (by omega)
theorem bits_and63 (num : Int) : bits .and .i64 num 9223372036854775807 = ((((num % 18446744073709551616).toNat % 9223372036854775808 : Nat)) : Int) := by
  show IntKind.i64.wrap ((BitVec.ofInt 64 num &&& BitVec.ofInt 64 9223372036854775807).toNat : Int) = _
  have h1 : (BitVec.ofInt 64 9223372036854775807).toNat = 2 ^ 63 - 1 := by rw [ofInt_toNat]; decide
  rw [BitVec.toNat_and, ofInt_toNat, h1, Nat.and_two_pow_sub_one_eq_mod]
  exact wrap_i64_small (by omega)
theorem single_sizes : Ieee.single.binade = 8388608 ∧ Ieee.single.infRung = 2139095040 ∧ Ieee.single.signWeight = 2147483648 := by decide
theorem double_sizes : Ieee.double.binade = 4503599627370496 ∧ Ieee.double.infRung = 9218868437227405312 ∧ Ieee.double.signWeight = 9223372036854775808 := by decide
theorem single_fit {a : Int} (h0 : 0 ≤ a) (h1 : a < 4294967296) (hn : isNum 4 a = true) (hz : isNeg0 4 a = false) : a.toNat < 2 * Ieee.single.signWeight ∧ a.toNat % Ieee.single.signWeight ≤ Ieee.single.infRung ∧ a.toNat ≠ Ieee.single.signWeight := by
  obtain ⟨e1, e2, e3⟩ := single_sizes
  rw [e2, e3]
  unfold isNum at hn
  rw [if_pos rfl, bits_and31] at hn
  simp [isNeg0] at hz
  have hn := of_decide_eq_true hn
  have : (a % 18446744073709551616).toNat = a.toNat := by omega
  rw [this] at hn
  refine ⟨by omega, by omega, by omega⟩
theorem double_fit {a : Int} (h0 : -9223372036854775808 ≤ a) (h1 : a ≤ 9223372036854775807) (hn : isNum 5 a = true) (hz : isNeg0 5 a = false) : (encU a).toNat < 2 * Ieee.double.signWeight ∧ (encU a).toNat % Ieee.double.signWeight ≤ Ieee.double.infRung ∧ (encU a).toNat ≠ Ieee.double.signWeight := by
  obtain ⟨e1, e2, e3⟩ := double_sizes
  rw [e2, e3]
  unfold isNum at hn
  rw [if_neg (by decide), if_pos rfl, bits_and63] at hn
  simp [isNeg0] at hz
  have hn := of_decide_eq_true hn
  unfold encU
  refine ⟨by omega, by omega, by omega⟩
theorem f32_same {a b : Int} (h0 : 0 ≤ a) (h1 : a < 4294967296) (hn : isNum 4 a = true) (hz : isNeg0 4 a = false) (k0 : 0 ≤ b) (k1 : b < 4294967296) (kn : isNum 4 b = true) (kz : isNeg0 4 b = false) :
    (FloatKind.f32.format.order a.toNat b.toNat == some Ordering.eq) = decide (a = b) := by
  obtain ⟨a1, a2, a3⟩ := single_fit h0 h1 hn hz
  obtain ⟨b1, b2, b3⟩ := single_fit k0 k1 kn kz
  obtain ⟨e1, e2, e3⟩ := single_sizes
  show (Ieee.single.order a.toNat b.toNat == some Ordering.eq) = _
  rw [order_eq (by rw [e1]; decide) (by rw [e1, e2]; decide) (by rw [e2, e3]; decide) a1 b1 a2 b2 a3 b3]
  exact decide_eq_decide.2 (by omega)
theorem f64_same {a b : Int} (h0 : -9223372036854775808 ≤ a) (h1 : a ≤ 9223372036854775807) (hn : isNum 5 a = true) (hz : isNeg0 5 a = false) (k0 : -9223372036854775808 ≤ b) (k1 : b ≤ 9223372036854775807) (kn : isNum 5 b = true) (kz : isNeg0 5 b = false) :
    (FloatKind.f64.format.order (encU a).toNat (encU b).toNat == some Ordering.eq) = decide (a = b) := by
  obtain ⟨a1, a2, a3⟩ := double_fit h0 h1 hn hz
  obtain ⟨b1, b2, b3⟩ := double_fit k0 k1 kn kz
  obtain ⟨e1, e2, e3⟩ := double_sizes
  show (Ieee.double.order _ _ == some Ordering.eq) = _
  rw [order_eq (by rw [e1]; decide) (by rw [e1, e2]; decide) (by rw [e2, e3]; decide) a1 b1 a2 b2 a3 b3]
  exact decide_eq_decide.2 (by unfold encU; omega)
end Go.Proofs.YtglgclkgppomiaaGreat

namespace Go.Proofs.YtglgclkgppomiaaGreat
open Go Go.RowKit

set_option maxHeartbeats 1000000
set_option maxRecDepth 100000
theorem bytes96 (D D2 : Option Addr) (n c n2 c2 lo B lo2 B2 : Nat) (t t2 : ByteArray) (w : World) (h : BytesAt w lo B D n c t) (h2 : BytesAt w lo2 B2 D2 n2 c2 t2) :
    Calls Tryz.prog 96 #[.slice D n c, .slice D2 n2 c2] w fun e w' => e = .returned (.bool (decide (t = t2))) ∧ Below w.heap.size w w' := by
  have k1 := bytes_back h
  have k2 := bytes_back h2
  have HE : Hid ((t.toList == t2.toList) = decide (t = t2)) := Lib.hid (by rw [Bool.eq_iff_iff, text_eq, decide_eq_true_eq])
  clear h h2
  go_enter Tryz.func96, Tryz.ntmps96
  go_wp2_with fail
  go_ret
  exact ⟨ret_bool HE.out, Below.refl _ _⟩
theorem kinds67 (D D2 : Option Addr) (dn dc dn2 dc2 : Nat) (u u2 kd kd2 de de2 rep rep2 ci ci2 : Int) (hk : kd ≠ kd2) (w : World) :
    Calls Tryz.prog 67 #[vlV D dn dc u kd de rep ci, vlV D2 dn2 dc2 u2 kd2 de2 rep2 ci2] w fun e w' => e = .returned (.bool false) ∧ Below w.heap.size w w' := by
  have hk1 : (kd != kd2) = true := by simpa using hk
  clear hk
  go_enter Tryz.func67, Tryz.ntmps67
  go_wp2_with fail
  go_ret
  exact ⟨rfl, ((Below.refl _ _).alloc (Nat.le_refl _) _).alloc (by simp) _⟩
theorem null67 (D D2 : Option Addr) (dn dc dn2 dc2 : Nat) (u u2 de de2 rep rep2 ci ci2 : Int) (w : World) :
    Calls Tryz.prog 67 #[vlV D dn dc u 0 de rep ci, vlV D2 dn2 dc2 u2 0 de2 rep2 ci2] w fun e w' => e = .returned (.bool true) ∧ Below w.heap.size w w' := by
  go_enter Tryz.func67, Tryz.ntmps67
  go_wp2_with fail
  go_ret
  exact ⟨rfl, ((Below.refl _ _).alloc (Nat.le_refl _) _).alloc (by simp) _⟩
theorem same67_0 (D D2 : Option Addr) (dn dc dn2 dc2 : Nat) (u u2 de de2 rep rep2 ci ci2 : Int) (w : World) :
    Calls Tryz.prog 67 #[vlV D dn dc u (-1) de rep ci, vlV D2 dn2 dc2 u2 (-1) de2 rep2 ci2] w fun e w' => e = .returned (.bool ((u != 0) == (u2 != 0))) ∧ Below w.heap.size w w' := by
  have R1 := Lib.hid ((RowB.new w 76 (vCells D dn dc u (-1) de rep ci)).alloc (.cells (vCells D2 dn2 dc2 u2 (-1) de2 rep2 ci2) 76))
  have R2 : Hid (RowB ((w.alloc (.cells (vCells D dn dc u (-1) de rep ci) 76)).alloc (.cells (vCells D2 dn2 dc2 u2 (-1) de2 rep2 ci2) 76)) (w.heap.size + 1) 76 (vCells D2 dn2 dc2 u2 (-1) de2 rep2 ci2)) := Lib.hid (rowB_new (by rw [size_alloc1]))
  have HB : Hid (Below w.heap.size w ((w.alloc (.cells (vCells D dn dc u (-1) de rep ci) 76)).alloc (.cells (vCells D2 dn2 dc2 u2 (-1) de2 rep2 ci2) 76))) := Lib.hid (((Below.refl _ _).alloc (Nat.le_refl _) _).alloc (by simp) _)
  go_enter Tryz.func67, Tryz.ntmps67
  go_wp2_with fail
  refine (bool91 _ D dn dc u (-1) de rep ci _ R1.out).mono ?_
  rintro e w1 ⟨rfl, hb1⟩
  have HB1 := Lib.hid (HB.out.trans (hb1.mono HB.out.size))
  have R3 := Lib.hid (R2.out.keep hb1 R2.out.lt)
  clear hb1
  go_wp2_with fail
  refine (bool91 _ D2 dn2 dc2 u2 (-1) de2 rep2 ci2 _ R3.out).mono ?_
  rintro e w2 ⟨rfl, hb2⟩
  have HB2 := Lib.hid (HB1.out.trans (hb2.mono HB1.out.size))
  clear hb2
  go_wp2_with fail
  go_ret
  exact ⟨rfl, HB2.out⟩
theorem same67_1 (D D2 : Option Addr) (dn dc dn2 dc2 : Nat) (u u2 de de2 rep rep2 ci ci2 : Int) (r r2 : Int) (w : World) (hr : wrap32 u = r) (hr2 : wrap32 u2 = r2) :
    Calls Tryz.prog 67 #[vlV D dn dc u (-2) de rep ci, vlV D2 dn2 dc2 u2 (-2) de2 rep2 ci2] w fun e w' => e = .returned (.bool (r == r2)) ∧ Below w.heap.size w w' := by
  have R1 := Lib.hid ((RowB.new w 76 (vCells D dn dc u (-2) de rep ci)).alloc (.cells (vCells D2 dn2 dc2 u2 (-2) de2 rep2 ci2) 76))
  have R2 : Hid (RowB ((w.alloc (.cells (vCells D dn dc u (-2) de rep ci) 76)).alloc (.cells (vCells D2 dn2 dc2 u2 (-2) de2 rep2 ci2) 76)) (w.heap.size + 1) 76 (vCells D2 dn2 dc2 u2 (-2) de2 rep2 ci2)) := Lib.hid (rowB_new (by rw [size_alloc1]))
  have HB : Hid (Below w.heap.size w ((w.alloc (.cells (vCells D dn dc u (-2) de rep ci) 76)).alloc (.cells (vCells D2 dn2 dc2 u2 (-2) de2 rep2 ci2) 76))) := Lib.hid (((Below.refl _ _).alloc (Nat.le_refl _) _).alloc (by simp) _)
  have HR := Lib.hid hr
  have HR2 := Lib.hid hr2
  clear hr hr2
  go_enter Tryz.func67, Tryz.ntmps67
  go_wp2_with fail
  refine (i3292 _ D dn dc u (-2) de rep ci r HR.out _ R1.out).mono ?_
  rintro e w1 ⟨rfl, hb1⟩
  have HB1 := Lib.hid (HB.out.trans (hb1.mono HB.out.size))
  have R3 := Lib.hid (R2.out.keep hb1 R2.out.lt)
  clear hb1
  go_wp2_with fail
  refine (i3292 _ D2 dn2 dc2 u2 (-2) de2 rep2 ci2 r2 HR2.out _ R3.out).mono ?_
  rintro e w2 ⟨rfl, hb2⟩
  have HB2 := Lib.hid (HB1.out.trans (hb2.mono HB1.out.size))
  clear hb2
  go_wp2_with fail
  go_ret
  exact ⟨rfl, HB2.out⟩
theorem same67_2 (D D2 : Option Addr) (dn dc dn2 dc2 : Nat) (u u2 de de2 rep rep2 ci ci2 : Int) (r r2 : Int) (w : World) (hr : wrap64 u = r) (hr2 : wrap64 u2 = r2) :
    Calls Tryz.prog 67 #[vlV D dn dc u (-3) de rep ci, vlV D2 dn2 dc2 u2 (-3) de2 rep2 ci2] w fun e w' => e = .returned (.bool (r == r2)) ∧ Below w.heap.size w w' := by
  have R1 := Lib.hid ((RowB.new w 76 (vCells D dn dc u (-3) de rep ci)).alloc (.cells (vCells D2 dn2 dc2 u2 (-3) de2 rep2 ci2) 76))
  have R2 : Hid (RowB ((w.alloc (.cells (vCells D dn dc u (-3) de rep ci) 76)).alloc (.cells (vCells D2 dn2 dc2 u2 (-3) de2 rep2 ci2) 76)) (w.heap.size + 1) 76 (vCells D2 dn2 dc2 u2 (-3) de2 rep2 ci2)) := Lib.hid (rowB_new (by rw [size_alloc1]))
  have HB : Hid (Below w.heap.size w ((w.alloc (.cells (vCells D dn dc u (-3) de rep ci) 76)).alloc (.cells (vCells D2 dn2 dc2 u2 (-3) de2 rep2 ci2) 76))) := Lib.hid (((Below.refl _ _).alloc (Nat.le_refl _) _).alloc (by simp) _)
  have HR := Lib.hid hr
  have HR2 := Lib.hid hr2
  clear hr hr2
  go_enter Tryz.func67, Tryz.ntmps67
  go_wp2_with fail
  refine (i6493 _ D dn dc u (-3) de rep ci r HR.out _ R1.out).mono ?_
  rintro e w1 ⟨rfl, hb1⟩
  have HB1 := Lib.hid (HB.out.trans (hb1.mono HB.out.size))
  have R3 := Lib.hid (R2.out.keep hb1 R2.out.lt)
  clear hb1
  go_wp2_with fail
  refine (i6493 _ D2 dn2 dc2 u2 (-3) de2 rep2 ci2 r2 HR2.out _ R3.out).mono ?_
  rintro e w2 ⟨rfl, hb2⟩
  have HB2 := Lib.hid (HB1.out.trans (hb2.mono HB1.out.size))
  clear hb2
  go_wp2_with fail
  go_ret
  exact ⟨rfl, HB2.out⟩
theorem same67_4 (D D2 : Option Addr) (dn dc dn2 dc2 : Nat) (u u2 de de2 rep rep2 ci ci2 : Int) (r r2 : Int) (w : World) (hr : u % 4294967296 = r) (hr2 : u2 % 4294967296 = r2) :
    Calls Tryz.prog 67 #[vlV D dn dc u (-5) de rep ci, vlV D2 dn2 dc2 u2 (-5) de2 rep2 ci2] w fun e w' => e = .returned (.bool (FloatKind.f32.format.order r.toNat r2.toNat == some Ordering.eq)) ∧ Below w.heap.size w w' := by
  have R1 := Lib.hid ((RowB.new w 76 (vCells D dn dc u (-5) de rep ci)).alloc (.cells (vCells D2 dn2 dc2 u2 (-5) de2 rep2 ci2) 76))
  have R2 : Hid (RowB ((w.alloc (.cells (vCells D dn dc u (-5) de rep ci) 76)).alloc (.cells (vCells D2 dn2 dc2 u2 (-5) de2 rep2 ci2) 76)) (w.heap.size + 1) 76 (vCells D2 dn2 dc2 u2 (-5) de2 rep2 ci2)) := Lib.hid (rowB_new (by rw [size_alloc1]))
  have HB : Hid (Below w.heap.size w ((w.alloc (.cells (vCells D dn dc u (-5) de rep ci) 76)).alloc (.cells (vCells D2 dn2 dc2 u2 (-5) de2 rep2 ci2) 76))) := Lib.hid (((Below.refl _ _).alloc (Nat.le_refl _) _).alloc (by simp) _)
  have HR := Lib.hid hr
  have HR2 := Lib.hid hr2
  clear hr hr2
  go_enter Tryz.func67, Tryz.ntmps67
  go_wp2_with fail
  refine (f3294 _ D dn dc u (-5) de rep ci r HR.out _ R1.out).mono ?_
  rintro e w1 ⟨rfl, hb1⟩
  have HB1 := Lib.hid (HB.out.trans (hb1.mono HB.out.size))
  have R3 := Lib.hid (R2.out.keep hb1 R2.out.lt)
  clear hb1
  go_wp2_with fail
  refine (f3294 _ D2 dn2 dc2 u2 (-5) de2 rep2 ci2 r2 HR2.out _ R3.out).mono ?_
  rintro e w2 ⟨rfl, hb2⟩
  have HB2 := Lib.hid (HB1.out.trans (hb2.mono HB1.out.size))
  clear hb2
  go_wp2_with fail
  go_ret
  exact ⟨rfl, HB2.out⟩
theorem same67_5 (D D2 : Option Addr) (dn dc dn2 dc2 : Nat) (u u2 de de2 rep rep2 ci ci2 : Int) (w : World) :
    Calls Tryz.prog 67 #[vlV D dn dc u (-6) de rep ci, vlV D2 dn2 dc2 u2 (-6) de2 rep2 ci2] w fun e w' => e = .returned (.bool (FloatKind.f64.format.order u.toNat u2.toNat == some Ordering.eq)) ∧ Below w.heap.size w w' := by
  have R1 := Lib.hid ((RowB.new w 76 (vCells D dn dc u (-6) de rep ci)).alloc (.cells (vCells D2 dn2 dc2 u2 (-6) de2 rep2 ci2) 76))
  have R2 : Hid (RowB ((w.alloc (.cells (vCells D dn dc u (-6) de rep ci) 76)).alloc (.cells (vCells D2 dn2 dc2 u2 (-6) de2 rep2 ci2) 76)) (w.heap.size + 1) 76 (vCells D2 dn2 dc2 u2 (-6) de2 rep2 ci2)) := Lib.hid (rowB_new (by rw [size_alloc1]))
  have HB : Hid (Below w.heap.size w ((w.alloc (.cells (vCells D dn dc u (-6) de rep ci) 76)).alloc (.cells (vCells D2 dn2 dc2 u2 (-6) de2 rep2 ci2) 76))) := Lib.hid (((Below.refl _ _).alloc (Nat.le_refl _) _).alloc (by simp) _)
  go_enter Tryz.func67, Tryz.ntmps67
  go_wp2_with fail
  refine (f6495 _ D dn dc u (-6) de rep ci _ R1.out).mono ?_
  rintro e w1 ⟨rfl, hb1⟩
  have HB1 := Lib.hid (HB.out.trans (hb1.mono HB.out.size))
  have R3 := Lib.hid (R2.out.keep hb1 R2.out.lt)
  clear hb1
  go_wp2_with fail
  refine (f6495 _ D2 dn2 dc2 u2 (-6) de2 rep2 ci2 _ R3.out).mono ?_
  rintro e w2 ⟨rfl, hb2⟩
  have HB2 := Lib.hid (HB1.out.trans (hb2.mono HB1.out.size))
  clear hb2
  go_wp2_with fail
  go_ret
  exact ⟨rfl, HB2.out⟩
theorem same67_6 (D D2 : Option Addr) (dn dc dn2 dc2 : Nat) (u u2 de de2 rep rep2 ci ci2 : Int) (lo B lo2 B2 : Nat) (t t2 : ByteArray) (w : World) (h1 : BytesAt w lo B D dn dc t) (h2 : BytesAt w lo2 B2 D2 dn2 dc2 t2) (hB : B ≤ w.heap.size) (hB2 : B2 ≤ w.heap.size) :
    Calls Tryz.prog 67 #[vlV D dn dc u (-7) de rep ci, vlV D2 dn2 dc2 u2 (-7) de2 rep2 ci2] w fun e w' => e = .returned (.bool (decide (t = t2))) ∧ Below w.heap.size w w' := by
  have R1 := Lib.hid ((RowB.new w 76 (vCells D dn dc u (-7) de rep ci)).alloc (.cells (vCells D2 dn2 dc2 u2 (-7) de2 rep2 ci2) 76))
  have R2 : Hid (RowB ((w.alloc (.cells (vCells D dn dc u (-7) de rep ci) 76)).alloc (.cells (vCells D2 dn2 dc2 u2 (-7) de2 rep2 ci2) 76)) (w.heap.size + 1) 76 (vCells D2 dn2 dc2 u2 (-7) de2 rep2 ci2)) := Lib.hid (rowB_new (by rw [size_alloc1]))
  have HB : Hid (Below w.heap.size w ((w.alloc (.cells (vCells D dn dc u (-7) de rep ci) 76)).alloc (.cells (vCells D2 dn2 dc2 u2 (-7) de2 rep2 ci2) 76))) := Lib.hid (((Below.refl _ _).alloc (Nat.le_refl _) _).alloc (by simp) _)
  have HT1 := Lib.hid h1
  have HT2 := Lib.hid h2
  have HBw := Lib.hid hB
  have HBw2 := Lib.hid hB2
  clear h1 h2 hB hB2
  go_enter Tryz.func67, Tryz.ntmps67
  go_wp2_with fail
  refine (bytes97 _ D dn dc u (-7) de rep ci _ R1.out).mono ?_
  rintro e w1 ⟨rfl, hb1⟩
  have HB1 := Lib.hid (HB.out.trans (hb1.mono HB.out.size))
  have R3 := Lib.hid (R2.out.keep hb1 R2.out.lt)
  clear hb1
  go_wp2_with fail
  refine (bytes97 _ D2 dn2 dc2 u2 (-7) de2 rep2 ci2 _ R3.out).mono ?_
  rintro e w2 ⟨rfl, hb2⟩
  have HB2 := Lib.hid (HB1.out.trans (hb2.mono HB1.out.size))
  clear hb2
  go_wp2_with fail
  refine (bytes96 D D2 dn dc dn2 dc2 lo B lo2 B2 t t2 _ (HT1.out.frame (fun b _ h => HB2.out.block b (Nat.lt_of_lt_of_le h HBw.out)) (Nat.le_refl _) (Nat.le_refl _)) (HT2.out.frame (fun b _ h => HB2.out.block b (Nat.lt_of_lt_of_le h HBw2.out)) (Nat.le_refl _) (Nat.le_refl _))).mono ?_
  rintro e w3 ⟨rfl, hb3⟩
  have HB3 := Lib.hid (HB2.out.trans (hb3.mono HB2.out.size))
  clear hb3
  go_wp2_with fail
  go_ret
  exact ⟨rfl, HB3.out⟩
end Go.Proofs.YtglgclkgppomiaaGreat

namespace Go.Proofs.YtglgclkgppomiaaGreat
open Go Go.RowKit

/-- A cell that spec.IsCell lets in. -/
structure Good (x : Cl) : Prop where
  is : isCl x = true
  num : -9223372036854775808 ≤ x.num ∧ x.num ≤ 9223372036854775807
theorem Good.ok {x : Cl} (h : Good x) : ClOk x := (isCl_facts h.is h.num).1
theorem Good.text {x : Cl} (h : Good x) : x.text.size ≤ 20000 := (isCl_facts h.is h.num).2
theorem Good.float {x : Cl} (h : Good x) (hn : x.null = false) : isNum x.kind x.num = true ∧ isNeg0 x.kind x.num = false := by
  have h1 := h.is
  unfold isCl at h1
  split at h1
  · cases h1
  · rw [if_neg (by rw [hn]; decide)] at h1
    simp only [Bool.and_eq_true] at h1
    obtain ⟨_, _, h3, h4⟩ := h1
    exact ⟨h3, by simpa using h4⟩
def sameV (x y : Cl) : Bool := decide (x.null = y.null ∧ x.kind = y.kind ∧ x.num = y.num ∧ x.text = y.text)

set_option maxRecDepth 100000 in
theorem equal67 (x y : Cl) (hx : Good x) (hy : Good y) (lo B lo2 B2 : Nat) (D D2 : Option Addr) (dn dc dn2 dc2 : Nat) (u u2 de de2 rep rep2 ci ci2 : Int) (w : World)
    (hv : VR w lo B x.null x.kind x.num x.text D dn dc u) (hv2 : VR w lo2 B2 y.null y.kind y.num y.text D2 dn2 dc2 u2) (hB : B ≤ w.heap.size) (hB2 : B2 ≤ w.heap.size) :
    Calls Tryz.prog 67 #[vlV D dn dc u (kdOf x.null x.kind) de rep ci, vlV D2 dn2 dc2 u2 (kdOf y.null y.kind) de2 rep2 ci2] w fun e w' => e = .returned (.bool (sameV x y)) ∧ Below w.heap.size w w' := by
  have ox := hx.ok
  have oy := hy.ok
  have fx := hx.float
  have fy := hy.float
  obtain ⟨xc, xr, xd, xn, xk, xm, xt⟩ := x
  obtain ⟨yc, yr, yd, yn, yk, ym, yt⟩ := y
  have e0 : (-((0 : Int) + 1)) = -1 := by decide
  have e1 : (-((1 : Int) + 1)) = -2 := by decide
  have e2 : (-((2 : Int) + 1)) = -3 := by decide
  have e4 : (-((4 : Int) + 1)) = -5 := by decide
  have e5 : (-((5 : Int) + 1)) = -6 := by decide
  have e6 : (-((6 : Int) + 1)) = -7 := by decide
  by_cases hk : kdOf xn xk = kdOf yn yk
  · cases xn with
    | true =>
      cases yn with
      | true =>
        obtain ⟨a1, a2, a3⟩ := ox.nul rfl
        obtain ⟨b1, b2, b3⟩ := oy.nul rfl
        have hs : sameV ⟨xc, xr, xd, true, xk, xm, xt⟩ ⟨yc, yr, yd, true, yk, ym, yt⟩ = true := decide_eq_true ⟨rfl, a1.trans b1.symm, a2.trans b2.symm, a3.trans b3.symm⟩
        rw [hs]
        exact null67 D D2 dn dc dn2 dc2 u u2 de de2 rep rep2 ci ci2 w
      | false =>
        have := kd_cases (oy.there rfl).kd
        simp only [kdOf] at hk
        exfalso
        simp at hk this
        omega
    | false =>
      cases yn with
      | true =>
        have := kd_cases (ox.there rfl).kd
        simp only [kdOf] at hk
        exfalso
        simp at hk this
        omega
      | false =>
        have hkk : xk = yk := by simp [kdOf] at hk; omega
        subst hkk
        have cx := ox.there rfl
        have cy := oy.there rfl
        have hux : xk ≠ 6 → u = encU xm := fun h => by
          cases hv with
          | num => rfl
          | text => exact absurd rfl h
        have huy : xk ≠ 6 → u2 = encU ym := fun h => by
          cases hv2 with
          | num => rfl
          | text => exact absurd rfl h
        have tx := cx.noText
        have ty := cy.noText
        obtain ⟨p0, p1, p4⟩ := cx.ok
        obtain ⟨q0, q1, q4⟩ := cy.ok
        have hsv : ∀ b : Bool, (b = decide (xm = ym ∧ xt = yt)) → b = sameV ⟨xc, xr, xd, false, xk, xm, xt⟩ ⟨yc, yr, yd, false, xk, ym, yt⟩ := fun b hb => by
          rw [hb]; unfold sameV; exact decide_eq_decide.2 ⟨fun h => ⟨rfl, rfl, h⟩, fun h => h.2.2⟩
        obtain ⟨fx1, fx2⟩ := fx rfl
        obtain ⟨fy1, fy2⟩ := fy rfl
        have n64 := cx.i64
        have m64 := cy.i64
        have nx := cx.noNum
        have ny := cy.noNum
        simp only at fx1 fx2 fy1 fy2 n64 m64 tx ty p0 p1 p4 q0 q1 q4 nx ny
        show Calls Tryz.prog 67 #[vlV D dn dc u (-(xk + 1)) de rep ci, vlV D2 dn2 dc2 u2 (-(xk + 1)) de2 rep2 ci2] w _
        rcases kd_cases cx.kd with h | h | h | h | h | h <;> simp only at h <;> subst h
        · obtain rfl := tx (by decide)
          obtain rfl := ty (by decide)
          obtain rfl := hux (by decide)
          obtain rfl := huy (by decide)
          rw [e0, ← hsv ((encU xm != 0) == (encU ym != 0)) (by rcases p0 rfl with rfl | rfl <;> rcases q0 rfl with rfl | rfl <;> simp <;> decide)]
          exact same67_0 D D2 dn dc dn2 dc2 _ _ de de2 rep rep2 ci ci2 w
        · obtain rfl := tx (by decide)
          obtain rfl := ty (by decide)
          obtain rfl := hux (by decide)
          obtain rfl := huy (by decide)
          rw [e1, ← hsv (xm == ym) (by simp [Bool.beq_eq_decide_eq])]
          exact same67_1 D D2 dn dc dn2 dc2 _ _ de de2 rep rep2 ci ci2 xm ym w (by have := p1 rfl; unfold wrap32 encU; omega) (by have := q1 rfl; unfold wrap32 encU; omega)
        · obtain rfl := tx (by decide)
          obtain rfl := ty (by decide)
          obtain rfl := hux (by decide)
          obtain rfl := huy (by decide)
          rw [e2, ← hsv (xm == ym) (by simp [Bool.beq_eq_decide_eq])]
          exact same67_2 D D2 dn dc dn2 dc2 _ _ de de2 rep rep2 ci ci2 xm ym w (by unfold wrap64 encU; omega) (by unfold wrap64 encU; omega)
        · obtain rfl := tx (by decide)
          obtain rfl := ty (by decide)
          obtain rfl := hux (by decide)
          obtain rfl := huy (by decide)
          have b1 := p4 rfl
          have b2 := q4 rfl
          rw [e4, ← hsv (FloatKind.f32.format.order xm.toNat ym.toNat == some Ordering.eq) (by rw [f32_same (by omega) (by omega) fx1 fx2 (by omega) (by omega) fy1 fy2]; simp)]
          exact same67_4 D D2 dn dc dn2 dc2 _ _ de de2 rep rep2 ci ci2 xm ym w (by unfold encU; omega) (by unfold encU; omega)
        · obtain rfl := tx (by decide)
          obtain rfl := ty (by decide)
          obtain rfl := hux (by decide)
          obtain rfl := huy (by decide)
          rw [e5, ← hsv (FloatKind.f64.format.order (encU xm).toNat (encU ym).toNat == some Ordering.eq) (by rw [f64_same n64.1 n64.2 fx1 fx2 m64.1 m64.2 fy1 fy2]; simp)]
          exact same67_5 D D2 dn dc dn2 dc2 _ _ de de2 rep rep2 ci ci2 w
        · obtain rfl := nx rfl
          obtain rfl := ny rfl
          rw [e6, ← hsv (decide (xt = yt)) (by simp)]
          cases hv with
          | num _ _ _ hk => exact absurd rfl hk
          | text _ _ _ _ _ h1 =>
            cases hv2 with
            | num _ _ _ hk => exact absurd rfl hk
            | text _ _ _ _ _ h2 => exact same67_6 D D2 dn dc dn2 dc2 _ _ de de2 rep rep2 ci ci2 lo B lo2 B2 xt yt w h1 h2 hB hB2
  · have hs : sameV ⟨xc, xr, xd, xn, xk, xm, xt⟩ ⟨yc, yr, yd, yn, yk, ym, yt⟩ = false := decide_eq_false fun h => hk (by
      obtain ⟨h1, h2, _⟩ := h
      simp only at h1 h2
      rw [h1, h2])
    rw [hs]
    exact kinds67 D D2 dn dc dn2 dc2 u u2 _ _ de de2 rep rep2 ci ci2 hk w
set_option maxRecDepth 100000 in
set_option maxHeartbeats 2000000 in
theorem deep68 (B0 : Bool) (D D2 : Option Addr) (dn dc dn2 dc2 : Nat) (u u2 kd kd2 de de2 rep rep2 ci ci2 : Int) (w : World)
    (h67 : ∀ W, Below w.heap.size w W → Calls Tryz.prog 67 #[vlV D dn dc u kd de rep ci, vlV D2 dn2 dc2 u2 kd2 de2 rep2 ci2] W fun e w' => e = .returned (.bool B0) ∧ Below W.heap.size W w') :
    Calls Tryz.prog 68 #[vlV D dn dc u kd de rep ci, vlV D2 dn2 dc2 u2 kd2 de2 rep2 ci2] w fun e w' => e = .returned (.bool (B0 && ((rep == rep2) && ((de == de2) && (ci == ci2))))) ∧ Below w.heap.size w w' := by
  have HB : Below w.heap.size w ((w.alloc (.cells (vCells D dn dc u kd de rep ci) 76)).alloc (.cells (vCells D2 dn2 dc2 u2 kd2 de2 rep2 ci2) 76)) := ((Below.refl _ _).alloc (Nat.le_refl _) _).alloc (by simp) _
  have H67 := Lib.hid (h67 _ HB)
  have R1 := Lib.hid ((RowB.new w 76 (vCells D dn dc u kd de rep ci)).alloc (.cells (vCells D2 dn2 dc2 u2 kd2 de2 rep2 ci2) 76))
  have R2 : Hid (RowB ((w.alloc (.cells (vCells D dn dc u kd de rep ci) 76)).alloc (.cells (vCells D2 dn2 dc2 u2 kd2 de2 rep2 ci2) 76)) (w.heap.size + 1) 76 (vCells D2 dn2 dc2 u2 kd2 de2 rep2 ci2)) := Lib.hid (rowB_new (by rw [size_alloc1]))
  have HBH := Lib.hid HB
  clear h67 HB
  obtain ⟨b1, hb1⟩ : ∃ b, (rep == rep2) = b := ⟨_, rfl⟩
  obtain ⟨b2, hb2⟩ : ∃ b, (de == de2) = b := ⟨_, rfl⟩
  obtain ⟨b3, hb3⟩ : ∃ b, (ci == ci2) = b := ⟨_, rfl⟩
  have G1 := Lib.hid hb1
  have G2 := Lib.hid hb2
  have G3 := Lib.hid hb3
  go_enter Tryz.func68, Tryz.ntmps68
  go_wp2_with fail
  refine H67.out.mono ?_
  rintro e w1 ⟨rfl, hb⟩
  have HB1 := Lib.hid (HBH.out.trans (hb.mono HBH.out.size))
  obtain ⟨c0, c1, c2, c3, c4, c5⟩ := (R1.out.keep hb R1.out.lt).c6
  obtain ⟨d0, d1, d2, d3, d4, d5⟩ := (R2.out.keep hb R2.out.lt).c6
  clear hb
  cases B0 with
  | false =>
    go_wp2_with fail
    go_ret
    exact ⟨rfl, HB1.out⟩
  | true =>
    cases b1 with
    | false =>
      go_wp2_with fail
      go_ret
      exact ⟨ret_bool (by rw [G1.out]; rfl), HB1.out⟩
    | true =>
      cases b2 with
      | false =>
        go_wp2_with fail
        go_ret
        exact ⟨ret_bool (by rw [G1.out, G2.out]; rfl), HB1.out⟩
      | true =>
        go_wp2_with fail
        go_ret
        exact ⟨ret_bool (by rw [G1.out, G2.out, G3.out]; rfl), HB1.out⟩
end Go.Proofs.YtglgclkgppomiaaGreat

namespace Go.Proofs.YtglgclkgppomiaaGreat
open Go Go.RowKit

theorem run_append_none {P : Program} {w : World} {base : Nat} {t tx ty e e' : TypeId} {i : TypeInfo} {size : Nat} (ht : P.underlying t = some (.slice e)) (htx : P.underlying tx = some (.slice e')) (hi : P.info? e = some i)
    {v : Value} {n : Nat} {xs : List Value} (hown : w.ownsRow base e size v n xs) (c : Nat) :
    (Builtin.append_ #[t, tx] ty #[v, .slice none 0 c]).run P w = .ok v w := by
  rw [append_types ht htx]
  rcases hown.2 with ⟨rfl, rfl⟩ | ⟨g, cap, cur, rfl, _, _, hnc, _⟩
  · simp [Builtin.append_, run_underlying ht, sizeOf, typeInfo, hi, Builtin.lenOf, Builtin.firstCells]
  · simp [Builtin.append_, run_underlying ht, sizeOf, typeInfo, hi, Builtin.lenOf, Builtin.firstCells, hnc, storeCells]
theorem wpList_append3 {P : Program} (w : World) {ops : Array Oper} {rest : List Oper} {o : Oper} {a : Act} {Q : Exit → Act → World → Prop} (hgd : o.guard = none) (s x : Operand) (t tx : TypeId)
    (ho : o.op = .call { callee := .builtin .append, args := #[s, x], argTypes := #[t, tx] })
    (base : Nat) (e e' : TypeId) (i : TypeInfo) (z : Value) (size bytes : Nat) (ht : P.underlying t = some (.slice e)) (htx : P.underlying tx = some (.slice e')) (hi : P.info? e = some i) (hz : i.zero = some z)
    (hsize : i.size = size) (hby : i.bytes = bytes) (hzs : z.cells.size = size) (hsz : 0 < size)
    (v : Value) (n : Nat) (xs : List Value) (hs : a.eval s = v) (hown : w.ownsRow base e size v n xs)
    (A : Option Addr) (m c : Nat) (news : List Value) (hx : a.eval x = .slice A m c) (hA : A = none → m = 0) (hl : news.length = m * size) (hnews : ∀ ad, A = some ad → ∀ j u, news[j]? = some u → w.cell? (ad.add j) = some u) (h1 : ∀ u ∈ news, u.oneCell' = true)
    (h63 : n + m ≤ maxLen) (hbytes : (n + m) * bytes ≤ 140737488355328) (hbase : base ≤ w.heap.size)
    (h : ∀ v' w', w'.ownsRow base e size v' (n + m) (xs ++ news) → w.grownBy w' v.ownBlock → (v'.ownBlock = v.ownBlock ∨ v'.ownBlock = some w.heap.size) → wpList P ops Q rest (a.put o.dst v') w') : wpList P ops Q (o :: rest) a w := by
  cases A with
  | none =>
    obtain rfl := hA rfl
    have hn : news = [] := List.eq_nil_of_length_eq_zero (by simpa using hl)
    subst hn
    refine wpList_plain hgd fun K hK => ?_
    have hr := run_append_none (P := P) (ty := o.type) ht htx hi hown c
    unfold Oper.wp execOp
    simp only [ho, resolve, invoke, builtin, Sem.run_bind, Sem.run_pure, Result.andThen_ok, List.map_toArray, List.map_cons, List.map_nil, hs, hx, hr]
    exact hK _ _ (h v w (by simpa using hown) ⟨rfl, rfl, rfl, Nat.le_refl _, fun _ _ _ => rfl⟩ (.inl rfl))
  | some ad =>
    refine wpList_plain hgd fun K hK => ?_
    obtain ⟨v', w', hr, h2, h3, _, h5⟩ := run_append_own_at (P := P) w base t o.type e i z size bytes ht hi hz hsize hby hzs hsz v n xs hown ad m c news hl (hnews ad rfl) h1 h63 hbytes hbase
    rw [← append_types ht htx] at hr
    unfold Oper.wp execOp
    simp only [ho, resolve, invoke, builtin, Sem.run_bind, Sem.run_pure, Result.andThen_ok, List.map_toArray, List.map_cons, List.map_nil, hs, hx, hr]
    exact hK _ _ (h v' w' h2 h3 h5)

/-! ### Rows behind a slice of slices -/
structure VsAt (w : World) (lo B : Nat) (A0 : Option Addr) (n c : Nat) (ls : List (List Cl)) (A : Nat → Option Addr) (cc : Nat → Nat) : Prop where
  len : ls.length = n ∧ n ≤ c
  at_ : ∀ k l, ls[k]? = some l → ∃ b o, A0 = some ⟨b, o, none⟩ ∧ (lo ≤ b ∧ b < B) ∧ w.cell? ⟨b, o + k, none⟩ = some (.slice (A k) l.length (cc k)) ∧ RowIn w lo B (A k) l.length (cc k) l
theorem VsAt.frame {w w' : World} {lo B lo' B' : Nat} (hf : ∀ b, lo ≤ b → b < B → w'.heap[b]? = w.heap[b]?) (hlo : lo' ≤ lo) (hB : B ≤ B') {A0 : Option Addr} {n c : Nat} {ls : List (List Cl)} {A : Nat → Option Addr} {cc : Nat → Nat} (h : VsAt w lo B A0 n c ls A cc) : VsAt w' lo' B' A0 n c ls A cc :=
  ⟨h.len, fun k l hk => by
    obtain ⟨b, o, h1, h2, h3, h4⟩ := h.at_ k l hk
    exact ⟨b, o, h1, ⟨Nat.le_trans hlo h2.1, Nat.lt_of_lt_of_le h2.2 hB⟩, (World.cell?_of_block (a := ⟨b, o + k, none⟩) (hf b h2.1 h2.2)).trans h3, h4.frame hf hlo hB⟩⟩
structure FlatRw (w : World) (lo B : Nat) (row : Value) (xs : List Value) (ls : List (List Cl)) (A : Nat → Option Addr) (cc l e : Nat → Nat) : Prop where
  len : xs.length = ls.length
  get : ∀ i r, ls[i]? = some r → xs[i]? = some (Value.slice (A i) r.length (cc i))
  at_ : ∀ i r, ls[i]? = some r → RowIn w (l i) (e i) (A i) r.length (cc i) r
  bnd : ∀ i r, ls[i]? = some r → lo ≤ l i ∧ e i ≤ B ∧ ∀ g, row.ownBlock = some g → g < l i ∨ e i ≤ g
/-- The slices of rows, each made by a call of its own, none of which wrote in the outer row's block. -/
def FlatR (w : World) (lo B : Nat) (row : Value) (xs : List Value) (ls : List (List Cl)) : Prop := ∃ A cc l e, FlatRw w lo B row xs ls A cc l e
theorem FlatR.nil (w : World) (lo B : Nat) (row : Value) : FlatR w lo B row [] [] := ⟨fun _ => none, fun _ => 0, fun _ => 0, fun _ => 0, ⟨rfl, fun i t h => by simp at h, fun i t h => by simp at h, fun i t h => by simp at h⟩⟩
theorem FlatR.frame {w w' : World} {lo B lo' B' : Nat} {row row' : Value} (hf : ∀ b, lo ≤ b → b < B → row.ownBlock ≠ some b → w'.heap[b]? = w.heap[b]?) (hr : ∀ g, row'.ownBlock = some g → row.ownBlock = some g ∨ B ≤ g) (hlo : lo' ≤ lo) (hB : B ≤ B') {xs : List Value} {ls : List (List Cl)} (h : FlatR w lo B row xs ls) : FlatR w' lo' B' row' xs ls := by
  obtain ⟨A, cc, l, e, h⟩ := h
  refine ⟨A, cc, l, e, ⟨h.len, h.get, fun i t ht => ?_, fun i t ht => ?_⟩⟩
  · obtain ⟨b1, b2, b3⟩ := h.bnd i t ht
    refine (h.at_ i t ht).frame (fun b k1 k2 => hf b (Nat.le_trans b1 k1) (Nat.lt_of_lt_of_le k2 b2) fun hb => ?_) (Nat.le_refl _) (Nat.le_refl _)
    have := b3 b hb
    omega
  · obtain ⟨b1, b2, b3⟩ := h.bnd i t ht
    refine ⟨Nat.le_trans hlo b1, Nat.le_trans b2 hB, fun g hg => ?_⟩
    rcases hr g hg with h1 | h1
    · exact b3 g h1
    · exact .inr (Nat.le_trans b2 h1)
theorem FlatR.snoc {w : World} {lo B l0 e0 : Nat} {row : Value} {xs : List Value} {ls : List (List Cl)} (h : FlatR w lo B row xs ls) {r0 : List Cl} {A0 : Option Addr} {c0 : Nat} (ht : RowIn w l0 e0 A0 r0.length c0 r0)
    (hl : lo ≤ l0) (he : e0 ≤ B) (hg : ∀ g, row.ownBlock = some g → g < l0 ∨ e0 ≤ g) : FlatR w lo B row (xs ++ [.slice A0 r0.length c0]) (ls ++ [r0]) := by
  obtain ⟨A, cc, l, e, h⟩ := h
  have hlt : ∀ {i : Nat} {r : List Cl}, (ls ++ [r0])[i]? = some r → i ≠ ls.length → ls[i]? = some r := fun {i r} hx hi => by
    have : i < ls.length := by
      have := (List.getElem?_eq_some_iff.1 hx).1
      simp at this; omega
    rwa [List.getElem?_append_left this] at hx
  have heq : ∀ {r : List Cl}, (ls ++ [r0])[ls.length]? = some r → r = r0 := fun {r} hx => by simp at hx; exact hx.symm
  refine ⟨fun i => if i = ls.length then A0 else A i, fun i => if i = ls.length then c0 else cc i, fun i => if i = ls.length then l0 else l i, fun i => if i = ls.length then e0 else e i, ⟨?_, fun i r hx => ?_, fun i r hx => ?_, fun i r hx => ?_⟩⟩
  · simp [h.len]
  · by_cases hi : i = ls.length
    · subst hi
      obtain rfl := heq hx
      simp only [if_pos]
      rw [← h.len]; simp
    · have hx' := hlt hx hi
      simp only [hi, if_false]
      rw [List.getElem?_append_left (by rw [h.len]; exact (List.getElem?_eq_some_iff.1 hx').1)]
      exact h.get i r hx'
  · by_cases hi : i = ls.length
    · subst hi
      obtain rfl := heq hx
      simp only [if_pos]
      exact ht
    · simp only [hi, if_false]
      exact h.at_ i r (hlt hx hi)
  · by_cases hi : i = ls.length
    · subst hi
      simp only [if_pos]
      exact ⟨hl, he, hg⟩
    · simp only [hi, if_false]
      exact h.bnd i r (hlt hx hi)
theorem vsAt_owns {w : World} {lo B base : Nat} {v : Value} {N : Nat} {xs : List Value} {ls : List (List Cl)} (h : w.ownsRow base 62 1 v N xs) (hN : ls.length = N) (hf : FlatR w lo B v xs ls) (hlo : lo ≤ base) (hB : B ≤ w.heap.size) : ∃ A0 c A cc, v = .slice A0 N c ∧ VsAt w lo w.heap.size A0 N c ls A cc := by
  have hcells := fun g hg => h.cells (g := g) hg
  have hlt := h.lt
  obtain ⟨A, cc, l, e, hF⟩ := hf
  rcases h.2 with ⟨rfl, rfl⟩ | ⟨g, cap, cur, rfl, hb, hcur, hle, hmax, hsz, htk⟩
  · refine ⟨none, 0, A, cc, rfl, ⟨hN, Nat.le_refl _⟩, fun k r hk => ?_⟩
    have := List.eq_nil_of_length_eq_zero hN
    subst this
    simp at hk
  · have hg : ∀ k u, xs[k]? = some u → w.cell? ⟨g, k, none⟩ = some u := fun k u hu => by
      have := hcells g rfl k u hu
      rw [Addr.add_lit, Nat.zero_add] at this
      exact this
    refine ⟨_, cap, A, cc, rfl, ⟨hN, hle⟩, fun k r hk => ⟨g, 0, rfl, ⟨Nat.le_trans hlo (hlt g rfl).1, (hlt g rfl).2⟩, ?_, ?_⟩⟩
    · rw [Nat.zero_add]; exact hg k _ (hF.get k r hk)
    · exact (hF.at_ k r hk).frame (fun _ _ _ => rfl) (hF.bnd k r hk).1 (Nat.le_trans (hF.bnd k r hk).2.1 hB)
/-- A round: a row was made in blocks [l0, e0), its slice was laid in a block, and appended to the outer row. -/
theorem step_flatR {w5 w6 w7 : World} {base l0 e0 : Nat} {v : Value} {j g cap : Nat} {xs : List Value} {ls : List (List Cl)} {B0 : Nat} {r : List Cl} {A : Option Addr} {c : Nat} {o : Obj}
    (hown : w5.ownsRow base 62 1 v j xs) (hflat : FlatR w5 base B0 v xs ls) (hB0 : B0 ≤ w5.heap.size) (hbase : base ≤ w5.heap.size) (hbA : Below w5.heap.size w5 w6) (hat : RowIn w6 l0 e0 A r.length c r) (hl0 : w5.heap.size ≤ l0) (he0 : e0 ≤ w6.heap.size)
    (hgrow : (w6.alloc o).grownBy w7 v.ownBlock) (hat7 : v.ownBlock = some g ∨ g = w6.heap.size + 1) :
    FlatR w7 base w7.heap.size (.slice (some ⟨g, 0, none⟩) (j + 1) cap) (xs ++ [.slice A r.length c]) (ls ++ [r]) := by
  have hlt := hown.lt
  have hszA := hbA.size
  have hsz7 : w6.heap.size + 1 ≤ w7.heap.size := by have := hgrow.size; rwa [size_alloc1] at this
  have hblk : ∀ b, b < w6.heap.size → v.ownBlock ≠ some b → w7.heap[b]? = w6.heap[b]? := fun b h2 h3 =>
    (hgrow.block b (by rw [size_alloc1]; omega) (fun he => h3 he.symm)).trans (Below.heap_alloc w6 _ b h2)
  refine FlatR.snoc (l0 := l0) (e0 := e0) (hflat.frame (fun b h1 h2 h3 => (hblk b (by omega) h3).trans (hbA.block b (by omega))) (fun g' hg' => ?_) (Nat.le_refl _) (by omega)) (hat.frame (fun b h1 h2 => hblk b (by omega) fun he => ?_) (Nat.le_refl _) (Nat.le_refl _)) (by omega) (by omega) (fun g' hg' => ?_)
  · have : g = g' := by simpa [Value.ownBlock] using hg'
    subst this
    rcases hat7 with h | h
    · exact .inl h
    · exact .inr (by omega)
  · have := hlt b he
    omega
  · have : g = g' := by simpa [Value.ownBlock] using hg'
    subst this
    rcases hat7 with h | h
    · exact .inl (by have := (hlt g h).2; omega)
    · exact .inr (by omega)
/-! ### A row's values as a list -/
theorem FlatV.append {w : World} {lo B : Nat} {row : Value} {xs ys : List Value} {cs ds : List Cl} (h : FlatV w lo B row xs cs) (h' : FlatV w lo B row ys ds) : FlatV w lo B row (xs ++ ys) (cs ++ ds) := by
  obtain ⟨A, n, c, u, l, e, h⟩ := h
  obtain ⟨A', n', c', u', l', e', h'⟩ := h'
  have hx : ∀ {i : Nat} {x : Cl}, (cs ++ ds)[i]? = some x → (i < cs.length ∧ cs[i]? = some x) ∨ (¬ i < cs.length ∧ ds[i - cs.length]? = some x) := fun {i x} hi => by
    by_cases hlt : i < cs.length
    · rw [List.getElem?_append_left hlt] at hi; exact .inl ⟨hlt, hi⟩
    · rw [List.getElem?_append_right (by omega)] at hi; exact .inr ⟨hlt, hi⟩
  refine ⟨fun i => if i < cs.length then A i else A' (i - cs.length), fun i => if i < cs.length then n i else n' (i - cs.length), fun i => if i < cs.length then c i else c' (i - cs.length), fun i => if i < cs.length then u i else u' (i - cs.length), fun i => if i < cs.length then l i else l' (i - cs.length), fun i => if i < cs.length then e i else e' (i - cs.length), ⟨?_, fun i x hi => ?_, fun i x hi => ?_, fun i x hi r v hv => ?_⟩⟩
  · rw [List.length_append, List.length_append, h.len, h'.len]; omega
  · rcases hx hi with ⟨h1, h2⟩ | ⟨h1, h2⟩ <;> simp only [h1, if_true, if_false]
    · exact h.at_ i x h2
    · exact h'.at_ _ x h2
  · rcases hx hi with ⟨h1, h2⟩ | ⟨h1, h2⟩ <;> simp only [h1, if_true, if_false]
    · exact h.bnd i x h2
    · exact h'.bnd _ x h2
  · have hr : r < 6 := by
      have := (Array.getElem?_eq_some_iff.1 hv).1
      simpa using this
    rcases hx hi with ⟨h1, h2⟩ | ⟨h1, h2⟩ <;> simp only [h1, if_true, if_false] at hv
    · rw [List.getElem?_append_left (by rw [h.len]; omega)]
      exact h.get i x h2 r v hv
    · rw [List.getElem?_append_right (by rw [h.len]; omega), h.len, show i * 6 + r - cs.length * 6 = (i - cs.length) * 6 + r by omega]
      exact h'.get _ x h2 r v hv
theorem vCells_one (A : Option Addr) (n c : Nat) (u kd de rep ci : Int) : ∀ v ∈ (vCells A n c u kd de rep ci).toList, v.oneCell' = true := by
  simp [Value.oneCell']
theorem vl_list {w : World} {lo B b o : Nat} {row : Value} (hrow : ∀ g, row.ownBlock = some g → g < lo ∨ B ≤ g) {ds : List Cl} (h : ∀ i x, ds[i]? = some x → VlIn w lo B b (o + i * 6) x) :
    ∀ k, k ≤ ds.length → ∃ ys, ys.length = k * 6 ∧ (∀ j u, ys[j]? = some u → w.cell? ⟨b, o + j, none⟩ = some u) ∧ (∀ u ∈ ys, u.oneCell' = true) ∧ FlatV w lo B row ys (ds.take k) := by
  intro k
  induction k with
  | zero => intro _; exact ⟨[], rfl, fun j u hj => by simp at hj, fun u hu => by simp at hu, by simpa using FlatV.nil w lo B row⟩
  | succ k ih =>
    intro hk
    obtain ⟨ys, h1, h2, h3, h4⟩ := ih (by omega)
    have hx : ds[k]? = some ds[k] := List.getElem?_eq_getElem (by omega)
    obtain ⟨A, n, c, u, hv, c0, c1, c2, c3, c4, c5⟩ := h k _ hx
    refine ⟨ys ++ (vCells A n c u (kdOf ds[k].null ds[k].kind) ds[k].de ds[k].rep (65535 - ds[k].col)).toList, by rw [List.length_append, h1]; simp; omega, fun j v hj => ?_, fun v hv => ?_, ?_⟩
    · by_cases hlt : j < ys.length
      · rw [List.getElem?_append_left hlt] at hj
        exact h2 j v hj
      · rw [List.getElem?_append_right (by omega)] at hj
        have hr : j - ys.length < 6 := by
          have := (List.getElem?_eq_some_iff.1 hj).1
          simpa using this
        have hjj : j = k * 6 + (j - ys.length) := by omega
        generalize j - ys.length = r at *
        subst hjj
        rw [← Nat.add_assoc]
        rcases (by omega : r = 0 ∨ r = 1 ∨ r = 2 ∨ r = 3 ∨ r = 4 ∨ r = 5) with rfl | rfl | rfl | rfl | rfl | rfl <;> simp at hj <;> subst hj <;> assumption
    · rcases List.mem_append.1 hv with hv | hv
      · exact h3 v hv
      · exact vCells_one _ _ _ _ _ _ _ _ v hv
    · rw [List.take_add_one, hx]
      exact h4.snoc hv (Nat.le_refl _) (Nat.le_refl _) hrow
/-- The values of a row, as a list that append takes. -/
theorem RowIn.list {w : World} {lo B : Nat} {A : Option Addr} {n c : Nat} {ds : List Cl} (h : RowIn w lo B A n c ds) {row : Value} (hrow : ∀ g, row.ownBlock = some g → g < lo ∨ B ≤ g) :
    ∃ ys, ys.length = n * 6 ∧ (A = none → n = 0) ∧ (∀ ad, A = some ad → ∀ j u, ys[j]? = some u → w.cell? (ad.add j) = some u) ∧ (∀ u ∈ ys, u.oneCell' = true) ∧ FlatV w lo B row ys ds := by
  obtain ⟨h1, h2, h3⟩ := h
  by_cases hn : n = 0
  · subst hn
    have := List.eq_nil_of_length_eq_zero h1
    subst this
    exact ⟨[], rfl, fun _ => rfl, fun ad _ j u hj => by simp at hj, fun u hu => by simp at hu, FlatV.nil w lo B row⟩
  · obtain ⟨b, o, rfl, hb, h⟩ := h3 (by omega)
    obtain ⟨ys, k1, k2, k3, k4⟩ := vl_list hrow h ds.length (Nat.le_refl _)
    rw [List.take_of_length_le (Nat.le_refl _)] at k4
    refine ⟨ys, by rw [k1, h1], fun h => (by cases h), fun ad had j u hj => ?_, k3, k4⟩
    injection had with had
    subst had
    rw [Addr.add_lit]
    exact k2 j u hj
end Go.Proofs.YtglgclkgppomiaaGreat

namespace Go.Proofs.YtglgclkgppomiaaGreat
open Go Go.RowKit

structure LsAt (w : World) (B : Nat) (A0 : Option Addr) (n c : Nat) (ls : List (List Cl)) (A : Nat → Option Addr) (cc : Nat → Nat) : Prop where
  len : ls.length = n ∧ n ≤ c
  at_ : ∀ k l, ls[k]? = some l → ∃ b o, A0 = some ⟨b, o, none⟩ ∧ b < B ∧ w.cell? ⟨b, o + k, none⟩ = some (.slice (A k) l.length (cc k)) ∧ ClsAt w B (A k) l.length (cc k) l
theorem LsAt.mono {w w' : World} {B B' : Nat} {A0 : Option Addr} {n c : Nat} {ls : List (List Cl)} {A : Nat → Option Addr} {cc : Nat → Nat} (h : LsAt w B A0 n c ls A cc) (hb : Below B w w') (hB : B ≤ B') : LsAt w' B' A0 n c ls A cc :=
  ⟨h.len, fun k l hk => by
    obtain ⟨b, o, h1, h2, h3, h4⟩ := h.at_ k l hk
    exact ⟨b, o, h1, by omega, (bcell hb h2).trans h3, h4.mono hb hB⟩⟩

set_option maxRecDepth 100000 in
set_option maxHeartbeats 2000000 in
theorem fits35 (ls : List (List Cl)) (A0 : Option Addr) (n c : Nat) (A : Nat → Option Addr) (cc : Nat → Nat) (w : World) (hls : LsAt w w.heap.size A0 n c ls A cc) (hn : n ≤ 2000000000) (hts : ∀ l ∈ ls, l.length ≤ 2000000000 ∧ ∀ x ∈ l, x.text.size ≤ 2000000000) :
    Calls Tryz.prog 35 #[.slice A0 n c] w fun e w' => e = .returned (.bool true) ∧ Below w.heap.size w w' := by
  have HLS := Lib.hid hls
  have HTS := Lib.hid hts
  have hlen := Lib.hid hls.len
  have h1 : decide ((2147483647 : Int) < (n : Int)) = false := by simp; omega
  have h2 : decide (2147483647 < n) = false := by simp; omega
  have h3 : ¬ (2147483647 < n) := by omega
  clear hls hts
  go_enter Tryz.func35, Tryz.ntmps35
  go_wp2_with fail
  go_loopw [10] (fun i wr => ∃ (j : Nat), j ≤ n ∧ i = .int .i64 j ∧ Below w.heap.size w wr) (fun i _ => n - (intOf i).toNat)
  case atStart => exact ⟨0, Nat.zero_le _, rfl, Below.refl _ _⟩
  case round =>
    obtain ⟨j, hj, rfl, hb5⟩ := hrel
    have HB5 := Lib.hid hb5
    by_cases hlt : j < n
    · obtain ⟨l, hl⟩ : ∃ l, ls[j]? = some l := ⟨_, List.getElem?_eq_getElem (by have := hlen.out; omega)⟩
      obtain ⟨b, o, rfl, hbl, hcell, hcl⟩ := HLS.out.at_ j l hl
      have hc0 := (bcell hb5 hbl).trans hcell
      have hj0 : (0 : Int) ≤ (j : Int) := Int.natCast_nonneg _
      have hj1 : (j : Int) < (n : Int) := by omega
      have ht := HTS.out l (List.mem_of_getElem? hl)
      have HC := Lib.hid (fits34 l (A j) _ (cc j) wr (hcl.mono hb5 hb5.size) ht.1 ht.2)
      clear hcell hl hb5 hcl ht
      go_wp2_with fail
      refine HC.out.mono ?_
      rintro e w6 ⟨rfl, hb6⟩
      have HB6 := Lib.hid (HB5.out.trans (hb6.mono HB5.out.size))
      clear hb6
      go_wp2_with fail
      refine ⟨⟨j + 1, by omega, by go_num, HB6.out⟩, by simp [intOf]; omega⟩
    · obtain rfl : j = n := by omega
      clear hb5
      go_wp2_with fail
      go_ret
      exact ⟨rfl, HB5.out⟩
end Go.Proofs.YtglgclkgppomiaaGreat

namespace Go.Proofs.YtglgclkgppomiaaGreat
open Go Go.RowKit

/-- The call hands back rows of these values, all in blocks of its own. -/
def MakesRows (ls : List (List Cl)) (w : World) (e : Ending) (w' : World) : Prop := ∃ A0 c A cc, e = .returned (.slice A0 ls.length c) ∧ VsAt w' w.heap.size w'.heap.size A0 ls.length c ls A cc ∧ Below w.heap.size w w'

set_option maxRecDepth 100000 in
set_option maxHeartbeats 4000000 in
theorem columns62 (ls : List (List Cl)) (A0 : Option Addr) (n c : Nat) (A : Nat → Option Addr) (cc : Nat → Nat) (w : World) (hls : LsAt w w.heap.size A0 n c ls A cc) (hok : ∀ l ∈ ls, l.length ≤ 1000000000 ∧ ∀ x ∈ l, ClOk x ∧ x.text.size ≤ 1000000000000) (hn : n ≤ 1000000000) :
    Calls Tryz.prog 62 #[.slice A0 n c] w (MakesRows ls w) := by
  have HLS := Lib.hid hls
  have HOK := Lib.hid hok
  obtain ⟨i62, j1, j2, j3, j4⟩ := info_parts info62
  have J1 := Lib.hid j1
  have J2 := Lib.hid j2
  have J3 := Lib.hid j3
  have J4 := Lib.hid j4
  have HLEN := Lib.hid hls.len.1
  clear hls hok j1 j2 j3 j4
  go_enter Tryz.func62, Tryz.ntmps62
  go_wp2_with fail
  go_loopw [3, 8] (fun v i wr => ∃ (j : Nat) (xs : List Value), j ≤ n ∧ i = .int .i64 j ∧ wr.ownsRow w.heap.size 62 1 v j xs ∧ FlatR wr w.heap.size wr.heap.size v xs (ls.take j) ∧ Below w.heap.size w wr) (fun _ i _ => n - (intOf i).toNat)
  case atStart => exact ⟨0, [], Nat.zero_le _, rfl, World.ownsRow_nil _ _ _ _, FlatR.nil _ _ _ _, Below.refl _ _⟩
  case round =>
    obtain ⟨j, xs, hj, rfl, hown, hflat, hb5⟩ := hrel
    have HOWN := Lib.hid hown
    have HFLAT := Lib.hid hflat
    have HB5 := Lib.hid hb5
    clear hown hflat
    by_cases hlt : j < n
    · obtain ⟨l, hl⟩ : ∃ l, ls[j]? = some l := ⟨_, List.getElem?_eq_getElem (by have := HLEN.out; omega)⟩
      have HL := Lib.hid hl
      have hcA := (HLS.out.mono hb5 hb5.size).at_ j l hl
      obtain ⟨b, o, rfl, hbl, hcell, hcl⟩ := hcA
      have hok := HOK.out l (List.mem_of_getElem? hl)
      have HC := Lib.hid (row53 l (A j) l.length (cc j) wr hcl hok.2 hok.1)
      have hj0 : (0 : Int) ≤ (j : Int) := Int.natCast_nonneg _
      have hj1 : (j : Int) < (n : Int) := by omega
      have hsz5 := hb5.size
      clear hl hcl hok hb5
      go_wp2_with fail
      refine HC.out.mono ?_
      rintro e w6 ⟨A', c', rfl, hrow, hb6⟩
      have HB6 := Lib.hid hb6
      have HROW := Lib.hid hrow
      have HOWN2 := Lib.hid (HOWN.out.kept (row := none) ⟨hb6.os, hb6.tape, hb6.output, hb6.size, fun k hk _ => hb6.block k hk⟩ (by cases u3.ownBlock <;> simp))
      clear hb6 hrow
      go_wp2_with (at_builtin; refine wpList_append_lies _ rfl _ _ 97 rfl w.heap.size 62 i62 _ 1 24 Tryz.underlying97 J1.out J2.out J3.out J4.out rfl (by decide) u3 j xs (by rfl) (HOWN2.out.alloc _) ⟨w6.heap.size, 0, none⟩ 1 1 [.slice A' l.length c'] (by rfl) rfl (World.news_of_block (heap_alloc_new w6 _)) (by simp [Value.oneCell']) (by decide) (by simp only [maxLen]; omega) (by omega) (by have := HB6.out.size; rw [size_alloc1]; omega) _ rfl ?_; intro g cap w' hown' hgrow hat hlt')
      have hgr' := hat.imp_right (fun h => h.trans (size_alloc1 _ _))
      have hflat := step_flatR (cap := cap) HOWN.out HFLAT.out (Nat.le_refl _) hsz5 HB6.out HROW.out (Nat.le_refl _) (Nat.le_refl _) hgrow hgr'
      have hb9 : Below w.heap.size w w' := (HB5.out.trans (HB6.out.mono hsz5)).trans (below_grownRow_alloc hgrow (Nat.le_trans hsz5 HB6.out.size) (fun k hk => (HOWN.out.lt k hk).1))
      refine ⟨⟨j + 1, _, by omega, by go_num, hown', ?_, hb9⟩, by simp [intOf]; omega⟩
      rw [List.take_add_one, HL.out]
      exact hflat
    · obtain rfl : j = n := by omega
      go_wp2_with fail
      go_ret
      have hcl := HLEN.out
      obtain ⟨A0', c', A', cc', rfl, hvs⟩ := vsAt_owns (ls := ls) HOWN.out hcl (by have := HFLAT.out; rwa [List.take_of_length_le (show ls.length ≤ j by omega)] at this) (Nat.le_refl _) (Nat.le_refl _)
      exact ⟨A0', c', A', cc', by rw [hcl]; rfl, by rw [hcl]; exact hvs, HB5.out⟩
end Go.Proofs.YtglgclkgppomiaaGreat

namespace Go.Proofs.YtglgclkgppomiaaGreat
open Go Go.RowKit

theorem flatten_take {α : Type} {ls : List (List α)} {j : Nat} {l : List α} (h : ls[j]? = some l) : (ls.take (j + 1)).flatten = (ls.take j).flatten ++ l := by
  rw [List.take_add_one, h]; simp
theorem flatten_take_le {α : Type} (ls : List (List α)) (j : Nat) : (ls.take j).flatten.length ≤ ls.flatten.length := by
  have h : ls.flatten = (ls.take j).flatten ++ (ls.drop j).flatten := by rw [← List.flatten_append, List.take_append_drop]
  rw [h, List.length_append]; omega
/-- The call hands back a row of these values, in blocks from lo on. -/
def GivesIn (base lo : Nat) (cs : List Cl) (w : World) (e : Ending) (w' : World) : Prop := ∃ A c, e = .returned (.slice A cs.length c) ∧ RowIn w' lo w'.heap.size A cs.length c cs ∧ Below base w w'

set_option maxRecDepth 100000 in
set_option maxHeartbeats 4000000 in
theorem append81r (base lo B lo0 n0 : Nat) (v0 : Value) (xs0 : List Value) (cs0 : List Cl) (ls : List (List Cl)) (A0 : Option Addr) (n c : Nat) (A : Nat → Option Addr) (cc : Nat → Nat) (w : World)
    (hown : w.ownsRow base 76 6 v0 n0 xs0) (hflat : FlatV w lo0 w.heap.size v0 xs0 cs0) (hcs : cs0.length = n0) (hvs : VsAt w lo B A0 n c ls A cc) (hB : B ≤ w.heap.size) (hbase : base ≤ w.heap.size) (hlo : lo0 ≤ lo) (hlb : lo0 ≤ base)
    (hav : ∀ g, v0.ownBlock = some g → g < lo ∨ B ≤ g) (hn : n ≤ 1000000000) (hlen : n0 + ls.flatten.length ≤ 1000000000) :
    Calls Tryz.prog 81 #[v0, .slice A0 n c] w (GivesIn base lo0 (cs0 ++ ls.flatten) w) := by
  have HOWN0 := Lib.hid hown
  have HFLAT0 := Lib.hid hflat
  have HCS := Lib.hid hcs
  have HVS := Lib.hid hvs
  have HBW := Lib.hid hB
  have HBASE := Lib.hid hbase
  have HLO := Lib.hid (And.intro hlo hlb)
  have HAV := Lib.hid hav
  have HLEN := Lib.hid hvs.len.1
  have HLN := Lib.hid hlen
  obtain ⟨i76, j1, j2, j3, j4⟩ := info_parts info76
  have J1 := Lib.hid j1
  have J2 := Lib.hid j2
  have J3 := Lib.hid j3
  have J4 := Lib.hid j4
  clear hown hflat hcs hvs hB hbase hlo hlb hav hlen j1 j2 j3 j4
  go_enter Tryz.func81, Tryz.ntmps81
  go_wp2_with fail
  go_loopw [0, 9] (fun v i wr => ∃ (j m : Nat) (xs : List Value), j ≤ n ∧ i = .int .i64 j ∧ Hid (m = n0 + (ls.take j).flatten.length) ∧ wr.ownsRow base 76 6 v m xs ∧ FlatV wr lo0 wr.heap.size v xs (cs0 ++ (ls.take j).flatten) ∧ (∀ g, v.ownBlock = some g → g < lo ∨ B ≤ g) ∧ Below base w wr ∧ (∀ b, lo ≤ b → b < B → wr.heap[b]? = w.heap[b]?)) (fun _ i _ => n - (intOf i).toNat)
  case atStart => exact ⟨0, n0, xs0, Nat.zero_le _, rfl, Lib.hid (by simp), HOWN0.out, by simpa using HFLAT0.out, HAV.out, Below.refl _ _, fun _ _ _ => rfl⟩
  case round =>
    obtain ⟨j, m, xs, hj, rfl, HM, hown, hflat, hav, hb5, hk5⟩ := hrel
    have HOWN := Lib.hid hown
    have HFLAT := Lib.hid hflat
    have HAV5 := Lib.hid hav
    have HB5 := Lib.hid hb5
    have HK5 := Lib.hid hk5
    clear hown hflat hav
    by_cases hlt : j < n
    · obtain ⟨l, hl⟩ : ∃ l, ls[j]? = some l := ⟨_, List.getElem?_eq_getElem (by have := HLEN.out; omega)⟩
      have HL := Lib.hid hl
      obtain ⟨b, o, rfl, hb, hcell, hrow⟩ := (HVS.out.frame hk5 (Nat.le_refl _) (Nat.le_refl _)).at_ j l hl
      obtain ⟨ys, y1, y2, y3, y4, y5⟩ := hrow.list (row := u0) HAV5.out
      have Y1 := Lib.hid y1
      have Y2 := Lib.hid y2
      have Y3 := Lib.hid y3
      have Y4 := Lib.hid y4
      have Y5 := Lib.hid y5
      have hj0 : (0 : Int) ≤ (j : Int) := Int.natCast_nonneg _
      have hj1 : (j : Int) < (n : Int) := by omega
      have hsz := hb5.size
      have hbw5 : base ≤ wr.heap.size := Nat.le_trans HBASE.out hsz
      have hml : m + l.length ≤ 1000000000 := by
        have h1 := flatten_take_le ls (j + 1)
        have h2 : (ls.take (j + 1)).flatten.length = (ls.take j).flatten.length + l.length := by rw [flatten_take HL.out, List.length_append]
        have := HM.out
        have := HLN.out
        omega
      have HML := Lib.hid hml
      clear hl hrow y1 y2 y3 y4 y5 hb5 hk5 hml
      go_wp2_with (at_builtin; refine wpList_append3 _ rfl _ _ 63 62 rfl base 76 76 i76 _ 6 40 Tryz.underlying63 Tryz.underlying62 J1.out J2.out J3.out J4.out rfl (by decide) u0 m xs (by rfl) HOWN.out (A j) l.length (cc j) ys (by rfl) Y2.out Y1.out Y3.out Y4.out (by have := HML.out; simp only [maxLen]; omega) (by have := HML.out; omega) hbw5 ?_; intro v' w' hown' hgrow' hat')
      have hlt0 := HOWN.out.lt
      have hblk : ∀ q, q < wr.heap.size → u0.ownBlock ≠ some q → w'.heap[q]? = wr.heap[q]? := fun q h1 h2 => hgrow'.block q h1 (fun he => h2 he.symm)
      have hb6 : Below base w w' := HB5.out.trans (below_grownRow hgrow' hbw5 (fun k hk => (HOWN.out.lt k hk).1))
      have hnew : ∀ g, v'.ownBlock = some g → u0.ownBlock = some g ∨ wr.heap.size ≤ g := fun g hg => by
        rcases hat' with h | h
        · exact .inl (h ▸ hg)
        · rw [h] at hg; injection hg with hg; exact .inr (by omega)
      refine ⟨⟨j + 1, m + l.length, xs ++ ys, by omega, by go_num, Lib.hid (by rw [flatten_take HL.out, List.length_append, HM.out]; omega), hown', ?_, ?_, hb6, ?_⟩, by simp [intOf]; omega⟩
      · rw [flatten_take HL.out, ← List.append_assoc]
        have hlob : lo0 ≤ lo := HLO.out.1
        have hBs : B ≤ wr.heap.size := Nat.le_trans HBW.out hsz
        have h1 : FlatV w' lo0 w'.heap.size v' xs (cs0 ++ (ls.take j).flatten) := HFLAT.out.frame (fun q _ h2 h3 => hblk q h2 h3) hnew (Nat.le_refl _) hgrow'.size
        have h2 : FlatV w' lo0 w'.heap.size v' ys l := Y5.out.frame (fun q h1 h2 h3 => hblk q (by omega) h3) (fun g hg => (hnew g hg).imp_right (fun h => by omega)) hlob (Nat.le_trans hBs hgrow'.size)
        exact h1.append h2
      · intro g hg
        rcases hnew g hg with h | h
        · exact HAV5.out g h
        · exact .inr (Nat.le_trans (Nat.le_trans HBW.out hsz) h)
      · intro q h1 h2
        refine (hblk q (Nat.lt_of_lt_of_le h2 (Nat.le_trans HBW.out hsz)) (fun he => ?_)).trans (HK5.out q h1 h2)
        have := HAV5.out q he
        omega
    · obtain rfl : j = n := by omega
      go_wp2_with fail
      go_ret
      have hls : ls.take j = ls := List.take_of_length_le (by have := HLEN.out; omega)
      have hflat := HFLAT.out
      have hmm := HM.out
      rw [hls] at hflat hmm
      have hN : (cs0 ++ ls.flatten).length = m := by rw [List.length_append, HCS.out, hmm]
      obtain ⟨A', c', rfl, hrow⟩ := rowIn_owns HOWN.out hN hflat HLO.out.2 (Nat.le_refl _)
      exact ⟨A', c', by rw [hN]; rfl, by rw [hN]; exact hrow, HB5.out⟩
end Go.Proofs.YtglgclkgppomiaaGreat
