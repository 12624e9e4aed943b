/- The walks of spec.isNumber and laws.zzFits3. -/
import Derived.Test.YtglgclkgppomiaaGreatZ02
import Derived.Test.YtglgclkgppomiaaGreatZ15
set_option linter.unusedVariables false
set_option linter.unusedSimpArgs false
namespace Go.Proofs.YtglgclkgppomiaaGreat
open Go Go.RowKit

/-- A cell by value. -/
abbrev clVal (x : Cl) : Value := .agg #[.int .i64 x.col, .int .i64 x.rep, .int .i64 x.de, .bool x.null, .int .i64 x.kind, .int .i64 x.num, .string x.text]
/-- What spec.isNumber says. -/
def isNum (kind num : Int) : Bool :=
  if kind = 4 then decide (bits .and .i64 num 2147483647 ≤ 2139095040) else if kind = 5 then decide (bits .and .i64 num 9223372036854775807 ≤ 9218868437227405312) else true

set_option maxRecDepth 100000 in
theorem fits41 (x : Cl) (w : World) (hx : x.text.size ≤ 2000000000) : Calls Tryz.prog 41 #[clVal x] w fun e w' => e = .returned (.bool true) ∧ Below w.heap.size w w' := by
  have h1 : decide ((2147483647 : Int) < (x.text.size : Int)) = false := by simp; omega
  have h2 : decide (2147483647 < x.text.size) = false := by simp; omega
  have h3 : ¬ (2147483647 < x.text.size) := by omega
  go_enter Tryz.func41, Tryz.ntmps41
  go_wp2_with fail
  go_ret
  exact ⟨rfl, (Below.refl _ _).alloc (Nat.le_refl _) _⟩
set_option maxRecDepth 100000 in
theorem number66 (x : Cl) (w : World) : Calls Tryz.prog 66 #[clVal x] w fun e w' => e = .returned (.bool (isNum x.kind x.num)) ∧ Below w.heap.size w w' := by
  by_cases h4 : x.kind = 4
  · have hb : (x.kind == 4) = true := by simp [h4]
    have HI : Hid (isNum x.kind x.num = decide (bits .and .i64 x.num 2147483647 ≤ 2139095040)) := by show _ = _; unfold isNum; rw [if_pos h4]
    clear h4
    go_enter Tryz.func66, Tryz.ntmps66
    go_wp2_with fail
    go_ret
    exact ⟨ret_bool (by rw [HI.out]), (Below.refl _ _).alloc (Nat.le_refl _) _⟩
  · have hb : (x.kind == 4) = false := by simpa using h4
    by_cases h5 : x.kind = 5
    · have hc : (x.kind == 5) = true := by simp [h5]
      have HI : Hid (isNum x.kind x.num = decide (bits .and .i64 x.num 9223372036854775807 ≤ 9218868437227405312)) := by show _ = _; unfold isNum; rw [if_neg h4, if_pos h5]
      clear h4 h5
      go_enter Tryz.func66, Tryz.ntmps66
      go_wp2_with fail
      go_ret
      exact ⟨ret_bool (by rw [HI.out]), (Below.refl _ _).alloc (Nat.le_refl _) _⟩
    · have hc : (x.kind == 5) = false := by simpa using h5
      have HI : Hid (isNum x.kind x.num = true) := by show _ = _; unfold isNum; rw [if_neg h4, if_neg h5]
      clear h4 h5
      go_enter Tryz.func66, Tryz.ntmps66
      go_wp2_with fail
      go_ret
      exact ⟨ret_bool (by rw [HI.out]), (Below.refl _ _).alloc (Nat.le_refl _) _⟩
end Go.Proofs.YtglgclkgppomiaaGreat
