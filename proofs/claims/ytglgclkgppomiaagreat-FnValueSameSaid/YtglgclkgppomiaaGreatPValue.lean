/- FnValueSame: values are equal just if they are of one kind and the same, whatever their levels and columns are, and deeply equal just if these are the same, too. No condition. -/
import Derived.Test.YtglgclkgppomiaaGreatYValue07
import Derived.Test.YtglgclkgppomiaaGreatZ25
set_option linter.unusedVariables false
set_option linter.unusedSimpArgs false
namespace Go.Proofs.YtglgclkgppomiaaGreat
open Go Go.RowKit Go.ChangeShapes Go.WideShapes Go.ChangeAt
theorem value_inPlace : (Rows.fnValueSameRow.inPlace == Tryz.prog.inPlace 17) = true := by kernel_rfl
theorem value_unfollowed : (Rows.fnValueSameRow.unfollowed == Tryz.prog.unfollowed 17) = true := by kernel_rfl
theorem value_recurses : (Rows.fnValueSameRow.recurses == Tryz.prog.recurses 17) = true := by kernel_rfl
theorem value_varsNamed : (Rows.fnValueSameRow.named == Tryz.prog.varsNamed 17) = true := by kernel_rfl
theorem value_closed : joinedFacts Tryz.prog 17 Tryz.f17 Rows.fnValueSameSpec Rows.fnValueSameRow = true :=
  facts_all (by kernel_rfl) factLaid factMaps (by kernel_rfl) (by kernel_rfl) (by kernel_rfl) (by rw [factStops]; rfl) (by kernel_rfl) (by rw [factKnobs]; rfl) value_inPlace value_unfollowed value_recurses value_varsNamed (by kernel_rfl) (by kernel_rfl) (by kernel_rfl) (by kernel_rfl) (by kernel_rfl) (by kernel_rfl) (by kernel_rfl) (by kernel_rfl) (by kernel_rfl) (by rw [factKeys]; rfl) (by kernel_rfl) factHeard factEnter (by rw [factLifts]; rfl) (by rw [factMake]; rfl) (by kernel_rfl) (by kernel_rfl) (by kernel_rfl) (by kernel_rfl)
theorem value_named : Tryz.prog.funcNamed Rows.fnValueSameRow.func = some 17 := by kernel_rfl
theorem value_inst : Tryz.f17.isInstance Tryz.prog Rows.fnValueSameRow.origin Rows.fnValueSameRow.targs := of_decide_eq_true (by kernel_rfl)
theorem value_wrap : Tryz.f17.isWrapper Tryz.prog Rows.fnValueSameRow.wrapper Rows.fnValueSameRow.mainSum := by
  unfold Func.isWrapper
  first | (rw [if_pos (by decide +kernel)]; kernel_rfl) | (rw [if_neg (by decide +kernel)]; exact ⟨rfl, rfl⟩)
set_option maxRecDepth 100000 in
theorem value_lifted (os : Os) (started : os.Started) (H : Type) (enc : TypeId × Value → H) :
    ReturnsInHanded {} Tryz.checked os 17 .any (Rows.fnValueSameSpec.pre6 enc Tryz.prog Tryz.f17 Rows.fnValueSameRow.domain false) (Rows.fnValueSameSpec.post enc Tryz.prog Tryz.f17 false true false false) := by
  refine returnsInHanded_of_change (C := Tryz.checked) ownKnobs started (by kernel_rfl) Tryz.func17
    (ChangeSpec.witness6 (enc := enc) (C := Tryz.checked) false ⟨#[], #[.agg #[.int .i64 0, .int .i64 0, .int .i64 0, .bool false, .int .i64 0, .int .i64 0, .string ⟨#[]⟩], .agg #[.int .i64 0, .int .i64 0, .int .i64 0, .bool false, .int .i64 0, .int .i64 0, .string ⟨#[]⟩]], []⟩ 8 (by kernel_rfl) (by kernel_rfl) (by kernel_rfl) (by kernel_rfl)) ?_
  intro W base args ds gs before hval hW _ _
  exact contract_cc 17 Tryz.f17 Rows.fnValueSameSpec rfl rfl rfl (fun _ _ _ => rfl) (fun _ _ _ hx hy => law17 hx hy) H enc W base args ds gs before hval hW
theorem value_holds : Rows.FnValueSameSaid :=
  OpenClaim.holds_of_wide 17 Tryz.f17 rfl rfl rfl rfl rfl rfl rfl ⟨rfl, rfl, rfl, rfl, rfl⟩ rfl rfl rfl rfl rfl value_named Tryz.func17 value_closed
    value_inst value_wrap (fun os started H enc _ => value_lifted os started H enc)
end Go.Proofs.YtglgclkgppomiaaGreat
