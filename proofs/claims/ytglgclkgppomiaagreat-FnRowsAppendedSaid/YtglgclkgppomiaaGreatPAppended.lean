/- FnRowsAppended: one to which columns are appended has them behind its own cells. No condition. -/
import Derived.Test.YtglgclkgppomiaaGreatYAppended07
import Derived.Test.YtglgclkgppomiaaGreatZ25
set_option linter.unusedVariables false
set_option linter.unusedSimpArgs false
namespace Go.Proofs.YtglgclkgppomiaaGreat
open Go Go.RowKit Go.ChangeShapes Go.WideShapes Go.ChangeAt
theorem appended_inPlace : (Rows.fnRowsAppendedRow.inPlace == Tryz.prog.inPlace 15) = true := by kernel_rfl
theorem appended_unfollowed : (Rows.fnRowsAppendedRow.unfollowed == Tryz.prog.unfollowed 15) = true := by kernel_rfl
theorem appended_recurses : (Rows.fnRowsAppendedRow.recurses == Tryz.prog.recurses 15) = true := by kernel_rfl
theorem appended_varsNamed : (Rows.fnRowsAppendedRow.named == Tryz.prog.varsNamed 15) = true := by kernel_rfl
theorem appended_closed : joinedFacts Tryz.prog 15 Tryz.f15 Rows.fnRowsAppendedSpec Rows.fnRowsAppendedRow = true :=
  facts_all (by kernel_rfl) factLaid factMaps (by kernel_rfl) (by kernel_rfl) (by kernel_rfl) (by rw [factStops]; rfl) (by kernel_rfl) (by rw [factKnobs]; rfl) appended_inPlace appended_unfollowed appended_recurses appended_varsNamed (by kernel_rfl) (by kernel_rfl) (by kernel_rfl) (by kernel_rfl) (by kernel_rfl) (by kernel_rfl) (by kernel_rfl) (by kernel_rfl) (by kernel_rfl) (by rw [factKeys]; rfl) (by kernel_rfl) factHeard factEnter (by rw [factLifts]; rfl) (by rw [factMake]; rfl) (by kernel_rfl) (by kernel_rfl) (by kernel_rfl) (by kernel_rfl)
theorem appended_named : Tryz.prog.funcNamed Rows.fnRowsAppendedRow.func = some 15 := by kernel_rfl
theorem appended_inst : Tryz.f15.isInstance Tryz.prog Rows.fnRowsAppendedRow.origin Rows.fnRowsAppendedRow.targs := of_decide_eq_true (by kernel_rfl)
theorem appended_wrap : Tryz.f15.isWrapper Tryz.prog Rows.fnRowsAppendedRow.wrapper Rows.fnRowsAppendedRow.mainSum := by
  unfold Func.isWrapper
  first | (rw [if_pos (by decide +kernel)]; kernel_rfl) | (rw [if_neg (by decide +kernel)]; exact ⟨rfl, rfl⟩)
set_option maxRecDepth 100000 in
theorem appended_lifted (os : Os) (started : os.Started) (H : Type) (enc : TypeId × Value → H) :
    ReturnsInHanded {} Tryz.checked os 15 .any (Rows.fnRowsAppendedSpec.pre6 enc Tryz.prog Tryz.f15 Rows.fnRowsAppendedRow.domain false) (Rows.fnRowsAppendedSpec.post enc Tryz.prog Tryz.f15 false true false false) := by
  refine returnsInHanded_of_change (C := Tryz.checked) ownKnobs started (by kernel_rfl) Tryz.func15
    (ChangeSpec.witness6 (enc := enc) (C := Tryz.checked) false ⟨#[], #[.slice none 0 0, .slice none 0 0], []⟩ 8 (by kernel_rfl) (by kernel_rfl) (by kernel_rfl) (by kernel_rfl)) ?_
  intro W base args ds gs before hval hW _ _
  exact contract_ls 15 Tryz.f15 Rows.fnRowsAppendedSpec rfl rfl rfl (fun _ _ _ => rfl) (fun _ _ _ _ _ _ _ _ _ _ _ hx hy => law15 hx hy) H enc W base args ds gs before hval hW
theorem appended_holds : Rows.FnRowsAppendedSaid :=
  OpenClaim.holds_of_wide 15 Tryz.f15 rfl rfl rfl rfl rfl rfl rfl ⟨rfl, rfl, rfl, rfl, rfl⟩ rfl rfl rfl rfl rfl appended_named Tryz.func15 appended_closed
    appended_inst appended_wrap (fun os started H enc _ => appended_lifted os started H enc)
end Go.Proofs.YtglgclkgppomiaaGreat
