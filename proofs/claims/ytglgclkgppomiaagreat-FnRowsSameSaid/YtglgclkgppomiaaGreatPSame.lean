/- FnRowsSame: a row is equal to itself, and to no one of another number of values, or with other values. No condition. -/
import Derived.Test.YtglgclkgppomiaaGreatYSame07
import Derived.Test.YtglgclkgppomiaaGreatZ25
set_option linter.unusedVariables false
set_option linter.unusedSimpArgs false
namespace Go.Proofs.YtglgclkgppomiaaGreat
open Go Go.RowKit Go.ChangeShapes Go.WideShapes Go.ChangeAt
theorem same_inPlace : (Rows.fnRowsSameRow.inPlace == Tryz.prog.inPlace 18) = true := by kernel_rfl
theorem same_unfollowed : (Rows.fnRowsSameRow.unfollowed == Tryz.prog.unfollowed 18) = true := by kernel_rfl
theorem same_recurses : (Rows.fnRowsSameRow.recurses == Tryz.prog.recurses 18) = true := by kernel_rfl
theorem same_varsNamed : (Rows.fnRowsSameRow.named == Tryz.prog.varsNamed 18) = true := by kernel_rfl
theorem same_closed : joinedFacts Tryz.prog 18 Tryz.f18 Rows.fnRowsSameSpec Rows.fnRowsSameRow = true :=
  facts_all (by kernel_rfl) factLaid factMaps (by kernel_rfl) (by kernel_rfl) (by kernel_rfl) (by rw [factStops]; rfl) (by kernel_rfl) (by rw [factKnobs]; rfl) same_inPlace same_unfollowed same_recurses same_varsNamed (by kernel_rfl) (by kernel_rfl) (by kernel_rfl) (by kernel_rfl) (by kernel_rfl) (by kernel_rfl) (by kernel_rfl) (by kernel_rfl) (by kernel_rfl) (by rw [factKeys]; rfl) (by kernel_rfl) factHeard factEnter (by rw [factLifts]; rfl) (by rw [factMake]; rfl) (by kernel_rfl) (by kernel_rfl) (by kernel_rfl) (by kernel_rfl)
theorem same_named : Tryz.prog.funcNamed Rows.fnRowsSameRow.func = some 18 := by kernel_rfl
theorem same_inst : Tryz.f18.isInstance Tryz.prog Rows.fnRowsSameRow.origin Rows.fnRowsSameRow.targs := of_decide_eq_true (by kernel_rfl)
theorem same_wrap : Tryz.f18.isWrapper Tryz.prog Rows.fnRowsSameRow.wrapper Rows.fnRowsSameRow.mainSum := by
  unfold Func.isWrapper
  first | (rw [if_pos (by decide +kernel)]; kernel_rfl) | (rw [if_neg (by decide +kernel)]; exact ⟨rfl, rfl⟩)
set_option maxRecDepth 100000 in
theorem same_lifted (os : Os) (started : os.Started) (H : Type) (enc : TypeId × Value → H) :
    ReturnsInHanded {} Tryz.checked os 18 .any (Rows.fnRowsSameSpec.pre6 enc Tryz.prog Tryz.f18 Rows.fnRowsSameRow.domain false) (Rows.fnRowsSameSpec.post enc Tryz.prog Tryz.f18 false true false false) := by
  refine returnsInHanded_of_change (C := Tryz.checked) ownKnobs started (by kernel_rfl) Tryz.func18
    (ChangeSpec.witness6 (enc := enc) (C := Tryz.checked) false ⟨#[], #[.slice none 0 0, .slice none 0 0], []⟩ 8 (by kernel_rfl) (by kernel_rfl) (by kernel_rfl) (by kernel_rfl)) ?_
  intro W base args ds gs before hval hW _ _
  exact contract_ll 18 Tryz.f18 Rows.fnRowsSameSpec rfl rfl rfl (fun _ _ _ => rfl) (fun _ _ _ _ _ _ _ _ _ hx hy => law18 hx hy) H enc W base args ds gs before hval hW
theorem same_holds : Rows.FnRowsSameSaid :=
  OpenClaim.holds_of_wide 18 Tryz.f18 rfl rfl rfl rfl rfl rfl rfl ⟨rfl, rfl, rfl, rfl, rfl⟩ rfl rfl rfl rfl rfl same_named Tryz.func18 same_closed
    same_inst same_wrap (fun os started H enc _ => same_lifted os started H enc)
end Go.Proofs.YtglgclkgppomiaaGreat
