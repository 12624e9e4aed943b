/- FnRowsMade: a row that is made of columns has their cells, one column behind the other. No condition. -/
import Derived.Test.YtglgclkgppomiaaGreatYMade07
import Derived.Test.YtglgclkgppomiaaGreatZ25
set_option linter.unusedVariables false
set_option linter.unusedSimpArgs false
namespace Go.Proofs.YtglgclkgppomiaaGreat
open Go Go.RowKit Go.ChangeShapes Go.WideShapes Go.ChangeAt
theorem made_inPlace : (Rows.fnRowsMadeRow.inPlace == Tryz.prog.inPlace 16) = true := by kernel_rfl
theorem made_unfollowed : (Rows.fnRowsMadeRow.unfollowed == Tryz.prog.unfollowed 16) = true := by kernel_rfl
theorem made_recurses : (Rows.fnRowsMadeRow.recurses == Tryz.prog.recurses 16) = true := by kernel_rfl
theorem made_varsNamed : (Rows.fnRowsMadeRow.named == Tryz.prog.varsNamed 16) = true := by kernel_rfl
theorem made_closed : joinedFacts Tryz.prog 16 Tryz.f16 Rows.fnRowsMadeSpec Rows.fnRowsMadeRow = true :=
  facts_all (by kernel_rfl) factLaid factMaps (by kernel_rfl) (by kernel_rfl) (by kernel_rfl) (by rw [factStops]; rfl) (by kernel_rfl) (by rw [factKnobs]; rfl) made_inPlace made_unfollowed made_recurses made_varsNamed (by kernel_rfl) (by kernel_rfl) (by kernel_rfl) (by kernel_rfl) (by kernel_rfl) (by kernel_rfl) (by kernel_rfl) (by kernel_rfl) (by kernel_rfl) (by rw [factKeys]; rfl) (by kernel_rfl) factHeard factEnter (by rw [factLifts]; rfl) (by rw [factMake]; rfl) (by kernel_rfl) (by kernel_rfl) (by kernel_rfl) (by kernel_rfl)
theorem made_named : Tryz.prog.funcNamed Rows.fnRowsMadeRow.func = some 16 := by kernel_rfl
theorem made_inst : Tryz.f16.isInstance Tryz.prog Rows.fnRowsMadeRow.origin Rows.fnRowsMadeRow.targs := of_decide_eq_true (by kernel_rfl)
theorem made_wrap : Tryz.f16.isWrapper Tryz.prog Rows.fnRowsMadeRow.wrapper Rows.fnRowsMadeRow.mainSum := by
  unfold Func.isWrapper
  first | (rw [if_pos (by decide +kernel)]; kernel_rfl) | (rw [if_neg (by decide +kernel)]; exact ⟨rfl, rfl⟩)
set_option maxRecDepth 100000 in
theorem made_lifted (os : Os) (started : os.Started) (H : Type) (enc : TypeId × Value → H) :
    ReturnsInHanded {} Tryz.checked os 16 .any (Rows.fnRowsMadeSpec.pre6 enc Tryz.prog Tryz.f16 Rows.fnRowsMadeRow.domain false) (Rows.fnRowsMadeSpec.post enc Tryz.prog Tryz.f16 false true false false) := by
  refine returnsInHanded_of_change (C := Tryz.checked) ownKnobs started (by kernel_rfl) Tryz.func16
    (ChangeSpec.witness6 (enc := enc) (C := Tryz.checked) false ⟨#[], #[.slice none 0 0], []⟩ 8 (by kernel_rfl) (by kernel_rfl) (by kernel_rfl) (by kernel_rfl)) ?_
  intro W base args ds gs before hval hW _ _
  exact contract_s 16 Tryz.f16 Rows.fnRowsMadeSpec rfl rfl rfl (fun _ _ => rfl) (fun _ _ _ _ _ _ _ hx => law16 hx) H enc W base args ds gs before hval hW
theorem made_holds : Rows.FnRowsMadeSaid :=
  OpenClaim.holds_of_wide 16 Tryz.f16 rfl rfl rfl rfl rfl rfl rfl ⟨rfl, rfl, rfl, rfl, rfl⟩ rfl rfl rfl rfl rfl made_named Tryz.func16 made_closed
    made_inst made_wrap (fun os started H enc _ => made_lifted os started H enc)
end Go.Proofs.YtglgclkgppomiaaGreat
