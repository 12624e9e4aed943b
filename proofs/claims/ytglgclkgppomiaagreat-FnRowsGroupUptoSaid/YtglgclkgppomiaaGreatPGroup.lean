/- FnRowsGroup: fields in a group have the cells that they have without it. Condition: the arguments' bulk is at most 1048576 (the statement's own bound). -/
import Derived.Test.YtglgclkgppomiaaGreatYGroup02
import Derived.Test.YtglgclkgppomiaaGreatZ24
import Derived.Test.YtglgclkgppomiaaGreatZ25
set_option linter.unusedVariables false
set_option linter.unusedSimpArgs false
namespace Go.Proofs.YtglgclkgppomiaaGreat
open Go Go.RowKit Go.ChangeShapes Go.WideShapes Go.ChangeAt
theorem group_inPlace : (Rows.fnRowsGroupUptoRow.inPlace == Tryz.prog.inPlace 8) = true := by kernel_rfl
theorem group_unfollowed : (Rows.fnRowsGroupUptoRow.unfollowed == Tryz.prog.unfollowed 8) = true := by kernel_rfl
theorem group_recurses : (Rows.fnRowsGroupUptoRow.recurses == Tryz.prog.recurses 8) = true := by kernel_rfl
theorem group_varsNamed : (Rows.fnRowsGroupUptoRow.named == Tryz.prog.varsNamed 8) = true := by kernel_rfl
theorem group_closed : joinedFacts Tryz.prog 8 Tryz.f8 (Rows.OpenSpec.upto Rows.fnRowsGroupSpec).bare Rows.fnRowsGroupUptoRow = true :=
  facts_all (by kernel_rfl) factLaid factMaps (by kernel_rfl) (by kernel_rfl) (by kernel_rfl) (by rw [factStops]; rfl) (by kernel_rfl) (by rw [factKnobs]; rfl) group_inPlace group_unfollowed group_recurses group_varsNamed (by kernel_rfl) (by kernel_rfl) (by kernel_rfl) (by kernel_rfl) (by kernel_rfl) (by kernel_rfl) (by kernel_rfl) (by kernel_rfl) (by kernel_rfl) (by rw [factKeys]; rfl) (by kernel_rfl) factHeard factEnter (by rw [factLifts]; rfl) (by rw [factMake]; rfl) (by kernel_rfl) (by kernel_rfl) (by kernel_rfl) (by kernel_rfl)
theorem group_named : Tryz.prog.funcNamed Rows.fnRowsGroupUptoRow.func = some 8 := by kernel_rfl
theorem group_inst : Tryz.f8.isInstance Tryz.prog Rows.fnRowsGroupUptoRow.origin Rows.fnRowsGroupUptoRow.targs := of_decide_eq_true (by kernel_rfl)
theorem group_wrap : Tryz.f8.isWrapper Tryz.prog Rows.fnRowsGroupUptoRow.wrapper Rows.fnRowsGroupUptoRow.mainSum := by
  unfold Func.isWrapper
  first | (rw [if_pos (by decide +kernel)]; kernel_rfl) | (rw [if_neg (by decide +kernel)]; exact ⟨rfl, rfl⟩)
set_option maxRecDepth 100000 in
theorem group_lifted (os : Os) (started : os.Started) (H : Type) (enc : TypeId × Value → H) (F : Stop.Interp) :
    ReturnsInHanded {} Tryz.checked os 8 .any ((Rows.OpenSpec.upto Rows.fnRowsGroupSpec).pre6 enc Tryz.prog Tryz.f8 Rows.fnRowsGroupUptoRow.domain false) (((Rows.OpenSpec.upto Rows.fnRowsGroupSpec).at F).post enc Tryz.prog Tryz.f8 false true false false) := by
  refine returnsInHanded_of_cond (C := Tryz.checked) (s := (Rows.OpenSpec.upto Rows.fnRowsGroupSpec)) (k := Rows.uptoSmall) rfl ownKnobs started (by kernel_rfl) Tryz.func8
    (OpenSpec.witness (enc := enc) (C := Tryz.checked) (s := (Rows.OpenSpec.upto Rows.fnRowsGroupSpec)) (k := Rows.uptoSmall) rfl false ⟨#[], #[.slice none 0 0, .slice none 0 0], []⟩ 8 (by kernel_rfl) (by kernel_rfl) (by kernel_rfl)
      (x := ([.nil, .nil], [], [])) (by kernel_rfl) rfl (by kernel_rfl)) ?_
  intro W base args ds gs before hval hW _ hk _
  exact contract_fd 8 Tryz.f8 Rows.fnRowsGroupSpec rfl rfl rfl (fun _ _ _ => rfl) (fun _ _ _ _ _ _ _ _ _ => law8) H enc W base args ds gs before hval hW hk
theorem group_holds : Rows.FnRowsGroupUptoSaid :=
  OpenClaim.holds_of_cond 8 Tryz.f8 rfl rfl rfl rfl rfl rfl rfl ⟨rfl, rfl, rfl, rfl, rfl⟩ rfl rfl rfl rfl rfl group_named Tryz.func8 group_closed
    group_inst group_wrap (fun os started H enc _ F => group_lifted os started H enc F)
end Go.Proofs.YtglgclkgppomiaaGreat
