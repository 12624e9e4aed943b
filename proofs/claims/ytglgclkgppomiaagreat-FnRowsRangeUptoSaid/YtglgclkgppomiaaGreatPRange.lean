/- FnRowsRange: Range visits the columns of a row in order, each with its cells. Condition: the arguments' bulk is at most 1048576 (the statement's own bound). -/
import Derived.Test.YtglgclkgppomiaaGreatYRange05
import Derived.Test.YtglgclkgppomiaaGreatZ24
import Derived.Test.YtglgclkgppomiaaGreatZ25
set_option linter.unusedVariables false
set_option linter.unusedSimpArgs false
namespace Go.Proofs.YtglgclkgppomiaaGreat
open Go Go.RowKit Go.ChangeShapes Go.WideShapes Go.ChangeAt
theorem range_inPlace : (Rows.fnRowsRangeUptoRow.inPlace == Tryz.prog.inPlace 14) = true := by kernel_rfl
theorem range_unfollowed : (Rows.fnRowsRangeUptoRow.unfollowed == Tryz.prog.unfollowed 14) = true := by kernel_rfl
theorem range_recurses : (Rows.fnRowsRangeUptoRow.recurses == Tryz.prog.recurses 14) = true := by kernel_rfl
theorem range_varsNamed : (Rows.fnRowsRangeUptoRow.named == Tryz.prog.varsNamed 14) = true := by kernel_rfl
theorem range_closed : joinedFacts Tryz.prog 14 Tryz.f14 (Rows.OpenSpec.upto Rows.fnRowsRangeSpec).bare Rows.fnRowsRangeUptoRow = true :=
  facts_all (by kernel_rfl) factLaid factMaps (by kernel_rfl) (by kernel_rfl) (by kernel_rfl) (by rw [factStops]; rfl) (by kernel_rfl) (by rw [factKnobs]; rfl) range_inPlace range_unfollowed range_recurses range_varsNamed (by kernel_rfl) (by kernel_rfl) (by kernel_rfl) (by kernel_rfl) (by kernel_rfl) (by kernel_rfl) (by kernel_rfl) (by kernel_rfl) (by kernel_rfl) (by rw [factKeys]; rfl) (by kernel_rfl) factHeard factEnter (by rw [factLifts]; rfl) (by rw [factMake]; rfl) (by kernel_rfl) (by kernel_rfl) (by kernel_rfl) (by kernel_rfl)
theorem range_named : Tryz.prog.funcNamed Rows.fnRowsRangeUptoRow.func = some 14 := by kernel_rfl
theorem range_inst : Tryz.f14.isInstance Tryz.prog Rows.fnRowsRangeUptoRow.origin Rows.fnRowsRangeUptoRow.targs := of_decide_eq_true (by kernel_rfl)
theorem range_wrap : Tryz.f14.isWrapper Tryz.prog Rows.fnRowsRangeUptoRow.wrapper Rows.fnRowsRangeUptoRow.mainSum := by
  unfold Func.isWrapper
  first | (rw [if_pos (by decide +kernel)]; kernel_rfl) | (rw [if_neg (by decide +kernel)]; exact ⟨rfl, rfl⟩)
set_option maxRecDepth 100000 in
theorem range_lifted (os : Os) (started : os.Started) (H : Type) (enc : TypeId × Value → H) (F : Stop.Interp) :
    ReturnsInHanded {} Tryz.checked os 14 .any ((Rows.OpenSpec.upto Rows.fnRowsRangeSpec).pre6 enc Tryz.prog Tryz.f14 Rows.fnRowsRangeUptoRow.domain false) (((Rows.OpenSpec.upto Rows.fnRowsRangeSpec).at F).post enc Tryz.prog Tryz.f14 false true false false) := by
  refine returnsInHanded_of_cond (C := Tryz.checked) (s := (Rows.OpenSpec.upto Rows.fnRowsRangeSpec)) (k := Rows.uptoSmall) rfl ownKnobs started (by kernel_rfl) Tryz.func14
    (OpenSpec.witness (enc := enc) (C := Tryz.checked) (s := (Rows.OpenSpec.upto Rows.fnRowsRangeSpec)) (k := Rows.uptoSmall) rfl false ⟨#[], #[.slice none 0 0, .slice none 0 0], []⟩ 8 (by kernel_rfl) (by kernel_rfl) (by kernel_rfl)
      (x := ([.nil, .nil], [], [])) (by kernel_rfl) rfl (by kernel_rfl)) ?_
  intro W base args ds gs before hval hW _ hk _
  exact contract_fd 14 Tryz.f14 Rows.fnRowsRangeSpec rfl rfl rfl (fun _ _ _ => rfl) (fun _ _ _ _ _ _ _ _ _ => law14) H enc W base args ds gs before hval hW hk
theorem range_holds : Rows.FnRowsRangeUptoSaid :=
  OpenClaim.holds_of_cond 14 Tryz.f14 rfl rfl rfl rfl rfl rfl rfl ⟨rfl, rfl, rfl, rfl, rfl⟩ rfl rfl rfl rfl rfl range_named Tryz.func14 range_closed
    range_inst range_wrap (fun os started H enc _ F => range_lifted os started H enc F)
end Go.Proofs.YtglgclkgppomiaaGreat
