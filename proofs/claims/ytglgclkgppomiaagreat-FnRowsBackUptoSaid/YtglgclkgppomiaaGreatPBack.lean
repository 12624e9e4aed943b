/- FnRowsBack: what has been put together is taken apart into the same cells again. Condition: the arguments' bulk is at most 1048576 (the statement's own bound). -/
import Derived.Test.YtglgclkgppomiaaGreatYBack01
import Derived.Test.YtglgclkgppomiaaGreatZ24
import Derived.Test.YtglgclkgppomiaaGreatZ25
set_option linter.unusedVariables false
set_option linter.unusedSimpArgs false
namespace Go.Proofs.YtglgclkgppomiaaGreat
open Go Go.RowKit Go.ChangeShapes Go.WideShapes Go.ChangeAt
theorem back_inPlace : (Rows.fnRowsBackUptoRow.inPlace == Tryz.prog.inPlace 3) = true := by kernel_rfl
theorem back_unfollowed : (Rows.fnRowsBackUptoRow.unfollowed == Tryz.prog.unfollowed 3) = true := by kernel_rfl
theorem back_recurses : (Rows.fnRowsBackUptoRow.recurses == Tryz.prog.recurses 3) = true := by kernel_rfl
theorem back_varsNamed : (Rows.fnRowsBackUptoRow.named == Tryz.prog.varsNamed 3) = true := by kernel_rfl
theorem back_closed : joinedFacts Tryz.prog 3 Tryz.f3 (Rows.OpenSpec.upto Rows.fnRowsBackSpec).bare Rows.fnRowsBackUptoRow = true :=
  facts_all (by kernel_rfl) factLaid factMaps (by kernel_rfl) (by kernel_rfl) (by kernel_rfl) (by rw [factStops]; rfl) (by kernel_rfl) (by rw [factKnobs]; rfl) back_inPlace back_unfollowed back_recurses back_varsNamed (by kernel_rfl) (by kernel_rfl) (by kernel_rfl) (by kernel_rfl) (by kernel_rfl) (by kernel_rfl) (by kernel_rfl) (by kernel_rfl) (by kernel_rfl) (by rw [factKeys]; rfl) (by kernel_rfl) factHeard factEnter (by rw [factLifts]; rfl) (by rw [factMake]; rfl) (by kernel_rfl) (by kernel_rfl) (by kernel_rfl) (by kernel_rfl)
theorem back_named : Tryz.prog.funcNamed Rows.fnRowsBackUptoRow.func = some 3 := by kernel_rfl
theorem back_inst : Tryz.f3.isInstance Tryz.prog Rows.fnRowsBackUptoRow.origin Rows.fnRowsBackUptoRow.targs := of_decide_eq_true (by kernel_rfl)
theorem back_wrap : Tryz.f3.isWrapper Tryz.prog Rows.fnRowsBackUptoRow.wrapper Rows.fnRowsBackUptoRow.mainSum := by
  unfold Func.isWrapper
  first | (rw [if_pos (by decide +kernel)]; kernel_rfl) | (rw [if_neg (by decide +kernel)]; exact ⟨rfl, rfl⟩)
set_option maxRecDepth 100000 in
theorem back_lifted (os : Os) (started : os.Started) (H : Type) (enc : TypeId × Value → H) (F : Stop.Interp) :
    ReturnsInHanded {} Tryz.checked os 3 .any ((Rows.OpenSpec.upto Rows.fnRowsBackSpec).pre6 enc Tryz.prog Tryz.f3 Rows.fnRowsBackUptoRow.domain false) (((Rows.OpenSpec.upto Rows.fnRowsBackSpec).at F).post enc Tryz.prog Tryz.f3 false true false false) := by
  refine returnsInHanded_of_cond (C := Tryz.checked) (s := (Rows.OpenSpec.upto Rows.fnRowsBackSpec)) (k := Rows.uptoSmall) rfl ownKnobs started (by kernel_rfl) Tryz.func3
    (OpenSpec.witness (enc := enc) (C := Tryz.checked) (s := (Rows.OpenSpec.upto Rows.fnRowsBackSpec)) (k := Rows.uptoSmall) rfl false ⟨#[], #[.slice none 0 0, .slice none 0 0], []⟩ 8 (by kernel_rfl) (by kernel_rfl) (by kernel_rfl)
      (x := ([.nil, .nil], [], [])) (by kernel_rfl) rfl (by kernel_rfl)) ?_
  intro W base args ds gs before hval hW _ hk _
  exact contract_fd 3 Tryz.f3 Rows.fnRowsBackSpec rfl rfl rfl (fun _ _ _ => rfl) (fun _ _ _ _ _ _ _ _ _ => law3) H enc W base args ds gs before hval hW hk
theorem back_holds : Rows.FnRowsBackUptoSaid :=
  OpenClaim.holds_of_cond 3 Tryz.f3 rfl rfl rfl rfl rfl rfl rfl ⟨rfl, rfl, rfl, rfl, rfl⟩ rfl rfl rfl rfl rfl back_named Tryz.func3 back_closed
    back_inst back_wrap (fun os started H enc _ F => back_lifted os started H enc F)
end Go.Proofs.YtglgclkgppomiaaGreat
