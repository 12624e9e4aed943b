/- FnRowsDiffer: two rows of a schema have the same cells just if they are the same. Condition: the arguments' bulk is at most 1048576 (the statement's own bound). -/
import Derived.Test.YtglgclkgppomiaaGreatYDiffer01
import Derived.Test.YtglgclkgppomiaaGreatYDiffer02
import Derived.Test.YtglgclkgppomiaaGreatZ25
set_option linter.unusedVariables false
set_option linter.unusedSimpArgs false
namespace Go.Proofs.YtglgclkgppomiaaGreat
open Go Go.RowKit Go.ChangeShapes Go.WideShapes Go.ChangeAt
theorem differ_inPlace : (Rows.fnRowsDifferUptoRow.inPlace == Tryz.prog.inPlace 5) = true := by kernel_rfl
theorem differ_unfollowed : (Rows.fnRowsDifferUptoRow.unfollowed == Tryz.prog.unfollowed 5) = true := by kernel_rfl
theorem differ_recurses : (Rows.fnRowsDifferUptoRow.recurses == Tryz.prog.recurses 5) = true := by kernel_rfl
theorem differ_varsNamed : (Rows.fnRowsDifferUptoRow.named == Tryz.prog.varsNamed 5) = true := by kernel_rfl
theorem differ_closed : joinedFacts Tryz.prog 5 Tryz.f5 (Rows.OpenSpec.upto Rows.fnRowsDifferSpec).bare Rows.fnRowsDifferUptoRow = true :=
  facts_all (by kernel_rfl) factLaid factMaps (by kernel_rfl) (by kernel_rfl) (by kernel_rfl) (by rw [factStops]; rfl) (by kernel_rfl) (by rw [factKnobs]; rfl) differ_inPlace differ_unfollowed differ_recurses differ_varsNamed (by kernel_rfl) (by kernel_rfl) (by kernel_rfl) (by kernel_rfl) (by kernel_rfl) (by kernel_rfl) (by kernel_rfl) (by kernel_rfl) (by kernel_rfl) (by rw [factKeys]; rfl) (by kernel_rfl) factHeard factEnter (by rw [factLifts]; rfl) (by rw [factMake]; rfl) (by kernel_rfl) (by kernel_rfl) (by kernel_rfl) (by kernel_rfl)
theorem differ_named : Tryz.prog.funcNamed Rows.fnRowsDifferUptoRow.func = some 5 := by kernel_rfl
theorem differ_inst : Tryz.f5.isInstance Tryz.prog Rows.fnRowsDifferUptoRow.origin Rows.fnRowsDifferUptoRow.targs := of_decide_eq_true (by kernel_rfl)
theorem differ_wrap : Tryz.f5.isWrapper Tryz.prog Rows.fnRowsDifferUptoRow.wrapper Rows.fnRowsDifferUptoRow.mainSum := by
  unfold Func.isWrapper
  first | (rw [if_pos (by decide +kernel)]; kernel_rfl) | (rw [if_neg (by decide +kernel)]; exact ⟨rfl, rfl⟩)
set_option maxRecDepth 100000 in
theorem differ_lifted (os : Os) (started : os.Started) (H : Type) (enc : TypeId × Value → H) (F : Stop.Interp) :
    ReturnsInHanded {} Tryz.checked os 5 .any ((Rows.OpenSpec.upto Rows.fnRowsDifferSpec).pre6 enc Tryz.prog Tryz.f5 Rows.fnRowsDifferUptoRow.domain false) (((Rows.OpenSpec.upto Rows.fnRowsDifferSpec).at F).post enc Tryz.prog Tryz.f5 false true false false) := by
  refine returnsInHanded_of_cond (C := Tryz.checked) (s := (Rows.OpenSpec.upto Rows.fnRowsDifferSpec)) (k := Rows.uptoSmall) rfl ownKnobs started (by kernel_rfl) Tryz.func5
    (OpenSpec.witness (enc := enc) (C := Tryz.checked) (s := (Rows.OpenSpec.upto Rows.fnRowsDifferSpec)) (k := Rows.uptoSmall) rfl false ⟨#[], #[.slice none 0 0, .slice none 0 0, .slice none 0 0], []⟩ 8 (by kernel_rfl) (by kernel_rfl) (by kernel_rfl)
      (x := ([.nil, .nil, .nil], [], [])) (by kernel_rfl) rfl (by kernel_rfl)) ?_
  intro W base args ds gs before hval hW _ hk _
  exact contract_fdd 5 Tryz.f5 Rows.fnRowsDifferSpec rfl rfl rfl (fun _ _ _ _ => rfl) (fun _ _ _ _ _ _ _ _ _ _ _ _ _ => law5) H enc W base args ds gs before hval hW hk
theorem differ_holds : Rows.FnRowsDifferUptoSaid :=
  OpenClaim.holds_of_cond 5 Tryz.f5 rfl rfl rfl rfl rfl rfl rfl ⟨rfl, rfl, rfl, rfl, rfl⟩ rfl rfl rfl rfl rfl differ_named Tryz.func5 differ_closed
    differ_inst differ_wrap (fun os started H enc _ F => differ_lifted os started H enc F)
end Go.Proofs.YtglgclkgppomiaaGreat
