/- FnRowsField: a field alone has the cells that it has among others. Condition: the arguments' bulk is at most 1048576 (the statement's own bound). -/
import Derived.Test.YtglgclkgppomiaaGreatYField01
import Derived.Test.YtglgclkgppomiaaGreatZ25
set_option linter.unusedVariables false
set_option linter.unusedSimpArgs false
namespace Go.Proofs.YtglgclkgppomiaaGreat
open Go Go.RowKit Go.ChangeShapes Go.WideShapes Go.ChangeAt
theorem field_inPlace : (Rows.fnRowsFieldUptoRow.inPlace == Tryz.prog.inPlace 6) = true := by kernel_rfl
theorem field_unfollowed : (Rows.fnRowsFieldUptoRow.unfollowed == Tryz.prog.unfollowed 6) = true := by kernel_rfl
theorem field_recurses : (Rows.fnRowsFieldUptoRow.recurses == Tryz.prog.recurses 6) = true := by kernel_rfl
theorem field_varsNamed : (Rows.fnRowsFieldUptoRow.named == Tryz.prog.varsNamed 6) = true := by kernel_rfl
theorem field_closed : joinedFacts Tryz.prog 6 Tryz.f6 (Rows.OpenSpec.upto Rows.fnRowsFieldSpec).bare Rows.fnRowsFieldUptoRow = true :=
  facts_all (by kernel_rfl) factLaid factMaps (by kernel_rfl) (by kernel_rfl) (by kernel_rfl) (by rw [factStops]; rfl) (by kernel_rfl) (by rw [factKnobs]; rfl) field_inPlace field_unfollowed field_recurses field_varsNamed (by kernel_rfl) (by kernel_rfl) (by kernel_rfl) (by kernel_rfl) (by kernel_rfl) (by kernel_rfl) (by kernel_rfl) (by kernel_rfl) (by kernel_rfl) (by rw [factKeys]; rfl) (by kernel_rfl) factHeard factEnter (by rw [factLifts]; rfl) (by rw [factMake]; rfl) (by kernel_rfl) (by kernel_rfl) (by kernel_rfl) (by kernel_rfl)
theorem field_named : Tryz.prog.funcNamed Rows.fnRowsFieldUptoRow.func = some 6 := by kernel_rfl
theorem field_inst : Tryz.f6.isInstance Tryz.prog Rows.fnRowsFieldUptoRow.origin Rows.fnRowsFieldUptoRow.targs := of_decide_eq_true (by kernel_rfl)
theorem field_wrap : Tryz.f6.isWrapper Tryz.prog Rows.fnRowsFieldUptoRow.wrapper Rows.fnRowsFieldUptoRow.mainSum := by
  unfold Func.isWrapper
  first | (rw [if_pos (by decide +kernel)]; kernel_rfl) | (rw [if_neg (by decide +kernel)]; exact ⟨rfl, rfl⟩)
set_option maxRecDepth 100000 in
theorem field_lifted (os : Os) (started : os.Started) (H : Type) (enc : TypeId × Value → H) (F : Stop.Interp) :
    ReturnsInHanded {} Tryz.checked os 6 .any ((Rows.OpenSpec.upto Rows.fnRowsFieldSpec).pre6 enc Tryz.prog Tryz.f6 Rows.fnRowsFieldUptoRow.domain false) (((Rows.OpenSpec.upto Rows.fnRowsFieldSpec).at F).post enc Tryz.prog Tryz.f6 false true false false) := by
  refine returnsInHanded_of_cond (C := Tryz.checked) (s := (Rows.OpenSpec.upto Rows.fnRowsFieldSpec)) (k := Rows.uptoSmall) rfl ownKnobs started (by kernel_rfl) Tryz.func6
    (OpenSpec.witness (enc := enc) (C := Tryz.checked) (s := (Rows.OpenSpec.upto Rows.fnRowsFieldSpec)) (k := Rows.uptoSmall) rfl false ⟨#[], #[.slice none 0 0, .slice none 0 0, .int .i64 0], []⟩ 8 (by kernel_rfl) (by kernel_rfl) (by kernel_rfl)
      (x := ([.nil, .nil, .lit (.int .i64 0)], [], [])) (by kernel_rfl) rfl (by kernel_rfl)) ?_
  intro W base args ds gs before hval hW _ hk _
  exact contract_fdk 6 Tryz.f6 Rows.fnRowsFieldSpec rfl rfl rfl (fun _ _ _ _ => rfl) (fun _ _ _ _ _ _ _ _ _ k => law6 k) H enc W base args ds gs before hval hW hk
theorem field_holds : Rows.FnRowsFieldUptoSaid :=
  OpenClaim.holds_of_cond 6 Tryz.f6 rfl rfl rfl rfl rfl rfl rfl ⟨rfl, rfl, rfl, rfl, rfl⟩ rfl rfl rfl rfl rfl field_named Tryz.func6 field_closed
    field_inst field_wrap (fun os started H enc _ F => field_lifted os started H enc F)
end Go.Proofs.YtglgclkgppomiaaGreat
