/- FnRowsRepeated: rows in a group that is repeated. Condition: the arguments' bulk is at most 1048576 (the statement's own bound). -/
import Derived.Test.YtglgclkgppomiaaGreatYRepeated01
import Derived.Test.YtglgclkgppomiaaGreatZ25
set_option linter.unusedVariables false
set_option linter.unusedSimpArgs false
namespace Go.Proofs.YtglgclkgppomiaaGreat
open Go Go.RowKit Go.ChangeShapes Go.WideShapes Go.ChangeAt
theorem repeated_inPlace : (Rows.fnRowsRepeatedUptoRow.inPlace == Tryz.prog.inPlace 11) = true := by kernel_rfl
theorem repeated_unfollowed : (Rows.fnRowsRepeatedUptoRow.unfollowed == Tryz.prog.unfollowed 11) = true := by kernel_rfl
theorem repeated_recurses : (Rows.fnRowsRepeatedUptoRow.recurses == Tryz.prog.recurses 11) = true := by kernel_rfl
theorem repeated_varsNamed : (Rows.fnRowsRepeatedUptoRow.named == Tryz.prog.varsNamed 11) = true := by kernel_rfl
theorem repeated_closed : joinedFacts Tryz.prog 11 Tryz.f11 (Rows.OpenSpec.upto Rows.fnRowsRepeatedSpec).bare Rows.fnRowsRepeatedUptoRow = true :=
  facts_all (by kernel_rfl) factLaid factMaps (by kernel_rfl) (by kernel_rfl) (by kernel_rfl) (by rw [factStops]; rfl) (by kernel_rfl) (by rw [factKnobs]; rfl) repeated_inPlace repeated_unfollowed repeated_recurses repeated_varsNamed (by kernel_rfl) (by kernel_rfl) (by kernel_rfl) (by kernel_rfl) (by kernel_rfl) (by kernel_rfl) (by kernel_rfl) (by kernel_rfl) (by kernel_rfl) (by rw [factKeys]; rfl) (by kernel_rfl) factHeard factEnter (by rw [factLifts]; rfl) (by rw [factMake]; rfl) (by kernel_rfl) (by kernel_rfl) (by kernel_rfl) (by kernel_rfl)
theorem repeated_named : Tryz.prog.funcNamed Rows.fnRowsRepeatedUptoRow.func = some 11 := by kernel_rfl
theorem repeated_inst : Tryz.f11.isInstance Tryz.prog Rows.fnRowsRepeatedUptoRow.origin Rows.fnRowsRepeatedUptoRow.targs := of_decide_eq_true (by kernel_rfl)
theorem repeated_wrap : Tryz.f11.isWrapper Tryz.prog Rows.fnRowsRepeatedUptoRow.wrapper Rows.fnRowsRepeatedUptoRow.mainSum := by
  unfold Func.isWrapper
  first | (rw [if_pos (by decide +kernel)]; kernel_rfl) | (rw [if_neg (by decide +kernel)]; exact ⟨rfl, rfl⟩)
set_option maxRecDepth 100000 in
theorem repeated_lifted (os : Os) (started : os.Started) (H : Type) (enc : TypeId × Value → H) (F : Stop.Interp) :
    ReturnsInHanded {} Tryz.checked os 11 .any ((Rows.OpenSpec.upto Rows.fnRowsRepeatedSpec).pre6 enc Tryz.prog Tryz.f11 Rows.fnRowsRepeatedUptoRow.domain false) (((Rows.OpenSpec.upto Rows.fnRowsRepeatedSpec).at F).post enc Tryz.prog Tryz.f11 false true false false) := by
  refine returnsInHanded_of_cond (C := Tryz.checked) (s := (Rows.OpenSpec.upto Rows.fnRowsRepeatedSpec)) (k := Rows.uptoSmall) rfl ownKnobs started (by kernel_rfl) Tryz.func11
    (OpenSpec.witness (enc := enc) (C := Tryz.checked) (s := (Rows.OpenSpec.upto Rows.fnRowsRepeatedSpec)) (k := Rows.uptoSmall) rfl false ⟨#[], #[.slice none 0 0, .slice none 0 0], []⟩ 8 (by kernel_rfl) (by kernel_rfl) (by kernel_rfl)
      (x := ([.nil, .nil], [], [])) (by kernel_rfl) rfl (by kernel_rfl)) ?_
  intro W base args ds gs before hval hW _ hk _
  exact contract_fr 11 Tryz.f11 Rows.fnRowsRepeatedSpec rfl rfl rfl (fun _ _ _ => rfl) (fun _ _ _ _ _ _ _ _ _ _ _ => law11) H enc W base args ds gs before hval hW hk
theorem repeated_holds : Rows.FnRowsRepeatedUptoSaid :=
  OpenClaim.holds_of_cond 11 Tryz.f11 rfl rfl rfl rfl rfl rfl rfl ⟨rfl, rfl, rfl, rfl, rfl⟩ rfl rfl rfl rfl rfl repeated_named Tryz.func11 repeated_closed
    repeated_inst repeated_wrap (fun os started H enc _ F => repeated_lifted os started H enc F)
end Go.Proofs.YtglgclkgppomiaaGreat
