/- FnRowsOptional: fields in a group that may be missing have one level of definition more, and each column one cell without a value if it is missing. Condition: the arguments' bulk is at most 1048576 (the statement's own bound). -/
import Derived.Test.YtglgclkgppomiaaGreatYOptional02
import Derived.Test.YtglgclkgppomiaaGreatZ24
import Derived.Test.YtglgclkgppomiaaGreatZ25
set_option linter.unusedVariables false
set_option linter.unusedSimpArgs false
namespace Go.Proofs.YtglgclkgppomiaaGreat
open Go Go.RowKit Go.ChangeShapes Go.WideShapes Go.ChangeAt
theorem optional_inPlace : (Rows.fnRowsOptionalUptoRow.inPlace == Tryz.prog.inPlace 9) = true := by kernel_rfl
theorem optional_unfollowed : (Rows.fnRowsOptionalUptoRow.unfollowed == Tryz.prog.unfollowed 9) = true := by kernel_rfl
theorem optional_recurses : (Rows.fnRowsOptionalUptoRow.recurses == Tryz.prog.recurses 9) = true := by kernel_rfl
theorem optional_varsNamed : (Rows.fnRowsOptionalUptoRow.named == Tryz.prog.varsNamed 9) = true := by kernel_rfl
theorem optional_closed : joinedFacts Tryz.prog 9 Tryz.f9 (Rows.OpenSpec.upto Rows.fnRowsOptionalSpec).bare Rows.fnRowsOptionalUptoRow = true :=
  facts_all (by kernel_rfl) factLaid factMaps (by kernel_rfl) (by kernel_rfl) (by kernel_rfl) (by rw [factStops]; rfl) (by kernel_rfl) (by rw [factKnobs]; rfl) optional_inPlace optional_unfollowed optional_recurses optional_varsNamed (by kernel_rfl) (by kernel_rfl) (by kernel_rfl) (by kernel_rfl) (by kernel_rfl) (by kernel_rfl) (by kernel_rfl) (by kernel_rfl) (by kernel_rfl) (by rw [factKeys]; rfl) (by kernel_rfl) factHeard factEnter (by rw [factLifts]; rfl) (by rw [factMake]; rfl) (by kernel_rfl) (by kernel_rfl) (by kernel_rfl) (by kernel_rfl)
theorem optional_named : Tryz.prog.funcNamed Rows.fnRowsOptionalUptoRow.func = some 9 := by kernel_rfl
theorem optional_inst : Tryz.f9.isInstance Tryz.prog Rows.fnRowsOptionalUptoRow.origin Rows.fnRowsOptionalUptoRow.targs := of_decide_eq_true (by kernel_rfl)
theorem optional_wrap : Tryz.f9.isWrapper Tryz.prog Rows.fnRowsOptionalUptoRow.wrapper Rows.fnRowsOptionalUptoRow.mainSum := by
  unfold Func.isWrapper
  first | (rw [if_pos (by decide +kernel)]; kernel_rfl) | (rw [if_neg (by decide +kernel)]; exact ⟨rfl, rfl⟩)
set_option maxRecDepth 100000 in
theorem optional_lifted (os : Os) (started : os.Started) (H : Type) (enc : TypeId × Value → H) (F : Stop.Interp) :
    ReturnsInHanded {} Tryz.checked os 9 .any ((Rows.OpenSpec.upto Rows.fnRowsOptionalSpec).pre6 enc Tryz.prog Tryz.f9 Rows.fnRowsOptionalUptoRow.domain false) (((Rows.OpenSpec.upto Rows.fnRowsOptionalSpec).at F).post enc Tryz.prog Tryz.f9 false true false false) := by
  refine returnsInHanded_of_cond (C := Tryz.checked) (s := (Rows.OpenSpec.upto Rows.fnRowsOptionalSpec)) (k := Rows.uptoSmall) rfl ownKnobs started (by kernel_rfl) Tryz.func9
    (OpenSpec.witness (enc := enc) (C := Tryz.checked) (s := (Rows.OpenSpec.upto Rows.fnRowsOptionalSpec)) (k := Rows.uptoSmall) rfl false ⟨#[], #[.slice none 0 0, .slice none 0 0], []⟩ 8 (by kernel_rfl) (by kernel_rfl) (by kernel_rfl)
      (x := ([.nil, .nil], [], [])) (by kernel_rfl) rfl (by kernel_rfl)) ?_
  intro W base args ds gs before hval hW _ hk _
  exact contract_fd 9 Tryz.f9 Rows.fnRowsOptionalSpec rfl rfl rfl (fun _ _ _ => rfl) (fun _ _ _ _ _ _ _ _ _ => law9) H enc W base args ds gs before hval hW hk
theorem optional_holds : Rows.FnRowsOptionalUptoSaid :=
  OpenClaim.holds_of_cond 9 Tryz.f9 rfl rfl rfl rfl rfl rfl rfl ⟨rfl, rfl, rfl, rfl, rfl⟩ rfl rfl rfl rfl rfl optional_named Tryz.func9 optional_closed
    optional_inst optional_wrap (fun os started H enc _ F => optional_lifted os started H enc F)
end Go.Proofs.YtglgclkgppomiaaGreat
