/- FnRowsTaken: every row of every schema is taken apart into the cells of its columns. Condition: the arguments' bulk is at most 1048576 (the statement's own bound). -/
import Derived.Test.YtglgclkgppomiaaGreatYTaken04
import Derived.Test.YtglgclkgppomiaaGreatZ24
import Derived.Test.YtglgclkgppomiaaGreatZ25
set_option linter.unusedVariables false
set_option linter.unusedSimpArgs false
namespace Go.Proofs.YtglgclkgppomiaaGreat
open Go Go.RowKit Go.ChangeShapes Go.WideShapes Go.ChangeAt
theorem taken_inPlace : (Rows.fnRowsTakenUptoRow.inPlace == Tryz.prog.inPlace 12) = true := by kernel_rfl
theorem taken_unfollowed : (Rows.fnRowsTakenUptoRow.unfollowed == Tryz.prog.unfollowed 12) = true := by kernel_rfl
theorem taken_recurses : (Rows.fnRowsTakenUptoRow.recurses == Tryz.prog.recurses 12) = true := by kernel_rfl
theorem taken_varsNamed : (Rows.fnRowsTakenUptoRow.named == Tryz.prog.varsNamed 12) = true := by kernel_rfl
theorem taken_closed : joinedFacts Tryz.prog 12 Tryz.f12 (Rows.OpenSpec.upto Rows.fnRowsTakenSpec).bare Rows.fnRowsTakenUptoRow = true :=
  facts_all (by kernel_rfl) factLaid factMaps (by kernel_rfl) (by kernel_rfl) (by kernel_rfl) (by rw [factStops]; rfl) (by kernel_rfl) (by rw [factKnobs]; rfl) taken_inPlace taken_unfollowed taken_recurses taken_varsNamed (by kernel_rfl) (by kernel_rfl) (by kernel_rfl) (by kernel_rfl) (by kernel_rfl) (by kernel_rfl) (by kernel_rfl) (by kernel_rfl) (by kernel_rfl) (by rw [factKeys]; rfl) (by kernel_rfl) factHeard factEnter (by rw [factLifts]; rfl) (by rw [factMake]; rfl) (by kernel_rfl) (by kernel_rfl) (by kernel_rfl) (by kernel_rfl)
theorem taken_named : Tryz.prog.funcNamed Rows.fnRowsTakenUptoRow.func = some 12 := by kernel_rfl
theorem taken_inst : Tryz.f12.isInstance Tryz.prog Rows.fnRowsTakenUptoRow.origin Rows.fnRowsTakenUptoRow.targs := of_decide_eq_true (by kernel_rfl)
theorem taken_wrap : Tryz.f12.isWrapper Tryz.prog Rows.fnRowsTakenUptoRow.wrapper Rows.fnRowsTakenUptoRow.mainSum := by
  unfold Func.isWrapper
  first | (rw [if_pos (by decide +kernel)]; kernel_rfl) | (rw [if_neg (by decide +kernel)]; exact ⟨rfl, rfl⟩)
set_option maxRecDepth 100000 in
theorem taken_lifted (os : Os) (started : os.Started) (H : Type) (enc : TypeId × Value → H) (F : Stop.Interp) :
    ReturnsInHanded {} Tryz.checked os 12 .any ((Rows.OpenSpec.upto Rows.fnRowsTakenSpec).pre6 enc Tryz.prog Tryz.f12 Rows.fnRowsTakenUptoRow.domain false) (((Rows.OpenSpec.upto Rows.fnRowsTakenSpec).at F).post enc Tryz.prog Tryz.f12 false true false false) := by
  refine returnsInHanded_of_cond (C := Tryz.checked) (s := (Rows.OpenSpec.upto Rows.fnRowsTakenSpec)) (k := Rows.uptoSmall) rfl ownKnobs started (by kernel_rfl) Tryz.func12
    (OpenSpec.witness (enc := enc) (C := Tryz.checked) (s := (Rows.OpenSpec.upto Rows.fnRowsTakenSpec)) (k := Rows.uptoSmall) rfl false ⟨#[], #[.slice none 0 0, .slice none 0 0], []⟩ 8 (by kernel_rfl) (by kernel_rfl) (by kernel_rfl)
      (x := ([.nil, .nil], [], [])) (by kernel_rfl) rfl (by kernel_rfl)) ?_
  intro W base args ds gs before hval hW _ hk _
  exact contract_fd 12 Tryz.f12 Rows.fnRowsTakenSpec rfl rfl rfl (fun _ _ _ => rfl) (fun _ _ _ _ _ _ _ _ _ => law12) H enc W base args ds gs before hval hW hk
theorem taken_holds : Rows.FnRowsTakenUptoSaid :=
  OpenClaim.holds_of_cond 12 Tryz.f12 rfl rfl rfl rfl rfl rfl rfl ⟨rfl, rfl, rfl, rfl, rfl⟩ rfl rfl rfl rfl rfl taken_named Tryz.func12 taken_closed
    taken_inst taken_wrap (fun os started H enc _ F => taken_lifted os started H enc F)
end Go.Proofs.YtglgclkgppomiaaGreat
