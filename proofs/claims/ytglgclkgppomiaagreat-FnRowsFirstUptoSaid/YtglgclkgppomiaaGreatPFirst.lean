/- FnRowsFirst: in each column the first cell has the level of repetition 0, and no other one has it. Condition: the arguments' bulk is at most 1048576 (the statement's own bound). -/
import Derived.Test.YtglgclkgppomiaaGreatYFirst02
import Derived.Test.YtglgclkgppomiaaGreatZ24
import Derived.Test.YtglgclkgppomiaaGreatZ25
set_option linter.unusedVariables false
set_option linter.unusedSimpArgs false
namespace Go.Proofs.YtglgclkgppomiaaGreat
open Go Go.RowKit Go.ChangeShapes Go.WideShapes Go.ChangeAt
theorem first_inPlace : (Rows.fnRowsFirstUptoRow.inPlace == Tryz.prog.inPlace 7) = true := by kernel_rfl
theorem first_unfollowed : (Rows.fnRowsFirstUptoRow.unfollowed == Tryz.prog.unfollowed 7) = true := by kernel_rfl
theorem first_recurses : (Rows.fnRowsFirstUptoRow.recurses == Tryz.prog.recurses 7) = true := by kernel_rfl
theorem first_varsNamed : (Rows.fnRowsFirstUptoRow.named == Tryz.prog.varsNamed 7) = true := by kernel_rfl
theorem first_closed : joinedFacts Tryz.prog 7 Tryz.f7 (Rows.OpenSpec.upto Rows.fnRowsFirstSpec).bare Rows.fnRowsFirstUptoRow = true :=
  facts_all (by kernel_rfl) factLaid factMaps (by kernel_rfl) (by kernel_rfl) (by kernel_rfl) (by rw [factStops]; rfl) (by kernel_rfl) (by rw [factKnobs]; rfl) first_inPlace first_unfollowed first_recurses first_varsNamed (by kernel_rfl) (by kernel_rfl) (by kernel_rfl) (by kernel_rfl) (by kernel_rfl) (by kernel_rfl) (by kernel_rfl) (by kernel_rfl) (by kernel_rfl) (by rw [factKeys]; rfl) (by kernel_rfl) factHeard factEnter (by rw [factLifts]; rfl) (by rw [factMake]; rfl) (by kernel_rfl) (by kernel_rfl) (by kernel_rfl) (by kernel_rfl)
theorem first_named : Tryz.prog.funcNamed Rows.fnRowsFirstUptoRow.func = some 7 := by kernel_rfl
theorem first_inst : Tryz.f7.isInstance Tryz.prog Rows.fnRowsFirstUptoRow.origin Rows.fnRowsFirstUptoRow.targs := of_decide_eq_true (by kernel_rfl)
theorem first_wrap : Tryz.f7.isWrapper Tryz.prog Rows.fnRowsFirstUptoRow.wrapper Rows.fnRowsFirstUptoRow.mainSum := by
  unfold Func.isWrapper
  first | (rw [if_pos (by decide +kernel)]; kernel_rfl) | (rw [if_neg (by decide +kernel)]; exact ⟨rfl, rfl⟩)
set_option maxRecDepth 100000 in
theorem first_lifted (os : Os) (started : os.Started) (H : Type) (enc : TypeId × Value → H) (F : Stop.Interp) :
    ReturnsInHanded {} Tryz.checked os 7 .any ((Rows.OpenSpec.upto Rows.fnRowsFirstSpec).pre6 enc Tryz.prog Tryz.f7 Rows.fnRowsFirstUptoRow.domain false) (((Rows.OpenSpec.upto Rows.fnRowsFirstSpec).at F).post enc Tryz.prog Tryz.f7 false true false false) := by
  refine returnsInHanded_of_cond (C := Tryz.checked) (s := (Rows.OpenSpec.upto Rows.fnRowsFirstSpec)) (k := Rows.uptoSmall) rfl ownKnobs started (by kernel_rfl) Tryz.func7
    (OpenSpec.witness (enc := enc) (C := Tryz.checked) (s := (Rows.OpenSpec.upto Rows.fnRowsFirstSpec)) (k := Rows.uptoSmall) rfl false ⟨#[], #[.slice none 0 0, .slice none 0 0], []⟩ 8 (by kernel_rfl) (by kernel_rfl) (by kernel_rfl)
      (x := ([.nil, .nil], [], [])) (by kernel_rfl) rfl (by kernel_rfl)) ?_
  intro W base args ds gs before hval hW _ hk _
  exact contract_fd 7 Tryz.f7 Rows.fnRowsFirstSpec rfl rfl rfl (fun _ _ _ => rfl) (fun _ _ _ _ _ _ _ _ _ => law7) H enc W base args ds gs before hval hW hk
theorem first_holds : Rows.FnRowsFirstUptoSaid :=
  OpenClaim.holds_of_cond 7 Tryz.f7 rfl rfl rfl rfl rfl rfl rfl ⟨rfl, rfl, rfl, rfl, rfl⟩ rfl rfl rfl rfl rfl first_named Tryz.func7 first_closed
    first_inst first_wrap (fun os started H enc _ F => first_lifted os started H enc F)
end Go.Proofs.YtglgclkgppomiaaGreat
