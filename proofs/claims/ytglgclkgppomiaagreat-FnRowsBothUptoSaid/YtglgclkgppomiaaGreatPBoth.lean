/- FnRowsBoth: every row of every schema that has been taken apart is put together again. Condition: the arguments' bulk is at most 1048576 (the statement's own bound). -/
import Derived.Test.YtglgclkgppomiaaGreatYBoth01
import Derived.Test.YtglgclkgppomiaaGreatZ24
import Derived.Test.YtglgclkgppomiaaGreatZ25
set_option linter.unusedVariables false
set_option linter.unusedSimpArgs false
namespace Go.Proofs.YtglgclkgppomiaaGreat
open Go Go.RowKit Go.ChangeShapes Go.WideShapes Go.ChangeAt
theorem both_inPlace : (Rows.fnRowsBothUptoRow.inPlace == Tryz.prog.inPlace 4) = true := by kernel_rfl
theorem both_unfollowed : (Rows.fnRowsBothUptoRow.unfollowed == Tryz.prog.unfollowed 4) = true := by kernel_rfl
theorem both_recurses : (Rows.fnRowsBothUptoRow.recurses == Tryz.prog.recurses 4) = true := by kernel_rfl
theorem both_varsNamed : (Rows.fnRowsBothUptoRow.named == Tryz.prog.varsNamed 4) = true := by kernel_rfl
theorem both_closed : joinedFacts Tryz.prog 4 Tryz.f4 (Rows.OpenSpec.upto Rows.fnRowsBothSpec).bare Rows.fnRowsBothUptoRow = true :=
  facts_all (by kernel_rfl) factLaid factMaps (by kernel_rfl) (by kernel_rfl) (by kernel_rfl) (by rw [factStops]; rfl) (by kernel_rfl) (by rw [factKnobs]; rfl) both_inPlace both_unfollowed both_recurses both_varsNamed (by kernel_rfl) (by kernel_rfl) (by kernel_rfl) (by kernel_rfl) (by kernel_rfl) (by kernel_rfl) (by kernel_rfl) (by kernel_rfl) (by kernel_rfl) (by rw [factKeys]; rfl) (by kernel_rfl) factHeard factEnter (by rw [factLifts]; rfl) (by rw [factMake]; rfl) (by kernel_rfl) (by kernel_rfl) (by kernel_rfl) (by kernel_rfl)
theorem both_named : Tryz.prog.funcNamed Rows.fnRowsBothUptoRow.func = some 4 := by kernel_rfl
theorem both_inst : Tryz.f4.isInstance Tryz.prog Rows.fnRowsBothUptoRow.origin Rows.fnRowsBothUptoRow.targs := of_decide_eq_true (by kernel_rfl)
theorem both_wrap : Tryz.f4.isWrapper Tryz.prog Rows.fnRowsBothUptoRow.wrapper Rows.fnRowsBothUptoRow.mainSum := by
  unfold Func.isWrapper
  first | (rw [if_pos (by decide +kernel)]; kernel_rfl) | (rw [if_neg (by decide +kernel)]; exact ⟨rfl, rfl⟩)
set_option maxRecDepth 100000 in
theorem both_lifted (os : Os) (started : os.Started) (H : Type) (enc : TypeId × Value → H) (F : Stop.Interp) :
    ReturnsInHanded {} Tryz.checked os 4 .any ((Rows.OpenSpec.upto Rows.fnRowsBothSpec).pre6 enc Tryz.prog Tryz.f4 Rows.fnRowsBothUptoRow.domain false) (((Rows.OpenSpec.upto Rows.fnRowsBothSpec).at F).post enc Tryz.prog Tryz.f4 false true false false) := by
  refine returnsInHanded_of_cond (C := Tryz.checked) (s := (Rows.OpenSpec.upto Rows.fnRowsBothSpec)) (k := Rows.uptoSmall) rfl ownKnobs started (by kernel_rfl) Tryz.func4
    (OpenSpec.witness (enc := enc) (C := Tryz.checked) (s := (Rows.OpenSpec.upto Rows.fnRowsBothSpec)) (k := Rows.uptoSmall) rfl false ⟨#[], #[.slice none 0 0, .slice none 0 0], []⟩ 8 (by kernel_rfl) (by kernel_rfl) (by kernel_rfl)
      (x := ([.nil, .nil], [], [])) (by kernel_rfl) rfl (by kernel_rfl)) ?_
  intro W base args ds gs before hval hW _ hk _
  exact contract_fd 4 Tryz.f4 Rows.fnRowsBothSpec rfl rfl rfl (fun _ _ _ => rfl) (fun _ _ _ _ _ _ _ _ _ => law4) H enc W base args ds gs before hval hW hk
theorem both_holds : Rows.FnRowsBothUptoSaid :=
  OpenClaim.holds_of_cond 4 Tryz.f4 rfl rfl rfl rfl rfl rfl rfl ⟨rfl, rfl, rfl, rfl, rfl⟩ rfl rfl rfl rfl rfl both_named Tryz.func4 both_closed
    both_inst both_wrap (fun os started H enc _ F => both_lifted os started H enc F)
end Go.Proofs.YtglgclkgppomiaaGreat
