/- FnRowsColumns: a schema has a column for each of its leaves. Condition: the arguments' bulk is at most 1048576 (the statement's own bound). -/
import Derived.Test.YtglgclkgppomiaaGreatYColumns01
import Derived.Test.YtglgclkgppomiaaGreatZ25
set_option linter.unusedVariables false
set_option linter.unusedSimpArgs false
namespace Go.Proofs.YtglgclkgppomiaaGreat
open Go Go.RowKit Go.ChangeShapes Go.WideShapes Go.ChangeAt
theorem columns_inPlace : (Rows.fnRowsColumnsUptoRow.inPlace == Tryz.prog.inPlace 13) = true := by kernel_rfl
theorem columns_unfollowed : (Rows.fnRowsColumnsUptoRow.unfollowed == Tryz.prog.unfollowed 13) = true := by kernel_rfl
theorem columns_recurses : (Rows.fnRowsColumnsUptoRow.recurses == Tryz.prog.recurses 13) = true := by kernel_rfl
theorem columns_varsNamed : (Rows.fnRowsColumnsUptoRow.named == Tryz.prog.varsNamed 13) = true := by kernel_rfl
theorem columns_closed : joinedFacts Tryz.prog 13 Tryz.f13 (Rows.OpenSpec.upto Rows.fnRowsColumnsSpec).bare Rows.fnRowsColumnsUptoRow = true :=
  facts_all (by kernel_rfl) factLaid factMaps (by kernel_rfl) (by kernel_rfl) (by kernel_rfl) (by rw [factStops]; rfl) (by kernel_rfl) (by rw [factKnobs]; rfl) columns_inPlace columns_unfollowed columns_recurses columns_varsNamed (by kernel_rfl) (by kernel_rfl) (by kernel_rfl) (by kernel_rfl) (by kernel_rfl) (by kernel_rfl) (by kernel_rfl) (by kernel_rfl) (by kernel_rfl) (by rw [factKeys]; rfl) (by kernel_rfl) factHeard factEnter (by rw [factLifts]; rfl) (by rw [factMake]; rfl) (by kernel_rfl) (by kernel_rfl) (by kernel_rfl) (by kernel_rfl)
theorem columns_named : Tryz.prog.funcNamed Rows.fnRowsColumnsUptoRow.func = some 13 := by kernel_rfl
theorem columns_inst : Tryz.f13.isInstance Tryz.prog Rows.fnRowsColumnsUptoRow.origin Rows.fnRowsColumnsUptoRow.targs := of_decide_eq_true (by kernel_rfl)
theorem columns_wrap : Tryz.f13.isWrapper Tryz.prog Rows.fnRowsColumnsUptoRow.wrapper Rows.fnRowsColumnsUptoRow.mainSum := by
  unfold Func.isWrapper
  first | (rw [if_pos (by decide +kernel)]; kernel_rfl) | (rw [if_neg (by decide +kernel)]; exact ⟨rfl, rfl⟩)
set_option maxRecDepth 100000 in
theorem columns_lifted (os : Os) (started : os.Started) (H : Type) (enc : TypeId × Value → H) (F : Stop.Interp) :
    ReturnsInHanded {} Tryz.checked os 13 .any ((Rows.OpenSpec.upto Rows.fnRowsColumnsSpec).pre6 enc Tryz.prog Tryz.f13 Rows.fnRowsColumnsUptoRow.domain false) (((Rows.OpenSpec.upto Rows.fnRowsColumnsSpec).at F).post enc Tryz.prog Tryz.f13 false true false false) := by
  refine returnsInHanded_of_cond (C := Tryz.checked) (s := (Rows.OpenSpec.upto Rows.fnRowsColumnsSpec)) (k := Rows.uptoSmall) rfl ownKnobs started (by kernel_rfl) Tryz.func13
    (OpenSpec.witness (enc := enc) (C := Tryz.checked) (s := (Rows.OpenSpec.upto Rows.fnRowsColumnsSpec)) (k := Rows.uptoSmall) rfl false ⟨#[], #[.slice none 0 0], []⟩ 8 (by kernel_rfl) (by kernel_rfl) (by kernel_rfl)
      (x := ([.nil], [], [])) (by kernel_rfl) rfl (by kernel_rfl)) ?_
  intro W base args ds gs before hval hW _ hk _
  exact contract_f 13 Tryz.f13 Rows.fnRowsColumnsSpec rfl rfl rfl (fun _ _ => rfl) (fun _ _ _ _ _ => law13) H enc W base args ds gs before hval hW hk
theorem columns_holds : Rows.FnRowsColumnsUptoSaid :=
  OpenClaim.holds_of_cond 13 Tryz.f13 rfl rfl rfl rfl rfl rfl rfl ⟨rfl, rfl, rfl, rfl, rfl⟩ rfl rfl rfl rfl rfl columns_named Tryz.func13 columns_closed
    columns_inst columns_wrap (fun os started H enc _ F => columns_lifted os started H enc F)
end Go.Proofs.YtglgclkgppomiaaGreat
