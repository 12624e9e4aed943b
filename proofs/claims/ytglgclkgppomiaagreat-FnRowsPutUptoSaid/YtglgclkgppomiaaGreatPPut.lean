/- FnRowsPut: of these cells the row is put together. Condition: the arguments' bulk is at most 1048576 (the statement's own bound). -/
import Derived.Test.YtglgclkgppomiaaGreatYPut04
import Derived.Test.YtglgclkgppomiaaGreatZ24
import Derived.Test.YtglgclkgppomiaaGreatZ25
set_option linter.unusedVariables false
set_option linter.unusedSimpArgs false
namespace Go.Proofs.YtglgclkgppomiaaGreat
open Go Go.RowKit Go.ChangeShapes Go.WideShapes Go.ChangeAt
theorem put_inPlace : (Rows.fnRowsPutUptoRow.inPlace == Tryz.prog.inPlace 10) = true := by kernel_rfl
theorem put_unfollowed : (Rows.fnRowsPutUptoRow.unfollowed == Tryz.prog.unfollowed 10) = true := by kernel_rfl
theorem put_recurses : (Rows.fnRowsPutUptoRow.recurses == Tryz.prog.recurses 10) = true := by kernel_rfl
theorem put_varsNamed : (Rows.fnRowsPutUptoRow.named == Tryz.prog.varsNamed 10) = true := by kernel_rfl
theorem put_closed : joinedFacts Tryz.prog 10 Tryz.f10 (Rows.OpenSpec.upto Rows.fnRowsPutSpec).bare Rows.fnRowsPutUptoRow = true :=
  facts_all (by kernel_rfl) factLaid factMaps (by kernel_rfl) (by kernel_rfl) (by kernel_rfl) (by rw [factStops]; rfl) (by kernel_rfl) (by rw [factKnobs]; rfl) put_inPlace put_unfollowed put_recurses put_varsNamed (by kernel_rfl) (by kernel_rfl) (by kernel_rfl) (by kernel_rfl) (by kernel_rfl) (by kernel_rfl) (by kernel_rfl) (by kernel_rfl) (by kernel_rfl) (by rw [factKeys]; rfl) (by kernel_rfl) factHeard factEnter (by rw [factLifts]; rfl) (by rw [factMake]; rfl) (by kernel_rfl) (by kernel_rfl) (by kernel_rfl) (by kernel_rfl)
theorem put_named : Tryz.prog.funcNamed Rows.fnRowsPutUptoRow.func = some 10 := by kernel_rfl
theorem put_inst : Tryz.f10.isInstance Tryz.prog Rows.fnRowsPutUptoRow.origin Rows.fnRowsPutUptoRow.targs := of_decide_eq_true (by kernel_rfl)
theorem put_wrap : Tryz.f10.isWrapper Tryz.prog Rows.fnRowsPutUptoRow.wrapper Rows.fnRowsPutUptoRow.mainSum := by
  unfold Func.isWrapper
  first | (rw [if_pos (by decide +kernel)]; kernel_rfl) | (rw [if_neg (by decide +kernel)]; exact ⟨rfl, rfl⟩)
set_option maxRecDepth 100000 in
theorem put_lifted (os : Os) (started : os.Started) (H : Type) (enc : TypeId × Value → H) (F : Stop.Interp) :
    ReturnsInHanded {} Tryz.checked os 10 .any ((Rows.OpenSpec.upto Rows.fnRowsPutSpec).pre6 enc Tryz.prog Tryz.f10 Rows.fnRowsPutUptoRow.domain false) (((Rows.OpenSpec.upto Rows.fnRowsPutSpec).at F).post enc Tryz.prog Tryz.f10 false true false false) := by
  refine returnsInHanded_of_cond (C := Tryz.checked) (s := (Rows.OpenSpec.upto Rows.fnRowsPutSpec)) (k := Rows.uptoSmall) rfl ownKnobs started (by kernel_rfl) Tryz.func10
    (OpenSpec.witness (enc := enc) (C := Tryz.checked) (s := (Rows.OpenSpec.upto Rows.fnRowsPutSpec)) (k := Rows.uptoSmall) rfl false ⟨#[], #[.slice none 0 0, .slice none 0 0], []⟩ 8 (by kernel_rfl) (by kernel_rfl) (by kernel_rfl)
      (x := ([.nil, .nil], [], [])) (by kernel_rfl) rfl (by kernel_rfl)) ?_
  intro W base args ds gs before hval hW _ hk _
  exact contract_fd 10 Tryz.f10 Rows.fnRowsPutSpec rfl rfl rfl (fun _ _ _ => rfl) (fun _ _ _ _ _ _ _ _ _ => law10) H enc W base args ds gs before hval hW hk
theorem put_holds : Rows.FnRowsPutUptoSaid :=
  OpenClaim.holds_of_cond 10 Tryz.f10 rfl rfl rfl rfl rfl rfl rfl ⟨rfl, rfl, rfl, rfl, rfl⟩ rfl rfl rfl rfl rfl put_named Tryz.func10 put_closed
    put_inst put_wrap (fun os started H enc _ F => put_lifted os started H enc F)
end Go.Proofs.YtglgclkgppomiaaGreat
