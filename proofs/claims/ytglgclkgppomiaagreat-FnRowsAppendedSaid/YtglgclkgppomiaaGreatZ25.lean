/- The closed facts of the program that all rows share: each a theorem of its own, so that none wants much memory. -/
import Derived.Test.YtglgclkgppomiaaGreatRows
import Derived.JoinedCond
import Derived.KernelRfl
set_option linter.unusedVariables false
set_option linter.unusedSimpArgs false
namespace Go.Proofs.YtglgclkgppomiaaGreat
open Go
/-- The letters of the program's first word. -/
def initChars : List Char := [
  .ofNat 104, .ofNat 97, .ofNat 114, .ofNat 110, .ofNat 101, .ofNat 115, .ofNat 115, .ofNat 32, .ofNat 51, .ofNat 54, .ofNat 56, .ofNat 98, .ofNat 56, .ofNat 54, .ofNat 99, .ofNat 54, .ofNat 99, .ofNat 51, .ofNat 101, .ofNat 98,
  .ofNat 99, .ofNat 102, .ofNat 53, .ofNat 55, .ofNat 52, .ofNat 53, .ofNat 99, .ofNat 48, .ofNat 50, .ofNat 50, .ofNat 54, .ofNat 57, .ofNat 53, .ofNat 55, .ofNat 54, .ofNat 54, .ofNat 57, .ofNat 99, .ofNat 99, .ofNat 102,
  .ofNat 99, .ofNat 56, .ofNat 100, .ofNat 49, .ofNat 49, .ofNat 100, .ofNat 49, .ofNat 51, .ofNat 57, .ofNat 53, .ofNat 53, .ofNat 97, .ofNat 55, .ofNat 98, .ofNat 100, .ofNat 56, .ofNat 51, .ofNat 54, .ofNat 52, .ofNat 52,
  .ofNat 55, .ofNat 56, .ofNat 49, .ofNat 55, .ofNat 49, .ofNat 97, .ofNat 56, .ofNat 54, .ofNat 101, .ofNat 51, .ofNat 99, .ofNat 99, .ofNat 32, .ofNat 99, .ofNat 117, .ofNat 116, .ofNat 32, .ofNat 97, .ofNat 116, .ofNat 32,
  .ofNat 108, .ofNat 111, .ofNat 111, .ofNat 112, .ofNat 46, .ofNat 101, .ofNat 120, .ofNat 97, .ofNat 109, .ofNat 112, .ofNat 108, .ofNat 101, .ofNat 47, .ofNat 112, .ofNat 117, .ofNat 98, .ofNat 45, .ofNat 103, .ofNat 48, .ofNat 49,
  .ofNat 52, .ofNat 57, .ofNat 54, .ofNat 47, .ofNat 108, .ofNat 97, .ofNat 119, .ofNat 115, .ofNat 46, .ofNat 70, .ofNat 110, .ofNat 82, .ofNat 111, .ofNat 119, .ofNat 115, .ofNat 66, .ofNat 97, .ofNat 99, .ofNat 107, .ofNat 32,
  .ofNat 108, .ofNat 111, .ofNat 111, .ofNat 112, .ofNat 46, .ofNat 101, .ofNat 120, .ofNat 97, .ofNat 109, .ofNat 112, .ofNat 108, .ofNat 101, .ofNat 47, .ofNat 112, .ofNat 117, .ofNat 98, .ofNat 45, .ofNat 103, .ofNat 48, .ofNat 49,
  .ofNat 52, .ofNat 57, .ofNat 54, .ofNat 47, .ofNat 108, .ofNat 97, .ofNat 119, .ofNat 115, .ofNat 46, .ofNat 70, .ofNat 110, .ofNat 82, .ofNat 111, .ofNat 119, .ofNat 115, .ofNat 66, .ofNat 111, .ofNat 116, .ofNat 104, .ofNat 32,
  .ofNat 108, .ofNat 111, .ofNat 111, .ofNat 112, .ofNat 46, .ofNat 101, .ofNat 120, .ofNat 97, .ofNat 109, .ofNat 112, .ofNat 108, .ofNat 101, .ofNat 47, .ofNat 112, .ofNat 117, .ofNat 98, .ofNat 45, .ofNat 103, .ofNat 48, .ofNat 49,
  .ofNat 52, .ofNat 57, .ofNat 54, .ofNat 47, .ofNat 108, .ofNat 97, .ofNat 119, .ofNat 115, .ofNat 46, .ofNat 70, .ofNat 110, .ofNat 82, .ofNat 111, .ofNat 119, .ofNat 115, .ofNat 68, .ofNat 105, .ofNat 102, .ofNat 102, .ofNat 101,
  .ofNat 114, .ofNat 32, .ofNat 108, .ofNat 111, .ofNat 111, .ofNat 112, .ofNat 46, .ofNat 101, .ofNat 120, .ofNat 97, .ofNat 109, .ofNat 112, .ofNat 108, .ofNat 101, .ofNat 47, .ofNat 112, .ofNat 117, .ofNat 98, .ofNat 45, .ofNat 103,
  .ofNat 48, .ofNat 49, .ofNat 52, .ofNat 57, .ofNat 54, .ofNat 47, .ofNat 108, .ofNat 97, .ofNat 119, .ofNat 115, .ofNat 46, .ofNat 70, .ofNat 110, .ofNat 82, .ofNat 111, .ofNat 119, .ofNat 115, .ofNat 70, .ofNat 105, .ofNat 101,
  .ofNat 108, .ofNat 100, .ofNat 32, .ofNat 108, .ofNat 111, .ofNat 111, .ofNat 112, .ofNat 46, .ofNat 101, .ofNat 120, .ofNat 97, .ofNat 109, .ofNat 112, .ofNat 108, .ofNat 101, .ofNat 47, .ofNat 112, .ofNat 117, .ofNat 98, .ofNat 45,
  .ofNat 103, .ofNat 48, .ofNat 49, .ofNat 52, .ofNat 57, .ofNat 54, .ofNat 47, .ofNat 108, .ofNat 97, .ofNat 119, .ofNat 115, .ofNat 46, .ofNat 70, .ofNat 110, .ofNat 82, .ofNat 111, .ofNat 119, .ofNat 115, .ofNat 70, .ofNat 105,
  .ofNat 114, .ofNat 115, .ofNat 116, .ofNat 32, .ofNat 108, .ofNat 111, .ofNat 111, .ofNat 112, .ofNat 46, .ofNat 101, .ofNat 120, .ofNat 97, .ofNat 109, .ofNat 112, .ofNat 108, .ofNat 101, .ofNat 47, .ofNat 112, .ofNat 117, .ofNat 98,
  .ofNat 45, .ofNat 103, .ofNat 48, .ofNat 49, .ofNat 52, .ofNat 57, .ofNat 54, .ofNat 47, .ofNat 108, .ofNat 97, .ofNat 119, .ofNat 115, .ofNat 46, .ofNat 70, .ofNat 110, .ofNat 82, .ofNat 111, .ofNat 119, .ofNat 115, .ofNat 71,
  .ofNat 114, .ofNat 111, .ofNat 117, .ofNat 112, .ofNat 32, .ofNat 108, .ofNat 111, .ofNat 111, .ofNat 112, .ofNat 46, .ofNat 101, .ofNat 120, .ofNat 97, .ofNat 109, .ofNat 112, .ofNat 108, .ofNat 101, .ofNat 47, .ofNat 112, .ofNat 117,
  .ofNat 98, .ofNat 45, .ofNat 103, .ofNat 48, .ofNat 49, .ofNat 52, .ofNat 57, .ofNat 54, .ofNat 47, .ofNat 108, .ofNat 97, .ofNat 119, .ofNat 115, .ofNat 46, .ofNat 70, .ofNat 110, .ofNat 82, .ofNat 111, .ofNat 119, .ofNat 115,
  .ofNat 79, .ofNat 112, .ofNat 116, .ofNat 105, .ofNat 111, .ofNat 110, .ofNat 97, .ofNat 108, .ofNat 32, .ofNat 108, .ofNat 111, .ofNat 111, .ofNat 112, .ofNat 46, .ofNat 101, .ofNat 120, .ofNat 97, .ofNat 109, .ofNat 112, .ofNat 108,
  .ofNat 101, .ofNat 47, .ofNat 112, .ofNat 117, .ofNat 98, .ofNat 45, .ofNat 103, .ofNat 48, .ofNat 49, .ofNat 52, .ofNat 57, .ofNat 54, .ofNat 47, .ofNat 108, .ofNat 97, .ofNat 119, .ofNat 115, .ofNat 46, .ofNat 70, .ofNat 110,
  .ofNat 82, .ofNat 111, .ofNat 119, .ofNat 115, .ofNat 80, .ofNat 117, .ofNat 116, .ofNat 32, .ofNat 108, .ofNat 111, .ofNat 111, .ofNat 112, .ofNat 46, .ofNat 101, .ofNat 120, .ofNat 97, .ofNat 109, .ofNat 112, .ofNat 108, .ofNat 101,
  .ofNat 47, .ofNat 112, .ofNat 117, .ofNat 98, .ofNat 45, .ofNat 103, .ofNat 48, .ofNat 49, .ofNat 52, .ofNat 57, .ofNat 54, .ofNat 47, .ofNat 108, .ofNat 97, .ofNat 119, .ofNat 115, .ofNat 46, .ofNat 70, .ofNat 110, .ofNat 82,
  .ofNat 111, .ofNat 119, .ofNat 115, .ofNat 82, .ofNat 101, .ofNat 112, .ofNat 101, .ofNat 97, .ofNat 116, .ofNat 101, .ofNat 100, .ofNat 32, .ofNat 108, .ofNat 111, .ofNat 111, .ofNat 112, .ofNat 46, .ofNat 101, .ofNat 120, .ofNat 97,
  .ofNat 109, .ofNat 112, .ofNat 108, .ofNat 101, .ofNat 47, .ofNat 112, .ofNat 117, .ofNat 98, .ofNat 45, .ofNat 103, .ofNat 48, .ofNat 49, .ofNat 52, .ofNat 57, .ofNat 54, .ofNat 47, .ofNat 108, .ofNat 97, .ofNat 119, .ofNat 115,
  .ofNat 46, .ofNat 70, .ofNat 110, .ofNat 82, .ofNat 111, .ofNat 119, .ofNat 115, .ofNat 84, .ofNat 97, .ofNat 107, .ofNat 101, .ofNat 110, .ofNat 32, .ofNat 108, .ofNat 111, .ofNat 111, .ofNat 112, .ofNat 46, .ofNat 101, .ofNat 120,
  .ofNat 97, .ofNat 109, .ofNat 112, .ofNat 108, .ofNat 101, .ofNat 47, .ofNat 112, .ofNat 117, .ofNat 98, .ofNat 45, .ofNat 103, .ofNat 48, .ofNat 49, .ofNat 52, .ofNat 57, .ofNat 54, .ofNat 47, .ofNat 108, .ofNat 97, .ofNat 119,
  .ofNat 115, .ofNat 46, .ofNat 70, .ofNat 110, .ofNat 82, .ofNat 111, .ofNat 119, .ofNat 115, .ofNat 67, .ofNat 111, .ofNat 108, .ofNat 117, .ofNat 109, .ofNat 110, .ofNat 115, .ofNat 32, .ofNat 108, .ofNat 111, .ofNat 111, .ofNat 112,
  .ofNat 46, .ofNat 101, .ofNat 120, .ofNat 97, .ofNat 109, .ofNat 112, .ofNat 108, .ofNat 101, .ofNat 47, .ofNat 112, .ofNat 117, .ofNat 98, .ofNat 45, .ofNat 103, .ofNat 48, .ofNat 49, .ofNat 52, .ofNat 57, .ofNat 54, .ofNat 47,
  .ofNat 108, .ofNat 97, .ofNat 119, .ofNat 115, .ofNat 46, .ofNat 70, .ofNat 110, .ofNat 82, .ofNat 111, .ofNat 119, .ofNat 115, .ofNat 82, .ofNat 97, .ofNat 110, .ofNat 103, .ofNat 101, .ofNat 32, .ofNat 108, .ofNat 111, .ofNat 111,
  .ofNat 112, .ofNat 46, .ofNat 101, .ofNat 120, .ofNat 97, .ofNat 109, .ofNat 112, .ofNat 108, .ofNat 101, .ofNat 47, .ofNat 112, .ofNat 117, .ofNat 98, .ofNat 45, .ofNat 103, .ofNat 48, .ofNat 49, .ofNat 52, .ofNat 57, .ofNat 54,
  .ofNat 47, .ofNat 108, .ofNat 97, .ofNat 119, .ofNat 115, .ofNat 46, .ofNat 70, .ofNat 110, .ofNat 82, .ofNat 111, .ofNat 119, .ofNat 115, .ofNat 65, .ofNat 112, .ofNat 112, .ofNat 101, .ofNat 110, .ofNat 100, .ofNat 101, .ofNat 100,
  .ofNat 32, .ofNat 108, .ofNat 111, .ofNat 111, .ofNat 112, .ofNat 46, .ofNat 101, .ofNat 120, .ofNat 97, .ofNat 109, .ofNat 112, .ofNat 108, .ofNat 101, .ofNat 47, .ofNat 112, .ofNat 117, .ofNat 98, .ofNat 45, .ofNat 103, .ofNat 48,
  .ofNat 49, .ofNat 52, .ofNat 57, .ofNat 54, .ofNat 47, .ofNat 108, .ofNat 97, .ofNat 119, .ofNat 115, .ofNat 46, .ofNat 70, .ofNat 110, .ofNat 82, .ofNat 111, .ofNat 119, .ofNat 115, .ofNat 77, .ofNat 97, .ofNat 100, .ofNat 101,
  .ofNat 32, .ofNat 108, .ofNat 111, .ofNat 111, .ofNat 112, .ofNat 46, .ofNat 101, .ofNat 120, .ofNat 97, .ofNat 109, .ofNat 112, .ofNat 108, .ofNat 101, .ofNat 47, .ofNat 112, .ofNat 117, .ofNat 98, .ofNat 45, .ofNat 103, .ofNat 48,
  .ofNat 49, .ofNat 52, .ofNat 57, .ofNat 54, .ofNat 47, .ofNat 108, .ofNat 97, .ofNat 119, .ofNat 115, .ofNat 46, .ofNat 70, .ofNat 110, .ofNat 86, .ofNat 97, .ofNat 108, .ofNat 117, .ofNat 101, .ofNat 83, .ofNat 97, .ofNat 109,
  .ofNat 101, .ofNat 32, .ofNat 108, .ofNat 111, .ofNat 111, .ofNat 112, .ofNat 46, .ofNat 101, .ofNat 120, .ofNat 97, .ofNat 109, .ofNat 112, .ofNat 108, .ofNat 101, .ofNat 47, .ofNat 112, .ofNat 117, .ofNat 98, .ofNat 45, .ofNat 103,
  .ofNat 48, .ofNat 49, .ofNat 52, .ofNat 57, .ofNat 54, .ofNat 47, .ofNat 108, .ofNat 97, .ofNat 119, .ofNat 115, .ofNat 46, .ofNat 70, .ofNat 110, .ofNat 82, .ofNat 111, .ofNat 119, .ofNat 115, .ofNat 83, .ofNat 97, .ofNat 109,
  .ofNat 101]
theorem initStr : Tryz.prog.initOrder = String.ofList initChars := by kernel_rfl
theorem initList : Tryz.prog.initOrder.toList = initChars := by rw [initStr, String.toList_ofList]
theorem words_cut : ∃ r, behindMainWord (wordsSigns initChars) = "cut".toList :: r := ⟨(behindMainWord (wordsSigns initChars)).tail, by kernel_rfl⟩
theorem strip_cut (r : List (List Char)) : stripLifts liftWords ("cut".toList :: r) = ([], "cut".toList :: r) := by kernel_rfl
theorem enter_at (P : Program) (h : P.initOrder.toList = initChars) (h2 : P.laysLater = false) (h3 : P.bearsReflect = false) (h4 : P.doorFits [] = true) : P.mayEnter = true := by
  unfold Program.mayEnter
  obtain ⟨r, hr⟩ := words_cut
  rw [h, hr]
  show _ = true
  simp only [strip_cut, h2, h3, h4]
  kernel_rfl
theorem lifts_at (P : Program) (h : P.initOrder.toList = initChars) : P.liftsFinal = false := by
  unfold Program.liftsFinal Program.headLifts
  obtain ⟨r, hr⟩ := words_cut
  rw [h, hr]
  simp only [strip_cut]
  kernel_rfl
theorem make_at (P : Program) (h : P.initOrder.toList = initChars) : P.make = some .cut := by
  unfold Program.make Program.headLifts
  obtain ⟨r, hr⟩ := words_cut
  rw [h, hr]
  simp only [strip_cut]
  kernel_rfl
theorem factEnter : Tryz.prog.mayEnter = true := enter_at _ initList (by kernel_rfl) (by kernel_rfl) (by kernel_rfl)
theorem factLifts : Tryz.prog.liftsFinal = false := lifts_at _ initList
theorem factMake : Tryz.prog.make = some .cut := make_at _ initList
theorem factLaid : laidOutB Tryz.prog = true := by kernel_rfl
theorem factMaps : mapsRowed Tryz.prog = true := by kernel_rfl
theorem factStops : Tryz.prog.stops = [] := by kernel_rfl
theorem factKnobs : Tryz.prog.stopKnobs = [] := by kernel_rfl
theorem factKeys : Tryz.prog.plainKeys = true := by kernel_rfl
theorem factHeard : Tryz.prog.stopsHeard = true := by kernel_rfl
theorem facts_all {P : Program} {f : FuncId} {fn : Func} {s : ChangeSpec} {c : OpenClaim} (h0 : (c.wf (OpenSpec.ofChange s)) = true) (h1 : (laidOutB P) = true) (h2 : (mapsRowed P) = true) (h3 : (fn.params.all (P.readableRec ·)) = true) (h4 : (namedTie P c.named s.vars) = true) (h5 : (c.stops == []) = true) (h6 : (P.stops == []) = true) (h7 : (c.knobs == []) = true) (h8 : (P.stopKnobs == []) = true) (h9 : (c.inPlace == P.inPlace f) = true) (h10 : (c.unfollowed == P.unfollowed f) = true) (h11 : (c.recurses == P.recurses f) = true) (h12 : (c.named == P.varsNamed f) = true) (h13 : (c.maps == (fn.params.toList ++ s.plain.varTypes P).any (P.mapsRec ·)) = true) (h14 : (c.ifaces == (fn.params.toList ++ s.plain.varTypes P).any (P.ifacesRec ·)) = true) (h15 : (c.mapsOut == P.mapsAmong fn.resultTypes.toList) = true) (h16 : (c.loops == (fn.params.toList ++ s.plain.varTypes P).any (P.loopsFrom ·)) = true) (h17 : (c.wideKeys == (fn.params.toList ++ s.plain.varTypes P ++ fn.resultTypes.toList).any (P.wideKeysFrom ·)) = true) (h18 : (s.vars.all (P.varReadable ·)) = true) (h19 : (fn.resultTypes.all (fun t => P.readableRec t && decide (t < P.types.size))) = true) (h20 : (c.ifacesOut == fn.resultTypes.toList.any (P.ifacesRec ·)) = true) (h21 : (c.loopsOut == fn.resultTypes.toList.any (P.loopsFrom ·)) = true) (h22 : (c.plainKeys == P.plainKeys) = true) (h23 : (c.shortTexts.isNone) = true) (h24 : (P.stopsHeard) = true) (h25 : (P.mayEnter) = true) (h26 : (c.lifted == P.liftsFinal) = true) (h27 : (P.make == some c.make) = true) (h28 : (c.kinds == (if c.domain.isEmpty then [] else fn.params.toList.map fun t => match P.underlying t with | some (.int k) => some k | _ => none)) = true) (h29 : (c.pinned == c.pinnedBy) = true) (h30 : (c.veiled == (fn.params.toList ++ s.plain.varTypes P ++ fn.resultTypes.toList).any (P.veiledRec ·)) = true) (h31 : (c.veiledFits P fn.params.toList (fn.params.toList ++ s.plain.varTypes P ++ fn.resultTypes.toList)) = true) : joinedFacts P f fn s c = true := by
  simp only [joinedFacts, Bool.and_eq_true]
  exact ⟨⟨⟨⟨⟨⟨⟨⟨⟨⟨⟨⟨⟨⟨⟨⟨⟨⟨⟨⟨⟨⟨⟨⟨⟨⟨⟨⟨⟨⟨⟨h0, h1⟩, h2⟩, h3⟩, h4⟩, h5⟩, h6⟩, h7⟩, h8⟩, h9⟩, h10⟩, h11⟩, h12⟩, h13⟩, h14⟩, h15⟩, h16⟩, h17⟩, h18⟩, h19⟩, h20⟩, h21⟩, h22⟩, h23⟩, h24⟩, h25⟩, h26⟩, h27⟩, h28⟩, h29⟩, h30⟩, h31⟩
end Go.Proofs.YtglgclkgppomiaaGreat
