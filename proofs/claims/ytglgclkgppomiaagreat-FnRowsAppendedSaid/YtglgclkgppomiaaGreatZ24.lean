/- What a law's arguments are, as lists of fields and of data; whether they are a row. From the walk of a law over a list of fields and a list of data to what its row asks. -/
import Derived.Test.YtglgclkgppomiaaGreatZ15
import Derived.Test.YtglgclkgppomiaaGreatZ16
import Derived.Test.YtglgclkgppomiaaGreatZ21
import Derived.Test.YtglgclkgppomiaaGreatZ23
set_option linter.unusedVariables false
set_option linter.unusedSimpArgs false
namespace Go.Proofs.YtglgclkgppomiaaGreat
open Go Go.RowKit

structure InF (w : World) (A : Option Addr) (n c : Nat) (fs : List Fd) : Prop where
  at_ : FdsAt w w.heap.size A n c fs
  nm : NamesFit fs
  sz : fdsSize fs ≤ 2000000
structure InD (w : World) (A : Option Addr) (n c : Nat) (ds : List Dt) : Prop where
  at_ : DtsAt w w.heap.size A n c ds
  tx : TextsFit ds
  nf : NumsFit ds
  sz : dtsSize ds ≤ 2000000
theorem InF.mono {w w' : World} {A : Option Addr} {n c : Nat} {fs : List Fd} (h : InF w A n c fs) (hb : Below w.heap.size w w') : InF w' A n c fs := ⟨h.at_.mono hb hb.size, h.nm, h.sz⟩
theorem InD.mono {w w' : World} {A : Option Addr} {n c : Nat} {ds : List Dt} (h : InD w A n c ds) (hb : Below w.heap.size w w') : InD w' A n c ds := ⟨h.at_.mono hb hb.size, h.tx, h.nf, h.sz⟩
theorem InF.len {w : World} {A : Option Addr} {n c : Nat} {fs : List Fd} (h : InF w A n c fs) : fs.length = n ∧ n ≤ 2000000 := by
  have h1 := h.at_.len.1
  have h2 := fdsSize_length fs
  have h3 := h.sz
  omega
theorem InD.len {w : World} {A : Option Addr} {n c : Nat} {ds : List Dt} (h : InD w A n c ds) : ds.length = n ∧ n ≤ 2000000 := by
  have h1 := h.at_.len.1
  have h2 := dtsSize_length ds
  have h3 := h.sz
  omega
theorem isRow19 {w : World} {A A2 : Option Addr} {n c n2 c2 : Nat} {fs : List Fd} {ds : List Dt} (hF : InF w A n c fs) (hD : InD w A2 n2 c2 ds) :
    Calls Tryz.prog 19 #[.slice A n c, .slice A2 n2 c2] w fun e w' => e = .returned (.bool (isRow fs ds)) ∧ Below w.heap.size w w' :=
  isRow_any fs ds A n c A2 n2 c2 w (by have := hF.sz; omega) hF.at_ hF.nm hD.at_ hD.tx (by have := hD.len; omega)
theorem small_len {n : Nat} (h : n ≤ 2000000) : decide ((2147483647 : Int) < (n : Int)) = false ∧ decide (2147483647 < n) = false ∧ ¬ (2147483647 < n) := by
  refine ⟨by simp; omega, by simp; omega, by omega⟩
end Go.Proofs.YtglgclkgppomiaaGreat

namespace Go.Proofs.YtglgclkgppomiaaGreat
open Go Go.RowKit Go.ChangeShapes Go.WideShapes Go.ChangeAt

theorem ownKnobs : ownKnob Tryz.prog.godebug = none := by kernel_rfl
theorem laidOuts : laidOutB Tryz.prog = true := by kernel_rfl
theorem readable22 : Tryz.prog.readableRec 22 = true := by kernel_rfl
theorem readable23 : Tryz.prog.readableRec 23 = true := by kernel_rfl
theorem rowed22 : 22 < Tryz.prog.types.size := of_decide_eq_true (by kernel_rfl)
theorem rowed23 : 23 < Tryz.prog.types.size := of_decide_eq_true (by kernel_rfl)
theorem sliceCells (a : Option Addr) (n c : Nat) : (Value.slice a n c).cells.toList = [.slice a n c] := rfl
section
variable {H : Type} {enc : TypeId × Value → H}
set_option maxRecDepth 100000 in
theorem arg_fds {W : World} {base : Nat} {v : Value} {d : DataW H} {p : List MemPlace} (hv : Value.okWide Tryz.prog W .any base 22 v) (h : DataW.Trod enc Tryz.prog W 0 (fun _ => true) true 22 v d p) (hb : Rows.uptoBulk d ≤ 1048576) :
    ∃ A n c fs, v = .slice A n c ∧ InF W A n c fs := by
  obtain ⟨a, l, cap, rfl⟩ := okWide_slice Tryz.underlying22 hv
  obtain ⟨fuel, hf⟩ := h
  rw [sliceCells] at hf
  obtain ⟨A, n, c, fs, he, h1, h2, h3⟩ := read_fds W (Rows.uptoBulk d) fuel _ (d, p) (Nat.le_refl _) hb hf
  simp only [List.cons.injEq, and_true] at he
  exact ⟨A, n, c, fs, he, h1, h2, Nat.le_trans (Nat.le_trans h3 hb) (by omega)⟩
set_option maxRecDepth 100000 in
theorem arg_dts {W : World} {base : Nat} {v : Value} {d : DataW H} {p : List MemPlace} (hv : Value.okWide Tryz.prog W .any base 23 v) (h : DataW.Trod enc Tryz.prog W 0 (fun _ => true) true 23 v d p) (hb : Rows.uptoBulk d ≤ 1048576) :
    ∃ A n c ds, v = .slice A n c ∧ InD W A n c ds := by
  obtain ⟨a, l, cap, rfl⟩ := okWide_slice Tryz.underlying23 hv
  obtain ⟨fuel, hf⟩ := h
  rw [sliceCells] at hf
  obtain ⟨A, n, c, ds, he, h1, h2, h3, h4⟩ := read_dts W (Rows.uptoBulk d) fuel _ (d, p) (Nat.le_refl _) hb hf
  simp only [List.cons.injEq, and_true] at he
  exact ⟨A, n, c, ds, he, h1, h2, h3, Nat.le_trans (Nat.le_trans h4 hb) (by omega)⟩
theorem small_bulk {l : List (DataW H)} (h : Rows.uptoSmall H l = true) : Rows.uptoBulkAll l ≤ 1048576 := of_decide_eq_true h
end
set_option maxRecDepth 100000 in
/-- A law of fields and data. -/
theorem contract_fd (F : FuncId) (f : Func) (s : ChangeSpec) (hp : f.params = #[22, 23]) (hres : f.resultTypes = #[4]) (hvars : s.vars = [])
    (hfn : ∀ (H : Type) (d1 d2 : DataW H), s.fn H [d1, d2] = { results := [.lit (.bool true)], args := [d1, d2] })
    (law : ∀ (w : World) (A A2 : Option Addr) (n c n2 c2 : Nat) (fs : List Fd) (ds : List Dt), InF w A n c fs → InD w A2 n2 c2 ds → Calls Tryz.prog F #[.slice A n c, .slice A2 n2 c2] w fun e w' => e = .returned (.bool true) ∧ Below w.heap.size w w')
    (H : Type) (enc : TypeId × Value → H) (W : World) (base : Nat) (args : Array Value) (ds gs : List (DataW H)) (before : List MemPlace)
    (hval : ∀ (j : Nat) t v, f.params[j]? = some t → args[j]? = some v → Value.okWide Tryz.prog W .any base t v)
    (hW : DataW.Whole enc Tryz.prog f.params.toList s.vars false W args.toList ds gs before) (hk : Rows.uptoSmall H (ds ++ gs) = true) :
    Calls Tryz.prog F args W fun e W' => ∃ v, e = .returned v ∧ s.post enc Tryz.prog f false true false false W args v W' := by
  have hW' := hW
  obtain ⟨p, q, hA, hV, rfl, hfz, hnd⟩ := hW
  rw [hp] at hA hval
  rw [hvars] at hV
  obtain ⟨v0, vs0, d0, ds0, p0, q0, hargs, rfl, rfl, h0, r0⟩ := trodAll_cons hA
  obtain ⟨v1, vs1, d1, ds1, p1, q1, hargs1, rfl, rfl, h1, r1⟩ := trodAll_cons r0
  obtain ⟨rfl, rfl, rfl⟩ := trodAll_nil r1
  obtain rfl : args = #[v0, v1] := by cases args; simp_all
  obtain ⟨rfl, rfl⟩ := trodVars_none hV
  have hkb := small_bulk hk
  simp only [List.append_nil, Rows.uptoBulkAll] at hkb
  obtain ⟨A, n, c, fs, rfl, hF⟩ := arg_fds (hval 0 22 v0 rfl rfl) h0 (by omega)
  obtain ⟨A2, n2, c2, dts, rfl, hD⟩ := arg_dts (hval 1 23 v1 rfl rfl) h1 (by omega)
  have hlt0 : ∀ x ∈ p0, x.block < W.heap.size := fun x hx => hW'.lt x (by simp [hx])
  have hlt1 : ∀ x ∈ p1, x.block < W.heap.size := fun x hx => hW'.lt x (by simp [hx])
  refine (law W A A2 n c n2 c2 fs dts hF hD).mono fun e W' ⟨he, hb⟩ => ⟨_, he, ?_⟩
  refine post_of_below hW' hb hres Tryz.underlying4 (by simp only [List.append_nil, hfn]) hvars (by simp only [List.append_nil, hfn]) (p0 ++ (p1 ++ [])) ?_
  simp only [List.append_nil, hfn]
  rw [hp]
  have := trodAll_cons_mk (Below.trod laidOuts readable22 rowed22 h0 hb hlt0) (trodAll_cons_mk (Below.trod laidOuts readable23 rowed23 h1 hb hlt1) trodAll_mk0)
  simpa using this
end Go.Proofs.YtglgclkgppomiaaGreat
