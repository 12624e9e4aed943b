/- From the walk of a law over fields; over fields and two lists of data; over fields, data and a number: to what its row asks. -/
import Derived.Test.YtglgclkgppomiaaGreatZ24
set_option linter.unusedVariables false
set_option linter.unusedSimpArgs false
namespace Go.Proofs.YtglgclkgppomiaaGreat
open Go Go.RowKit Go.ChangeShapes Go.WideShapes Go.ChangeAt

theorem readable3 : Tryz.prog.readableRec 3 = true := by kernel_rfl
theorem rowed3 : 3 < Tryz.prog.types.size := of_decide_eq_true (by kernel_rfl)
set_option maxRecDepth 100000 in
/-- A law of fields and two lists of data. -/
theorem contract_fdd (F : FuncId) (f : Func) (s : ChangeSpec) (hp : f.params = #[22, 23, 23]) (hres : f.resultTypes = #[4]) (hvars : s.vars = [])
    (hfn : ∀ (H : Type) (d1 d2 d3 : DataW H), s.fn H [d1, d2, d3] = { results := [.lit (.bool true)], args := [d1, d2, d3] })
    (law : ∀ (w : World) (A A2 A3 : Option Addr) (n c n2 c2 n3 c3 : Nat) (fs : List Fd) (a b : List Dt), InF w A n c fs → InD w A2 n2 c2 a → InD w A3 n3 c3 b → Calls Tryz.prog F #[.slice A n c, .slice A2 n2 c2, .slice A3 n3 c3] w fun e w' => e = .returned (.bool true) ∧ Below w.heap.size w w')
    (H : Type) (enc : TypeId × Value → H) (W : World) (base : Nat) (args : Array Value) (ds gs : List (DataW H)) (before : List MemPlace)
    (hval : ∀ (j : Nat) t v, f.params[j]? = some t → args[j]? = some v → Value.okWide Tryz.prog W .any base t v)
    (hW : DataW.Whole enc Tryz.prog f.params.toList s.vars false W args.toList ds gs before) (hk : Rows.uptoSmall H (ds ++ gs) = true) :
    Calls Tryz.prog F args W fun e W' => ∃ v, e = .returned v ∧ s.post enc Tryz.prog f false true false false W args v W' := by
  have hW' := hW
  obtain ⟨p, q, hA, hV, rfl, hfz, hnd⟩ := hW
  rw [hp] at hA hval
  rw [hvars] at hV
  obtain ⟨v0, vs0, d0, ds0, p0, q0, hargs, rfl, rfl, h0, r0⟩ := trodAll_cons hA
  obtain ⟨v1, vs1, d1, ds1, p1, q1, hargs1, rfl, rfl, h1, r1⟩ := trodAll_cons r0
  obtain ⟨v2, vs2, d2, ds2, p2, q2, hargs2, rfl, rfl, h2, r2⟩ := trodAll_cons r1
  obtain ⟨rfl, rfl, rfl⟩ := trodAll_nil r2
  obtain rfl : args = #[v0, v1, v2] := by cases args; simp_all
  obtain ⟨rfl, rfl⟩ := trodVars_none hV
  have hkb := small_bulk hk
  simp only [List.append_nil, Rows.uptoBulkAll] at hkb
  obtain ⟨A, n, c, fs, rfl, hF⟩ := arg_fds (hval 0 22 v0 rfl rfl) h0 (by omega)
  obtain ⟨A2, n2, c2, dts, rfl, hD⟩ := arg_dts (hval 1 23 v1 rfl rfl) h1 (by omega)
  obtain ⟨A3, n3, c3, dts3, rfl, hD3⟩ := arg_dts (hval 2 23 v2 rfl rfl) h2 (by omega)
  have hlt0 : ∀ x ∈ p0, x.block < W.heap.size := fun x hx => hW'.lt x (by simp [hx])
  have hlt1 : ∀ x ∈ p1, x.block < W.heap.size := fun x hx => hW'.lt x (by simp [hx])
  have hlt2 : ∀ x ∈ p2, x.block < W.heap.size := fun x hx => hW'.lt x (by simp [hx])
  refine (law W A A2 A3 n c n2 c2 n3 c3 fs dts dts3 hF hD hD3).mono fun e W' ⟨he, hb⟩ => ⟨_, he, ?_⟩
  refine post_of_below hW' hb hres Tryz.underlying4 (by simp only [List.append_nil, hfn]) hvars (by simp only [List.append_nil, hfn]) (p0 ++ (p1 ++ (p2 ++ []))) ?_
  simp only [List.append_nil, hfn]
  rw [hp]
  have := trodAll_cons_mk (Below.trod laidOuts readable22 rowed22 h0 hb hlt0) (trodAll_cons_mk (Below.trod laidOuts readable23 rowed23 h1 hb hlt1) (trodAll_cons_mk (Below.trod laidOuts readable23 rowed23 h2 hb hlt2) trodAll_mk0))
  simpa using this
set_option maxRecDepth 100000 in
/-- A law of fields, data and a number. -/
theorem contract_fdk (F : FuncId) (f : Func) (s : ChangeSpec) (hp : f.params = #[22, 23, 3]) (hres : f.resultTypes = #[4]) (hvars : s.vars = [])
    (hfn : ∀ (H : Type) (d1 d2 d3 : DataW H), s.fn H [d1, d2, d3] = { results := [.lit (.bool true)], args := [d1, d2, d3] })
    (law : ∀ (w : World) (A A2 : Option Addr) (n c n2 c2 : Nat) (fs : List Fd) (a : List Dt) (k : Int), InF w A n c fs → InD w A2 n2 c2 a → Calls Tryz.prog F #[.slice A n c, .slice A2 n2 c2, .int .i64 k] w fun e w' => e = .returned (.bool true) ∧ Below w.heap.size w w')
    (H : Type) (enc : TypeId × Value → H) (W : World) (base : Nat) (args : Array Value) (ds gs : List (DataW H)) (before : List MemPlace)
    (hval : ∀ (j : Nat) t v, f.params[j]? = some t → args[j]? = some v → Value.okWide Tryz.prog W .any base t v)
    (hW : DataW.Whole enc Tryz.prog f.params.toList s.vars false W args.toList ds gs before) (hk : Rows.uptoSmall H (ds ++ gs) = true) :
    Calls Tryz.prog F args W fun e W' => ∃ v, e = .returned v ∧ s.post enc Tryz.prog f false true false false W args v W' := by
  have hW' := hW
  obtain ⟨p, q, hA, hV, rfl, hfz, hnd⟩ := hW
  rw [hp] at hA hval
  rw [hvars] at hV
  obtain ⟨v0, vs0, d0, ds0, p0, q0, hargs, rfl, rfl, h0, r0⟩ := trodAll_cons hA
  obtain ⟨v1, vs1, d1, ds1, p1, q1, hargs1, rfl, rfl, h1, r1⟩ := trodAll_cons r0
  obtain ⟨v2, vs2, d2, ds2, p2, q2, hargs2, rfl, rfl, h2, r2⟩ := trodAll_cons r1
  obtain ⟨rfl, rfl, rfl⟩ := trodAll_nil r2
  obtain rfl : args = #[v0, v1, v2] := by cases args; simp_all
  obtain ⟨rfl, rfl⟩ := trodVars_none hV
  have hkb := small_bulk hk
  simp only [List.append_nil, Rows.uptoBulkAll] at hkb
  obtain ⟨A, n, c, fs, rfl, hF⟩ := arg_fds (hval 0 22 v0 rfl rfl) h0 (by omega)
  obtain ⟨A2, n2, c2, dts, rfl, hD⟩ := arg_dts (hval 1 23 v1 rfl rfl) h1 (by omega)
  obtain ⟨k, rfl⟩ := okWide_int Tryz.underlying3 (hval 2 3 v2 rfl rfl)
  have hlt0 : ∀ x ∈ p0, x.block < W.heap.size := fun x hx => hW'.lt x (by simp [hx])
  have hlt1 : ∀ x ∈ p1, x.block < W.heap.size := fun x hx => hW'.lt x (by simp [hx])
  have hlt2 : ∀ x ∈ p2, x.block < W.heap.size := fun x hx => hW'.lt x (by simp [hx])
  refine (law W A A2 n c n2 c2 fs dts k hF hD).mono fun e W' ⟨he, hb⟩ => ⟨_, he, ?_⟩
  refine post_of_below hW' hb hres Tryz.underlying4 (by simp only [List.append_nil, hfn]) hvars (by simp only [List.append_nil, hfn]) (p0 ++ (p1 ++ (p2 ++ []))) ?_
  simp only [List.append_nil, hfn]
  rw [hp]
  have := trodAll_cons_mk (Below.trod laidOuts readable22 rowed22 h0 hb hlt0) (trodAll_cons_mk (Below.trod laidOuts readable23 rowed23 h1 hb hlt1) (trodAll_cons_mk (Below.trod laidOuts readable3 rowed3 h2 hb hlt2) trodAll_mk0))
  simpa using this
set_option maxRecDepth 100000 in
/-- A law of fields. -/
theorem contract_f (F : FuncId) (f : Func) (s : ChangeSpec) (hp : f.params = #[22]) (hres : f.resultTypes = #[4]) (hvars : s.vars = [])
    (hfn : ∀ (H : Type) (d1 : DataW H), s.fn H [d1] = { results := [.lit (.bool true)], args := [d1] })
    (law : ∀ (w : World) (A : Option Addr) (n c : Nat) (fs : List Fd), InF w A n c fs → Calls Tryz.prog F #[.slice A n c] w fun e w' => e = .returned (.bool true) ∧ Below w.heap.size w w')
    (H : Type) (enc : TypeId × Value → H) (W : World) (base : Nat) (args : Array Value) (ds gs : List (DataW H)) (before : List MemPlace)
    (hval : ∀ (j : Nat) t v, f.params[j]? = some t → args[j]? = some v → Value.okWide Tryz.prog W .any base t v)
    (hW : DataW.Whole enc Tryz.prog f.params.toList s.vars false W args.toList ds gs before) (hk : Rows.uptoSmall H (ds ++ gs) = true) :
    Calls Tryz.prog F args W fun e W' => ∃ v, e = .returned v ∧ s.post enc Tryz.prog f false true false false W args v W' := by
  have hW' := hW
  obtain ⟨p, q, hA, hV, rfl, hfz, hnd⟩ := hW
  rw [hp] at hA hval
  rw [hvars] at hV
  obtain ⟨v0, vs0, d0, ds0, p0, q0, hargs, rfl, rfl, h0, r0⟩ := trodAll_cons hA
  obtain ⟨rfl, rfl, rfl⟩ := trodAll_nil r0
  obtain rfl : args = #[v0] := by cases args; simp_all
  obtain ⟨rfl, rfl⟩ := trodVars_none hV
  have hkb := small_bulk hk
  simp only [List.append_nil, Rows.uptoBulkAll] at hkb
  obtain ⟨A, n, c, fs, rfl, hF⟩ := arg_fds (hval 0 22 v0 rfl rfl) h0 (by omega)
  have hlt0 : ∀ x ∈ p0, x.block < W.heap.size := fun x hx => hW'.lt x (by simp [hx])
  refine (law W A n c fs hF).mono fun e W' ⟨he, hb⟩ => ⟨_, he, ?_⟩
  refine post_of_below hW' hb hres Tryz.underlying4 (by simp only [List.append_nil, hfn]) hvars (by simp only [List.append_nil, hfn]) (p0 ++ []) ?_
  simp only [List.append_nil, hfn]
  rw [hp]
  have := trodAll_cons_mk (Below.trod laidOuts readable22 rowed22 h0 hb hlt0) trodAll_mk0
  simpa using this
end Go.Proofs.YtglgclkgppomiaaGreat
