/- From the walk of a law over fields; over fields and two lists of data; over fields, data and a number: to what its row asks. The walk of the law FnRowsColumns. -/
import Derived.Test.YtglgclkgppomiaaGreatZ24
set_option linter.unusedVariables false
set_option linter.unusedSimpArgs false
namespace Go.Proofs.YtglgclkgppomiaaGreat
open Go Go.RowKit Go.ChangeShapes Go.WideShapes Go.ChangeAt

theorem readable3 : Tryz.prog.readableRec 3 = true := by kernel_rfl
theorem rowed3 : 3 < Tryz.prog.types.size := of_decide_eq_true (by kernel_rfl)
set_option maxRecDepth 100000 in
/-- A law of fields and two lists of data. -/
theorem contract_fdd (F : FuncId) (f : Func) (s : ChangeSpec) (hp : f.params = #[22, 23, 23]) (hres : f.resultTypes = #[4]) (hvars : s.vars = [])
    (hfn : ∀ (H : Type) (d1 d2 d3 : DataW H), s.fn H [d1, d2, d3] = { results := [.lit (.bool true)], args := [d1, d2, d3] })
    (law : ∀ (w : World) (A A2 A3 : Option Addr) (n c n2 c2 n3 c3 : Nat) (fs : List Fd) (a b : List Dt), InF w A n c fs → InD w A2 n2 c2 a → InD w A3 n3 c3 b → Calls Tryz.prog F #[.slice A n c, .slice A2 n2 c2, .slice A3 n3 c3] w fun e w' => e = .returned (.bool true) ∧ Below w.heap.size w w')
    (H : Type) (enc : TypeId × Value → H) (W : World) (base : Nat) (args : Array Value) (ds gs : List (DataW H)) (before : List MemPlace)
    (hval : ∀ (j : Nat) t v, f.params[j]? = some t → args[j]? = some v → Value.okWide Tryz.prog W .any base t v)
    (hW : DataW.Whole enc Tryz.prog f.params.toList s.vars false W args.toList ds gs before) (hk : Rows.uptoSmall H (ds ++ gs) = true) :
    Calls Tryz.prog F args W fun e W' => ∃ v, e = .returned v ∧ s.post enc Tryz.prog f false true false false W args v W' := by
  have hW' := hW
  obtain ⟨p, q, hA, hV, rfl, hfz, hnd⟩ := hW
  rw [hp] at hA hval
  rw [hvars] at hV
  obtain ⟨v0, vs0, d0, ds0, p0, q0, hargs, rfl, rfl, h0, r0⟩ := trodAll_cons hA
  obtain ⟨v1, vs1, d1, ds1, p1, q1, hargs1, rfl, rfl, h1, r1⟩ := trodAll_cons r0
  obtain ⟨v2, vs2, d2, ds2, p2, q2, hargs2, rfl, rfl, h2, r2⟩ := trodAll_cons r1
  obtain ⟨rfl, rfl, rfl⟩ := trodAll_nil r2
  obtain rfl : args = #[v0, v1, v2] := by cases args; simp_all
  obtain ⟨rfl, rfl⟩ := trodVars_none hV
  have hkb := small_bulk hk
  simp only [List.append_nil, Rows.uptoBulkAll] at hkb
  obtain ⟨A, n, c, fs, rfl, hF⟩ := arg_fds (hval 0 22 v0 rfl rfl) h0 (by omega)
  obtain ⟨A2, n2, c2, dts, rfl, hD⟩ := arg_dts (hval 1 23 v1 rfl rfl) h1 (by omega)
  obtain ⟨A3, n3, c3, dts3, rfl, hD3⟩ := arg_dts (hval 2 23 v2 rfl rfl) h2 (by omega)
  have hlt0 : ∀ x ∈ p0, x.block < W.heap.size := fun x hx => hW'.lt x (by simp [hx])
  have hlt1 : ∀ x ∈ p1, x.block < W.heap.size := fun x hx => hW'.lt x (by simp [hx])
  have hlt2 : ∀ x ∈ p2, x.block < W.heap.size := fun x hx => hW'.lt x (by simp [hx])
  refine (law W A A2 A3 n c n2 c2 n3 c3 fs dts dts3 hF hD hD3).mono fun e W' ⟨he, hb⟩ => ⟨_, he, ?_⟩
  refine post_of_below hW' hb hres Tryz.underlying4 (by simp only [List.append_nil, hfn]) hvars (by simp only [List.append_nil, hfn]) (p0 ++ (p1 ++ (p2 ++ []))) ?_
  simp only [List.append_nil, hfn]
  rw [hp]
  have := trodAll_cons_mk (Below.trod laidOuts readable22 rowed22 h0 hb hlt0) (trodAll_cons_mk (Below.trod laidOuts readable23 rowed23 h1 hb hlt1) (trodAll_cons_mk (Below.trod laidOuts readable23 rowed23 h2 hb hlt2) trodAll_mk0))
  simpa using this
set_option maxRecDepth 100000 in
/-- A law of fields, data and a number. -/
theorem contract_fdk (F : FuncId) (f : Func) (s : ChangeSpec) (hp : f.params = #[22, 23, 3]) (hres : f.resultTypes = #[4]) (hvars : s.vars = [])
    (hfn : ∀ (H : Type) (d1 d2 d3 : DataW H), s.fn H [d1, d2, d3] = { results := [.lit (.bool true)], args := [d1, d2, d3] })
    (law : ∀ (w : World) (A A2 : Option Addr) (n c n2 c2 : Nat) (fs : List Fd) (a : List Dt) (k : Int), InF w A n c fs → InD w A2 n2 c2 a → Calls Tryz.prog F #[.slice A n c, .slice A2 n2 c2, .int .i64 k] w fun e w' => e = .returned (.bool true) ∧ Below w.heap.size w w')
    (H : Type) (enc : TypeId × Value → H) (W : World) (base : Nat) (args : Array Value) (ds gs : List (DataW H)) (before : List MemPlace)
    (hval : ∀ (j : Nat) t v, f.params[j]? = some t → args[j]? = some v → Value.okWide Tryz.prog W .any base t v)
    (hW : DataW.Whole enc Tryz.prog f.params.toList s.vars false W args.toList ds gs before) (hk : Rows.uptoSmall H (ds ++ gs) = true) :
    Calls Tryz.prog F args W fun e W' => ∃ v, e = .returned v ∧ s.post enc Tryz.prog f false true false false W args v W' := by
  have hW' := hW
  obtain ⟨p, q, hA, hV, rfl, hfz, hnd⟩ := hW
  rw [hp] at hA hval
  rw [hvars] at hV
  obtain ⟨v0, vs0, d0, ds0, p0, q0, hargs, rfl, rfl, h0, r0⟩ := trodAll_cons hA
  obtain ⟨v1, vs1, d1, ds1, p1, q1, hargs1, rfl, rfl, h1, r1⟩ := trodAll_cons r0
  obtain ⟨v2, vs2, d2, ds2, p2, q2, hargs2, rfl, rfl, h2, r2⟩ := trodAll_cons r1
  obtain ⟨rfl, rfl, rfl⟩ := trodAll_nil r2
  obtain rfl : args = #[v0, v1, v2] := by cases args; simp_all
  obtain ⟨rfl, rfl⟩ := trodVars_none hV
  have hkb := small_bulk hk
  simp only [List.append_nil, Rows.uptoBulkAll] at hkb
  obtain ⟨A, n, c, fs, rfl, hF⟩ := arg_fds (hval 0 22 v0 rfl rfl) h0 (by omega)
  obtain ⟨A2, n2, c2, dts, rfl, hD⟩ := arg_dts (hval 1 23 v1 rfl rfl) h1 (by omega)
  obtain ⟨k, rfl⟩ := okWide_int Tryz.underlying3 (hval 2 3 v2 rfl rfl)
  have hlt0 : ∀ x ∈ p0, x.block < W.heap.size := fun x hx => hW'.lt x (by simp [hx])
  have hlt1 : ∀ x ∈ p1, x.block < W.heap.size := fun x hx => hW'.lt x (by simp [hx])
  have hlt2 : ∀ x ∈ p2, x.block < W.heap.size := fun x hx => hW'.lt x (by simp [hx])
  refine (law W A A2 n c n2 c2 fs dts k hF hD).mono fun e W' ⟨he, hb⟩ => ⟨_, he, ?_⟩
  refine post_of_below hW' hb hres Tryz.underlying4 (by simp only [List.append_nil, hfn]) hvars (by simp only [List.append_nil, hfn]) (p0 ++ (p1 ++ (p2 ++ []))) ?_
  simp only [List.append_nil, hfn]
  rw [hp]
  have := trodAll_cons_mk (Below.trod laidOuts readable22 rowed22 h0 hb hlt0) (trodAll_cons_mk (Below.trod laidOuts readable23 rowed23 h1 hb hlt1) (trodAll_cons_mk (Below.trod laidOuts readable3 rowed3 h2 hb hlt2) trodAll_mk0))
  simpa using this
set_option maxRecDepth 100000 in
/-- A law of fields. -/
theorem contract_f (F : FuncId) (f : Func) (s : ChangeSpec) (hp : f.params = #[22]) (hres : f.resultTypes = #[4]) (hvars : s.vars = [])
    (hfn : ∀ (H : Type) (d1 : DataW H), s.fn H [d1] = { results := [.lit (.bool true)], args := [d1] })
    (law : ∀ (w : World) (A : Option Addr) (n c : Nat) (fs : List Fd), InF w A n c fs → Calls Tryz.prog F #[.slice A n c] w fun e w' => e = .returned (.bool true) ∧ Below w.heap.size w w')
    (H : Type) (enc : TypeId × Value → H) (W : World) (base : Nat) (args : Array Value) (ds gs : List (DataW H)) (before : List MemPlace)
    (hval : ∀ (j : Nat) t v, f.params[j]? = some t → args[j]? = some v → Value.okWide Tryz.prog W .any base t v)
    (hW : DataW.Whole enc Tryz.prog f.params.toList s.vars false W args.toList ds gs before) (hk : Rows.uptoSmall H (ds ++ gs) = true) :
    Calls Tryz.prog F args W fun e W' => ∃ v, e = .returned v ∧ s.post enc Tryz.prog f false true false false W args v W' := by
  have hW' := hW
  obtain ⟨p, q, hA, hV, rfl, hfz, hnd⟩ := hW
  rw [hp] at hA hval
  rw [hvars] at hV
  obtain ⟨v0, vs0, d0, ds0, p0, q0, hargs, rfl, rfl, h0, r0⟩ := trodAll_cons hA
  obtain ⟨rfl, rfl, rfl⟩ := trodAll_nil r0
  obtain rfl : args = #[v0] := by cases args; simp_all
  obtain ⟨rfl, rfl⟩ := trodVars_none hV
  have hkb := small_bulk hk
  simp only [List.append_nil, Rows.uptoBulkAll] at hkb
  obtain ⟨A, n, c, fs, rfl, hF⟩ := arg_fds (hval 0 22 v0 rfl rfl) h0 (by omega)
  have hlt0 : ∀ x ∈ p0, x.block < W.heap.size := fun x hx => hW'.lt x (by simp [hx])
  refine (law W A n c fs hF).mono fun e W' ⟨he, hb⟩ => ⟨_, he, ?_⟩
  refine post_of_below hW' hb hres Tryz.underlying4 (by simp only [List.append_nil, hfn]) hvars (by simp only [List.append_nil, hfn]) (p0 ++ []) ?_
  simp only [List.append_nil, hfn]
  rw [hp]
  have := trodAll_cons_mk (Below.trod laidOuts readable22 rowed22 h0 hb hlt0) trodAll_mk0
  simpa using this
end Go.Proofs.YtglgclkgppomiaaGreat

namespace Go.Proofs.YtglgclkgppomiaaGreat
open Go Go.RowKit

set_option maxRecDepth 100000 in
set_option maxHeartbeats 2000000 in
theorem columns31 {w : World} {A : Option Addr} {n c : Nat} {fs : List Fd} (hF : InF w A n c fs) (ha : areFields fs = true) :
    Calls Tryz.prog 31 #[.slice A n c] w fun e w' => e = .returned (.int .i64 (leaves fs : Nat)) ∧ Below w.heap.size w w' := by
  obtain ⟨h1, h2, h3⟩ := areFields_facts ha
  have hl : leaves fs ≤ 300 := Nat.le_trans (leaves_le fs) h2
  have H1 := Lib.hid h1
  have H3 := Lib.hid h3
  have HF := Lib.hid hF
  clear h1 h3 hF ha
  go_enter Tryz.func31, Tryz.ntmps31
  go_wp2_with fail
  refine (group_any fs A n c 0 w (by omega) HF.out.at_ H1.out H3.out).mono ?_
  rintro e w1 ⟨T, x, rfl, hnd, hb1⟩
  have HND := Lib.hid hnd
  have HB1 := Lib.hid hb1
  clear hnd hb1
  go_wp2_with fail
  refine (schema48 fs 0 0 w.heap.size T x w1 (by omega) HND.out (by omega) H3.out H1.out (by omega)).mono ?_
  rintro e w2 ⟨g, rfl, hs, hb2⟩
  have HB2 := Lib.hid (HB1.out.trans (hb2.mono HB1.out.size))
  have hc := hs.c0
  clear hs hb2
  go_wp2_with go_in
  go_ret
  exact ⟨rfl, HB2.out⟩

set_option maxRecDepth 100000 in
set_option maxHeartbeats 2000000 in
theorem law13 {w : World} {A : Option Addr} {n c : Nat} {fs : List Fd} (hF : InF w A n c fs) :
    Calls Tryz.prog 13 #[.slice A n c] w fun e w' => e = .returned (.bool true) ∧ Below w.heap.size w w' := by
  have HF := Lib.hid hF
  obtain ⟨s1, s2, s3⟩ := small_len hF.len.2
  have hA := fun W (h : InF W A n c fs) => areFields_any fs A n c W (by have := h.sz; omega) h.at_ h.nm
  have HA := Lib.hid hA
  clear hF hA
  by_cases ha : areFields fs = true
  · have HT := Lib.hid ha
    rw [ha] at HA
    clear ha
    go_enter Tryz.func13, Tryz.ntmps13
    go_wp2_with fail
    refine (HA.out w HF.out).mono ?_
    rintro e w1 ⟨rfl, hb1⟩
    have HF1 := Lib.hid (HF.out.mono hb1)
    have HB1 := Lib.hid hb1
    clear hb1
    go_wp2_with fail
    refine (HA.out w1 HF1.out).mono ?_
    rintro e w2 ⟨rfl, hb2⟩
    have HF2 := Lib.hid (HF1.out.mono hb2)
    have HB2 := Lib.hid (HB1.out.trans (hb2.mono HB1.out.size))
    clear hb2
    go_wp2_with fail
    refine (columns31 HF2.out HT.out).mono ?_
    rintro e w3 ⟨rfl, hb3⟩
    have HF3 := Lib.hid (HF2.out.mono hb3)
    have HB3 := Lib.hid (HB2.out.trans (hb3.mono HB2.out.size))
    clear hb3
    go_wp2_with fail
    refine (leaves_all 1000000000 (Nat.le_refl _) fs A n c w3 (by have := HF.out.sz; omega) HF3.out.at_).mono ?_
    rintro e w4 ⟨rfl, hb4⟩
    have HB4 := Lib.hid (HB3.out.trans (hb4.mono HB3.out.size))
    clear hb4
    go_wp2_with fail
    go_ret
    exact ⟨ret_bool (by simp), HB4.out⟩
  · have hr' : areFields fs = false := by simpa using ha
    rw [hr'] at HA
    clear ha hr'
    go_enter Tryz.func13, Tryz.ntmps13
    go_wp2_with fail
    refine (HA.out w HF.out).mono ?_
    rintro e w1 ⟨rfl, hb1⟩
    have HB1 := Lib.hid hb1
    clear hb1
    go_wp2_with fail
    refine (works20 w1).mono ?_
    rintro e w2 ⟨rfl, hb2⟩
    have HB2 := Lib.hid (HB1.out.trans (hb2.mono HB1.out.size))
    clear hb2
    go_wp2_with fail
    go_ret
    exact ⟨rfl, HB2.out⟩
end Go.Proofs.YtglgclkgppomiaaGreat
