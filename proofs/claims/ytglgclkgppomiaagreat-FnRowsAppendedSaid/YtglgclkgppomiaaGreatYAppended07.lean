/- How the arguments read: cells, lists of cells, and lists of lists of cells. From the walk of a law over cells to what its row asks. The walk of the law FnRowsSame (printed by tools/gen_t17.py). The walk of the law FnRowsAppended. -/
import Derived.Test.YtglgclkgppomiaaGreatYAppended04
import Derived.Test.YtglgclkgppomiaaGreatYAppended06
import Derived.Test.YtglgclkgppomiaaGreatZ21
import Derived.Test.YtglgclkgppomiaaGreatZ24
set_option linter.unusedVariables false
set_option linter.unusedSimpArgs false
namespace Go.Proofs.YtglgclkgppomiaaGreat
open Go Go.RowKit Go.ChangeShapes Go.WideShapes Go.ChangeAt Go.Deep

/-- What every cell in memory is: no text longer than any text, and a number of its kind. -/
def CellFit (x : Cl) : Prop := x.text.size ≤ 9223372036854775807 ∧ -9223372036854775808 ≤ x.num ∧ x.num ≤ 9223372036854775807
instance : Inhabited Cl := ⟨⟨0, 0, 0, false, 0, 0, .empty⟩⟩
theorem cellsOf39 : Tryz.prog.cellsOf 39 = 7 := by kernel_rfl
theorem cellsOf26 : Tryz.prog.cellsOf 26 = 1 := by kernel_rfl
theorem maxLen_val : maxLen = 9223372036854775807 := by decide
section
variable {H : Type} {enc : TypeId × Value → H}
theorem read_cell {W : World} {n : Nat} {cs : List Value} {y : DataW H × List MemPlace} (h : DataW.trod enc Tryz.prog W 0 (fun _ => true) true n 39 cs = some y) : ∃ x : Cl, cs = x.vals ∧ CellFit x := by
  obtain ⟨xs, m, _, rfl, hl, hxl, hx⟩ := DataW.trod_struct Tryz.underlying39 h
  rw [cellsOf39] at hl
  obtain ⟨v0, v1, v2, v3, v4, v5, v6, rfl⟩ : ∃ v0 v1 v2 v3 v4 v5 v6, cs = [v0, v1, v2, v3, v4, v5, v6] := by
    rcases cs with _ | ⟨v0, _ | ⟨v1, _ | ⟨v2, _ | ⟨v3, _ | ⟨v4, _ | ⟨v5, _ | ⟨v6, _ | ⟨v7, r⟩⟩⟩⟩⟩⟩⟩⟩ <;> simp at hl
    exact ⟨v0, v1, v2, v3, v4, v5, v6, rfl⟩
  rcases xs with _ | ⟨x0, _ | ⟨x1, _ | ⟨x2, _ | ⟨x3, _ | ⟨x4, _ | ⟨x5, _ | ⟨x6, _ | ⟨x7, r⟩⟩⟩⟩⟩⟩⟩⟩ <;> (try (simp at hxl; done))
  have y0 : DataW.trod enc Tryz.prog W 0 (fun _ => true) true m 3 ((List.drop 0 [v0, v1, v2, v3, v4, v5, v6]).take (Tryz.prog.cellsOf 3)) = some x0 := hx 0 _ rfl
  rw [cellsOf3] at y0
  have y1 : DataW.trod enc Tryz.prog W 0 (fun _ => true) true m 3 ((List.drop 1 [v0, v1, v2, v3, v4, v5, v6]).take (Tryz.prog.cellsOf 3)) = some x1 := hx 1 _ rfl
  rw [cellsOf3] at y1
  have y2 : DataW.trod enc Tryz.prog W 0 (fun _ => true) true m 3 ((List.drop 2 [v0, v1, v2, v3, v4, v5, v6]).take (Tryz.prog.cellsOf 3)) = some x2 := hx 2 _ rfl
  rw [cellsOf3] at y2
  have y3 : DataW.trod enc Tryz.prog W 0 (fun _ => true) true m 4 ((List.drop 3 [v0, v1, v2, v3, v4, v5, v6]).take (Tryz.prog.cellsOf 4)) = some x3 := hx 3 _ rfl
  rw [cellsOf4] at y3
  have y4 : DataW.trod enc Tryz.prog W 0 (fun _ => true) true m 3 ((List.drop 4 [v0, v1, v2, v3, v4, v5, v6]).take (Tryz.prog.cellsOf 3)) = some x4 := hx 4 _ rfl
  rw [cellsOf3] at y4
  have y5 : DataW.trod enc Tryz.prog W 0 (fun _ => true) true m 2 ((List.drop 5 [v0, v1, v2, v3, v4, v5, v6]).take (Tryz.prog.cellsOf 2)) = some x5 := hx 5 _ rfl
  rw [cellsOf2] at y5
  have y6 : DataW.trod enc Tryz.prog W 0 (fun _ => true) true m 9 ((List.drop 6 [v0, v1, v2, v3, v4, v5, v6]).take (Tryz.prog.cellsOf 9)) = some x6 := hx 6 _ rfl
  rw [cellsOf9] at y6
  obtain ⟨z0, e0, _, _⟩ := DataW.trod_int Tryz.underlying3 y0
  obtain ⟨z1, e1, _, _⟩ := DataW.trod_int Tryz.underlying3 y1
  obtain ⟨z2, e2, _, _⟩ := DataW.trod_int Tryz.underlying3 y2
  obtain ⟨z3, e3, _⟩ := DataW.trod_bool Tryz.underlying4 y3
  obtain ⟨z4, e4, _, _⟩ := DataW.trod_int Tryz.underlying3 y4
  obtain ⟨z5, e5, _, hz5⟩ := DataW.trod_int Tryz.underlying2 y5
  obtain ⟨z6, e6, _, hz6⟩ := DataW.trod_string Tryz.underlying9 y6
  simp at e0 e1 e2 e3 e4 e5 e6
  subst e0 e1 e2 e3 e4 e5 e6
  exact ⟨⟨z0, z1, z2, z3, z4, z5, z6⟩, rfl, by rw [← maxLen_val]; exact hz6, bounds_i64 hz5⟩
theorem read_cls (W : World) (n : Nat) (cs : List Value) (x : DataW H × List MemPlace) (h : DataW.trod enc Tryz.prog W 0 (fun _ => true) true n 26 cs = some x) :
    ∃ A len cap cl, cs = [.slice A len cap] ∧ ClsAt W W.heap.size A len cap cl ∧ cl.length ≤ 9223372036854775807 ∧ ∀ y ∈ cl, CellFit y := by
  rcases open_slice Tryz.underlying26 h with ⟨rfl, rfl⟩ | ⟨a, len, cap, m, q, D, Pl, rfl, _, hlc, hcm, hm, rfl, hel⟩
  · exact ⟨none, 0, 0, [], rfl, ⟨rfl, Nat.le_refl _, fun h0 => absurd h0 (by omega)⟩, by simp, fun y hy => by cases hy⟩
  · simp only [if_true] at hm
    subst hm
    rw [cellsOf39] at hel
    rw [maxLen_val] at hcm
    have key : ∀ i, i < len → ∃ y : Cl, (∀ k, k < 7 → W.cell? ((a.add (i * 7)).add k) = y.vals[k]?) ∧ (a.add (i * 7)).block < W.heap.size ∧ CellFit y := fun i hi => by
      obtain ⟨cs', hc', ht'⟩ := hel i (by omega)
      obtain ⟨y, rfl, hy⟩ := read_cell ht'
      exact ⟨y, (cells_get hc').2, World.cells?_block hc' (by omega), hy⟩
    by_cases h0 : len = 0
    · subst h0
      exact ⟨some a, 0, _, [], rfl, ⟨rfl, hlc, fun h0 => absurd h0 (by omega)⟩, by simp, fun y hy => by cases hy⟩
    · obtain ⟨r, hr⟩ := choose_lt (α := Cl) key
      obtain ⟨b, o, rfl⟩ : ∃ b o, a = ⟨b, o, none⟩ := plain_add (v := .int .i64 (r 0).col) (by
        have := (hr 0 (by omega)).1 0 (by omega)
        rw [Nat.zero_mul] at this
        have e : (a.add 0).add 0 = a.add 0 := by unfold Addr.add; simp
        rw [e] at this; exact this)
      refine ⟨_, len, _, (List.range len).map r, rfl, ⟨by simp, hlc, fun _ => ⟨b, o, rfl, ?_, fun k y hk => ?_⟩⟩, by simp; omega, fun y hy => ?_⟩
      · have := (hr 0 (by omega)).2.1
        rw [Nat.zero_mul, Addr.add_lit] at this
        exact this
      · obtain ⟨hkl, rfl⟩ := mem_range_map hk
        have hc := (hr k hkl).1
        have hcell : ∀ i, (Addr.add (⟨b, o, none⟩ : Addr) (k * 7)).add i = ⟨b, o + k * 7 + i, none⟩ := fun i => by rw [Addr.add_lit, Addr.add_lit]
        simp only [hcell] at hc
        exact ⟨hc 0 (by omega), hc 1 (by omega), hc 2 (by omega), hc 3 (by omega), hc 4 (by omega), hc 5 (by omega), hc 6 (by omega)⟩
      · obtain ⟨i, hi, rfl⟩ := List.mem_map.1 hy
        exact (hr i (List.mem_range.1 hi)).2.2
theorem read_lss (W : World) (n : Nat) (cs : List Value) (x : DataW H × List MemPlace) (h : DataW.trod enc Tryz.prog W 0 (fun _ => true) true n 49 cs = some x) :
    ∃ A0 len cap ls A cc, cs = [.slice A0 len cap] ∧ LsAt W W.heap.size A0 len cap ls A cc ∧ ls.length ≤ 9223372036854775807 ∧ ∀ l ∈ ls, l.length ≤ 9223372036854775807 ∧ ∀ y ∈ l, CellFit y := by
  rcases open_slice Tryz.underlying49 h with ⟨rfl, rfl⟩ | ⟨a, len, cap, m, q, D, Pl, rfl, _, hlc, hcm, hm, rfl, hel⟩
  · exact ⟨none, 0, 0, [], fun _ => none, fun _ => 0, rfl, ⟨⟨rfl, Nat.le_refl _⟩, fun k l hk => by simp at hk⟩, by simp, fun y hy => by cases hy⟩
  · simp only [if_true] at hm
    subst hm
    rw [cellsOf26] at hel
    rw [maxLen_val] at hcm
    have key : ∀ i, i < len → ∃ r : List Cl × Option Addr × Nat, W.cell? ((a.add (i * 1)).add 0) = some (.slice r.2.1 r.1.length r.2.2) ∧ (a.add (i * 1)).block < W.heap.size ∧ ClsAt W W.heap.size r.2.1 r.1.length r.2.2 r.1 ∧ r.1.length ≤ 9223372036854775807 ∧ ∀ y ∈ r.1, CellFit y := fun i hi => by
      obtain ⟨cs', hc', ht'⟩ := hel i (by omega)
      have hcg := (cells_get hc').2
      have hblk := World.cells?_block hc' (by omega)
      obtain ⟨A', n', c', cl, rfl, hcl, hlen, hfit⟩ := read_cls W _ cs' _ ht'
      have hl := hcl.1
      refine ⟨(cl, A', c'), ?_, hblk, ?_, hlen, hfit⟩
      · have := hcg 0 (by omega)
        show _ = some (Value.slice A' cl.length c')
        rw [hl]; simpa using this
      · show ClsAt W _ A' cl.length c' cl
        rw [hl]; exact hcl
    by_cases h0 : len = 0
    · subst h0
      exact ⟨some a, 0, _, [], fun _ => none, fun _ => 0, rfl, ⟨⟨rfl, hlc⟩, fun k l hk => by simp at hk⟩, by simp, fun y hy => by cases hy⟩
    · obtain ⟨r, hr⟩ := choose_lt (α := List Cl × Option Addr × Nat) key
      obtain ⟨b, o, rfl⟩ : ∃ b o, a = ⟨b, o, none⟩ := plain_add (by
        have := (hr 0 (by omega)).1
        rw [Nat.zero_mul] at this
        have e : (a.add 0).add 0 = a.add 0 := by unfold Addr.add; simp
        rw [e] at this; exact this)
      refine ⟨_, len, _, (List.range len).map fun i => (r i).1, fun i => (r i).2.1, fun i => (r i).2.2, rfl, ⟨⟨by simp, hlc⟩, fun k l hk => ?_⟩, by simp; omega, fun y hy => ?_⟩
      · obtain ⟨hkl, rfl⟩ := mem_range_map hk
        obtain ⟨h1, h2, h3, _⟩ := hr k hkl
        rw [Addr.add_lit, Addr.add_lit] at h1
        rw [Addr.add_lit] at h2
        exact ⟨b, o, rfl, h2, by simpa using h1, h3⟩
      · obtain ⟨i, hi, rfl⟩ := List.mem_map.1 hy
        exact (hr i (List.mem_range.1 hi)).2.2.2
end
end Go.Proofs.YtglgclkgppomiaaGreat

namespace Go.Proofs.YtglgclkgppomiaaGreat
open Go Go.RowKit Go.ChangeShapes Go.WideShapes Go.ChangeAt Go.Deep

theorem readable39 : Tryz.prog.readableRec 39 = true := by kernel_rfl
theorem rowed39 : 39 < Tryz.prog.types.size := of_decide_eq_true (by kernel_rfl)
theorem readable26 : Tryz.prog.readableRec 26 = true := by kernel_rfl
theorem rowed26 : 26 < Tryz.prog.types.size := of_decide_eq_true (by kernel_rfl)
theorem readable49 : Tryz.prog.readableRec 49 = true := by kernel_rfl
theorem rowed49 : 49 < Tryz.prog.types.size := of_decide_eq_true (by kernel_rfl)
/-- Cells behind a slice, as an argument. -/
structure InC (w : World) (A : Option Addr) (n c : Nat) (cs : List Cl) : Prop where
  at_ : ClsAt w w.heap.size A n c cs
  len : cs.length ≤ 9223372036854775807
  fit : ∀ y ∈ cs, CellFit y
structure InL (w : World) (A0 : Option Addr) (n c : Nat) (ls : List (List Cl)) (A : Nat → Option Addr) (cc : Nat → Nat) : Prop where
  at_ : LsAt w w.heap.size A0 n c ls A cc
  len : ls.length ≤ 9223372036854775807
  fit : ∀ l ∈ ls, l.length ≤ 9223372036854775807 ∧ ∀ y ∈ l, CellFit y
theorem InC.mono {w w' : World} {A : Option Addr} {n c : Nat} {cs : List Cl} (h : InC w A n c cs) (hb : Below w.heap.size w w') : InC w' A n c cs := ⟨h.at_.mono hb hb.size, h.len, h.fit⟩
theorem InL.mono {w w' : World} {A0 : Option Addr} {n c : Nat} {ls : List (List Cl)} {A : Nat → Option Addr} {cc : Nat → Nat} (h : InL w A0 n c ls A cc) (hb : Below w.heap.size w w') : InL w' A0 n c ls A cc := ⟨h.at_.mono hb hb.size, h.len, h.fit⟩
section
variable {H : Type} {enc : TypeId × Value → H}
set_option maxRecDepth 100000 in
theorem arg_cell {W : World} {base : Nat} {v : Value} {d : DataW H} {p : List MemPlace} (hv : Value.okWide Tryz.prog W .any base 39 v) (h : DataW.Trod enc Tryz.prog W 0 (fun _ => true) true 39 v d p) :
    ∃ x : Cl, v = clVal x ∧ CellFit x := by
  obtain ⟨cs, rfl, _⟩ := okWide_struct Tryz.underlying39 hv
  obtain ⟨fuel, hf⟩ := h
  obtain ⟨x, hx, hfit⟩ := read_cell hf
  have hx' : cs.toList = x.vals := hx
  refine ⟨x, ?_, hfit⟩
  have : cs = x.vals.toArray := by rw [← hx']
  rw [this]; rfl
set_option maxRecDepth 100000 in
theorem arg_cls {W : World} {base : Nat} {v : Value} {d : DataW H} {p : List MemPlace} (hv : Value.okWide Tryz.prog W .any base 26 v) (h : DataW.Trod enc Tryz.prog W 0 (fun _ => true) true 26 v d p) :
    ∃ A n c cs, v = .slice A n c ∧ InC W A n c cs := by
  obtain ⟨a, l, cap, rfl⟩ := okWide_slice Tryz.underlying26 hv
  obtain ⟨fuel, hf⟩ := h
  rw [sliceCells] at hf
  obtain ⟨A, n, c, cs, he, h1, h2, h3⟩ := read_cls W fuel _ (d, p) hf
  simp only [List.cons.injEq, and_true] at he
  exact ⟨A, n, c, cs, he, h1, h2, h3⟩
set_option maxRecDepth 100000 in
theorem arg_lss {W : World} {base : Nat} {v : Value} {d : DataW H} {p : List MemPlace} (hv : Value.okWide Tryz.prog W .any base 49 v) (h : DataW.Trod enc Tryz.prog W 0 (fun _ => true) true 49 v d p) :
    ∃ A0 n c ls A cc, v = .slice A0 n c ∧ InL W A0 n c ls A cc := by
  obtain ⟨a, l, cap, rfl⟩ := okWide_slice Tryz.underlying49 hv
  obtain ⟨fuel, hf⟩ := h
  rw [sliceCells] at hf
  obtain ⟨A0, n, c, ls, A, cc, he, h1, h2, h3⟩ := read_lss W fuel _ (d, p) hf
  simp only [List.cons.injEq, and_true] at he
  exact ⟨A0, n, c, ls, A, cc, he, h1, h2, h3⟩
end
set_option maxRecDepth 100000 in
/-- A law of two cells. -/
theorem contract_cc (F : FuncId) (f : Func) (s : ChangeSpec) (hp : f.params = #[39, 39]) (hres : f.resultTypes = #[4]) (hvars : s.vars = [])
    (hfn : ∀ (H : Type) (d1 d2 : DataW H), s.fn H [d1, d2] = { results := [.lit (.bool true)], args := [d1, d2] })
    (law : ∀ (w : World) (x y : Cl), CellFit x → CellFit y → Calls Tryz.prog F #[clVal x, clVal y] w fun e w' => e = .returned (.bool true) ∧ Below w.heap.size w w')
    (H : Type) (enc : TypeId × Value → H) (W : World) (base : Nat) (args : Array Value) (ds gs : List (DataW H)) (before : List MemPlace)
    (hval : ∀ (j : Nat) t v, f.params[j]? = some t → args[j]? = some v → Value.okWide Tryz.prog W .any base t v)
    (hW : DataW.Whole enc Tryz.prog f.params.toList s.vars false W args.toList ds gs before) :
    Calls Tryz.prog F args W fun e W' => ∃ v, e = .returned v ∧ s.post enc Tryz.prog f false true false false W args v W' := by
  have hW' := hW
  obtain ⟨p, q, hA, hV, rfl, hfz, hnd⟩ := hW
  rw [hp] at hA hval
  rw [hvars] at hV
  obtain ⟨v0, vs0, d0, ds0, p0, q0, hargs, rfl, rfl, h0, r0⟩ := trodAll_cons hA
  obtain ⟨v1, vs1, d1, ds1, p1, q1, hargs1, rfl, rfl, h1, r1⟩ := trodAll_cons r0
  obtain ⟨rfl, rfl, rfl⟩ := trodAll_nil r1
  obtain rfl : args = #[v0, v1] := by cases args; simp_all
  obtain ⟨rfl, rfl⟩ := trodVars_none hV
  obtain ⟨x, rfl, hx⟩ := arg_cell (hval 0 39 v0 rfl rfl) h0
  obtain ⟨y, rfl, hy⟩ := arg_cell (hval 1 39 v1 rfl rfl) h1
  have hlt0 : ∀ x ∈ p0, x.block < W.heap.size := fun x hx => hW'.lt x (by simp [hx])
  have hlt1 : ∀ x ∈ p1, x.block < W.heap.size := fun x hx => hW'.lt x (by simp [hx])
  refine (law W x y hx hy).mono fun e W' ⟨he, hb⟩ => ⟨_, he, ?_⟩
  refine post_of_below hW' hb hres Tryz.underlying4 (by simp only [List.append_nil, hfn]) hvars (by simp only [List.append_nil, hfn]) (p0 ++ (p1 ++ [])) ?_
  simp only [List.append_nil, hfn]
  rw [hp]
  have := trodAll_cons_mk (Below.trod laidOuts readable39 rowed39 h0 hb hlt0) (trodAll_cons_mk (Below.trod laidOuts readable39 rowed39 h1 hb hlt1) trodAll_mk0)
  simpa using this
set_option maxRecDepth 100000 in
/-- A law of two lists of cells. -/
theorem contract_ll (F : FuncId) (f : Func) (s : ChangeSpec) (hp : f.params = #[26, 26]) (hres : f.resultTypes = #[4]) (hvars : s.vars = [])
    (hfn : ∀ (H : Type) (d1 d2 : DataW H), s.fn H [d1, d2] = { results := [.lit (.bool true)], args := [d1, d2] })
    (law : ∀ (w : World) (A A2 : Option Addr) (n c n2 c2 : Nat) (a b : List Cl), InC w A n c a → InC w A2 n2 c2 b → Calls Tryz.prog F #[.slice A n c, .slice A2 n2 c2] w fun e w' => e = .returned (.bool true) ∧ Below w.heap.size w w')
    (H : Type) (enc : TypeId × Value → H) (W : World) (base : Nat) (args : Array Value) (ds gs : List (DataW H)) (before : List MemPlace)
    (hval : ∀ (j : Nat) t v, f.params[j]? = some t → args[j]? = some v → Value.okWide Tryz.prog W .any base t v)
    (hW : DataW.Whole enc Tryz.prog f.params.toList s.vars false W args.toList ds gs before) :
    Calls Tryz.prog F args W fun e W' => ∃ v, e = .returned v ∧ s.post enc Tryz.prog f false true false false W args v W' := by
  have hW' := hW
  obtain ⟨p, q, hA, hV, rfl, hfz, hnd⟩ := hW
  rw [hp] at hA hval
  rw [hvars] at hV
  obtain ⟨v0, vs0, d0, ds0, p0, q0, hargs, rfl, rfl, h0, r0⟩ := trodAll_cons hA
  obtain ⟨v1, vs1, d1, ds1, p1, q1, hargs1, rfl, rfl, h1, r1⟩ := trodAll_cons r0
  obtain ⟨rfl, rfl, rfl⟩ := trodAll_nil r1
  obtain rfl : args = #[v0, v1] := by cases args; simp_all
  obtain ⟨rfl, rfl⟩ := trodVars_none hV
  obtain ⟨A, n, c, a, rfl, hx⟩ := arg_cls (hval 0 26 v0 rfl rfl) h0
  obtain ⟨A2, n2, c2, b, rfl, hy⟩ := arg_cls (hval 1 26 v1 rfl rfl) h1
  have hlt0 : ∀ x ∈ p0, x.block < W.heap.size := fun x hx => hW'.lt x (by simp [hx])
  have hlt1 : ∀ x ∈ p1, x.block < W.heap.size := fun x hx => hW'.lt x (by simp [hx])
  refine (law W A A2 n c n2 c2 a b hx hy).mono fun e W' ⟨he, hb⟩ => ⟨_, he, ?_⟩
  refine post_of_below hW' hb hres Tryz.underlying4 (by simp only [List.append_nil, hfn]) hvars (by simp only [List.append_nil, hfn]) (p0 ++ (p1 ++ [])) ?_
  simp only [List.append_nil, hfn]
  rw [hp]
  have := trodAll_cons_mk (Below.trod laidOuts readable26 rowed26 h0 hb hlt0) (trodAll_cons_mk (Below.trod laidOuts readable26 rowed26 h1 hb hlt1) trodAll_mk0)
  simpa using this
set_option maxRecDepth 100000 in
/-- A law of columns. -/
theorem contract_s (F : FuncId) (f : Func) (s : ChangeSpec) (hp : f.params = #[49]) (hres : f.resultTypes = #[4]) (hvars : s.vars = [])
    (hfn : ∀ (H : Type) (d1 : DataW H), s.fn H [d1] = { results := [.lit (.bool true)], args := [d1] })
    (law : ∀ (w : World) (A0 : Option Addr) (n c : Nat) (ls : List (List Cl)) (A : Nat → Option Addr) (cc : Nat → Nat), InL w A0 n c ls A cc → Calls Tryz.prog F #[.slice A0 n c] w fun e w' => e = .returned (.bool true) ∧ Below w.heap.size w w')
    (H : Type) (enc : TypeId × Value → H) (W : World) (base : Nat) (args : Array Value) (ds gs : List (DataW H)) (before : List MemPlace)
    (hval : ∀ (j : Nat) t v, f.params[j]? = some t → args[j]? = some v → Value.okWide Tryz.prog W .any base t v)
    (hW : DataW.Whole enc Tryz.prog f.params.toList s.vars false W args.toList ds gs before) :
    Calls Tryz.prog F args W fun e W' => ∃ v, e = .returned v ∧ s.post enc Tryz.prog f false true false false W args v W' := by
  have hW' := hW
  obtain ⟨p, q, hA, hV, rfl, hfz, hnd⟩ := hW
  rw [hp] at hA hval
  rw [hvars] at hV
  obtain ⟨v0, vs0, d0, ds0, p0, q0, hargs, rfl, rfl, h0, r0⟩ := trodAll_cons hA
  obtain ⟨rfl, rfl, rfl⟩ := trodAll_nil r0
  obtain rfl : args = #[v0] := by cases args; simp_all
  obtain ⟨rfl, rfl⟩ := trodVars_none hV
  obtain ⟨A0, n, c, ls, A, cc, rfl, hx⟩ := arg_lss (hval 0 49 v0 rfl rfl) h0
  have hlt0 : ∀ x ∈ p0, x.block < W.heap.size := fun x hx => hW'.lt x (by simp [hx])
  refine (law W A0 n c ls A cc hx).mono fun e W' ⟨he, hb⟩ => ⟨_, he, ?_⟩
  refine post_of_below hW' hb hres Tryz.underlying4 (by simp only [List.append_nil, hfn]) hvars (by simp only [List.append_nil, hfn]) (p0 ++ []) ?_
  simp only [List.append_nil, hfn]
  rw [hp]
  have := trodAll_cons_mk (Below.trod laidOuts readable49 rowed49 h0 hb hlt0) trodAll_mk0
  simpa using this
set_option maxRecDepth 100000 in
/-- A law of cells and columns. -/
theorem contract_ls (F : FuncId) (f : Func) (s : ChangeSpec) (hp : f.params = #[26, 49]) (hres : f.resultTypes = #[4]) (hvars : s.vars = [])
    (hfn : ∀ (H : Type) (d1 d2 : DataW H), s.fn H [d1, d2] = { results := [.lit (.bool true)], args := [d1, d2] })
    (law : ∀ (w : World) (A A0 : Option Addr) (n c n2 c2 : Nat) (a : List Cl) (ls : List (List Cl)) (Ar : Nat → Option Addr) (cc : Nat → Nat), InC w A n c a → InL w A0 n2 c2 ls Ar cc → Calls Tryz.prog F #[.slice A n c, .slice A0 n2 c2] w fun e w' => e = .returned (.bool true) ∧ Below w.heap.size w w')
    (H : Type) (enc : TypeId × Value → H) (W : World) (base : Nat) (args : Array Value) (ds gs : List (DataW H)) (before : List MemPlace)
    (hval : ∀ (j : Nat) t v, f.params[j]? = some t → args[j]? = some v → Value.okWide Tryz.prog W .any base t v)
    (hW : DataW.Whole enc Tryz.prog f.params.toList s.vars false W args.toList ds gs before) :
    Calls Tryz.prog F args W fun e W' => ∃ v, e = .returned v ∧ s.post enc Tryz.prog f false true false false W args v W' := by
  have hW' := hW
  obtain ⟨p, q, hA, hV, rfl, hfz, hnd⟩ := hW
  rw [hp] at hA hval
  rw [hvars] at hV
  obtain ⟨v0, vs0, d0, ds0, p0, q0, hargs, rfl, rfl, h0, r0⟩ := trodAll_cons hA
  obtain ⟨v1, vs1, d1, ds1, p1, q1, hargs1, rfl, rfl, h1, r1⟩ := trodAll_cons r0
  obtain ⟨rfl, rfl, rfl⟩ := trodAll_nil r1
  obtain rfl : args = #[v0, v1] := by cases args; simp_all
  obtain ⟨rfl, rfl⟩ := trodVars_none hV
  obtain ⟨A, n, c, a, rfl, hx⟩ := arg_cls (hval 0 26 v0 rfl rfl) h0
  obtain ⟨A0, n2, c2, ls, Ar, cc, rfl, hy⟩ := arg_lss (hval 1 49 v1 rfl rfl) h1
  have hlt0 : ∀ x ∈ p0, x.block < W.heap.size := fun x hx => hW'.lt x (by simp [hx])
  have hlt1 : ∀ x ∈ p1, x.block < W.heap.size := fun x hx => hW'.lt x (by simp [hx])
  refine (law W A A0 n c n2 c2 a ls Ar cc hx hy).mono fun e W' ⟨he, hb⟩ => ⟨_, he, ?_⟩
  refine post_of_below hW' hb hres Tryz.underlying4 (by simp only [List.append_nil, hfn]) hvars (by simp only [List.append_nil, hfn]) (p0 ++ (p1 ++ [])) ?_
  simp only [List.append_nil, hfn]
  rw [hp]
  have := trodAll_cons_mk (Below.trod laidOuts readable26 rowed26 h0 hb hlt0) (trodAll_cons_mk (Below.trod laidOuts readable49 rowed49 h1 hb hlt1) trodAll_mk0)
  simpa using this
end Go.Proofs.YtglgclkgppomiaaGreat

namespace Go.Proofs.YtglgclkgppomiaaGreat
open Go Go.RowKit

theorem areCl_of {cs : List Cl} (h : areCl cs = true) : cs.length ≤ 5000 ∧ ∀ x ∈ cs, isCl x = true := by
  unfold areCl at h
  simp only [Bool.and_eq_true, decide_eq_true_eq, List.all_eq_true] at h
  exact ⟨h.2, h.1⟩
theorem areCl_good {cs : List Cl} (h : areCl cs = true) (hf : ∀ y ∈ cs, CellFit y) : ∀ x ∈ cs, Good x := fun x hx => ⟨(areCl_of h).2 x hx, (hf x hx).2⟩
set_option maxRecDepth 100000
set_option maxHeartbeats 4000000
theorem set7_frame (w : World) (g : Nat) (b0 b1 b2 b3 b4 b5 b6 : Value) {b : Nat} (hne : b ≠ g) :
    (((((((w.setCell ⟨g, 0, none⟩ b0).setCell ⟨g, 1, none⟩ b1).setCell ⟨g, 2, none⟩ b2).setCell ⟨g, 3, none⟩ b3).setCell ⟨g, 4, none⟩ b4).setCell ⟨g, 5, none⟩ b5).setCell ⟨g, 6, none⟩ b6).heap[b]? = w.heap[b]? := by
  rw [setCell_other (b := b) _ ⟨g, 6, none⟩ _ hne, setCell_other (b := b) _ ⟨g, 5, none⟩ _ hne, setCell_other (b := b) _ ⟨g, 4, none⟩ _ hne, setCell_other (b := b) _ ⟨g, 3, none⟩ _ hne, setCell_other (b := b) _ ⟨g, 2, none⟩ _ hne, setCell_other (b := b) _ ⟨g, 1, none⟩ _ hne, setCell_other (b := b) _ ⟨g, 0, none⟩ _ hne]
theorem law18 {w : World} {A A2 : Option Addr} {n c n2 c2 : Nat} {a b : List Cl} (hx : InC w A n c a) (hy : InC w A2 n2 c2 b) : Calls Tryz.prog 18 #[.slice A n c, .slice A2 n2 c2] w fun e w' => e = .returned (.bool true) ∧ Below w.heap.size w w' := by
  have HX := Lib.hid hx
  have HY := Lib.hid hy
  have HLA := Lib.hid hx.at_.1
  have HLB := Lib.hid hy.at_.1
  have F1 := Lib.hid (fits34_any a A n c w hx.at_ (by have := hx.at_.1; have := hx.len; omega) (fun y h => (hx.fit y h).1))
  clear hx hy
  go_enter Tryz.func18, Tryz.ntmps18
  go_wp2_with fail
  refine F1.out.mono ?_
  rintro e w1 ⟨rfl, hb1⟩
  have HB1 := Lib.hid hb1
  have HY1 := Lib.hid (HY.out.mono hb1)
  have F2 := Lib.hid (fits34_any b A2 n2 c2 w1 HY1.out.at_ (by have := HLB.out; have := HY.out.len; omega) (fun y h => (HY.out.fit y h).1))
  clear hb1
  cases fa : fitsCls a with
  | false =>
    go_wp2_with fail
    go_ret
    exact ⟨rfl, HB1.out⟩
  | true =>
    have FA := Lib.hid (fitsCls_of fa)
    clear fa
    go_wp2_with fail
    refine F2.out.mono ?_
    rintro e w2 ⟨rfl, hb2⟩
    have HB2 := Lib.hid (HB1.out.trans (hb2.mono HB1.out.size))
    clear hb2
    cases fb : fitsCls b with
    | false =>
      go_wp2_with fail
      go_ret
      exact ⟨rfl, HB2.out⟩
    | true =>
      have FB := Lib.hid (fitsCls_of fb)
      have F3 := Lib.hid (cells37 a A n c w2 (HX.out.mono HB2.out).at_ (by have := FA.out.1; have := HLA.out; omega) (fun y h => by have := FA.out.2 y h; omega))
      clear fb
      go_wp2_with fail
      refine F3.out.mono ?_
      rintro e w3 ⟨rfl, hb3⟩
      have HB3 := Lib.hid (HB2.out.trans (hb3.mono HB2.out.size))
      have F4 := Lib.hid (cells37 b A2 n2 c2 w3 (HY.out.mono HB3.out).at_ (by have := FB.out.1; have := HLB.out; omega) (fun y h => by have := FB.out.2 y h; omega))
      clear hb3
      cases ga : areCl a with
      | false =>
        go_wp2_with fail
        refine (works20 _).mono ?_
        rintro e w4 ⟨rfl, hb4⟩
        have HB4 := Lib.hid (HB3.out.trans (hb4.mono HB3.out.size))
        clear hb4
        go_wp2_with fail
        go_ret
        exact ⟨rfl, HB4.out⟩
      | true =>
        have GA := Lib.hid (areCl_good ga HX.out.fit)
        have NA := Lib.hid (areCl_of ga).1
        clear ga
        go_wp2_with fail
        refine F4.out.mono ?_
        rintro e w4 ⟨rfl, hb4⟩
        have HB4 := Lib.hid (HB3.out.trans (hb4.mono HB3.out.size))
        clear hb4
        cases gb : areCl b with
        | false =>
          go_wp2_with fail
          refine (works20 _).mono ?_
          rintro e w5 ⟨rfl, hb5⟩
          have HB5 := Lib.hid (HB4.out.trans (hb5.mono HB4.out.size))
          clear hb5
          go_wp2_with fail
          go_ret
          exact ⟨rfl, HB5.out⟩
        | true =>
          have GB := Lib.hid (areCl_good gb HY.out.fit)
          have NB := Lib.hid (areCl_of gb).1
          clear gb
          have hn5 : n ≤ 5000 := by have := NA.out; have := HLA.out; omega
          have hn6 : n2 ≤ 5000 := by have := NB.out; have := HLB.out; omega
          have HD0 : Hid (((n : Int) != (n2 : Int)) = true → a ≠ b) := Lib.hid fun h hab => by
            have h1 := HLA.out
            have h2 := HLB.out
            rw [hab, h2] at h1
            subst h1
            simp at h
          obtain ⟨D0, hD0⟩ : ∃ D0, ((n : Int) != (n2 : Int)) = D0 := ⟨_, rfl⟩
          rw [hD0] at HD0
          go_wp2_with fail
          go_loopw [5, 6] (fun d i wr => ∃ (j : Nat) (D : Bool), j ≤ min n n2 ∧ d = .bool D ∧ i = .int .i64 j ∧ Hid (D = true → a ≠ b) ∧ Below w.heap.size w wr) (fun _ i _ => n - (intOf i).toNat)
          case atStart => exact ⟨0, D0, Nat.zero_le _, rfl, rfl, Lib.hid HD0.out, HB4.out⟩
          case round =>
            obtain ⟨j, D, hj, rfl, rfl, HDD, hb5⟩ := hrel
            have HB5 := Lib.hid hb5
            clear hb5 hD0
            by_cases hlt : j < min n n2
            · obtain ⟨b0, o0, x, rfl, hb0, hxk, c0, c1, c2, c3, c4, c5, c6⟩ := (HX.out.mono HB5.out).at_.at_ (show j < n by omega)
              obtain ⟨b1, o1, y, rfl, hb1, hyk, d0, d1, d2, d3, d4, d5, d6⟩ := (HY.out.mono HB5.out).at_.at_ (show j < n2 by omega)
              have HXK := Lib.hid hxk
              have HYK := Lib.hid hyk
              have hj0 : (0 : Int) ≤ (j : Int) := Int.natCast_nonneg _
              have hj1 : (j : Int) < (n : Int) := by omega
              have hj2 : (j : Int) < (n2 : Int) := by omega
              have hj3 : (j : Int) < min (n : Int) (n2 : Int) := by omega
              have HS : Hid (∀ W, Below wr.heap.size wr W → (W.cell? ⟨b0, o0 + j * 7, none⟩ = some (.int .i64 x.col) ∧ W.cell? ⟨b0, o0 + j * 7 + 1, none⟩ = some (.int .i64 x.rep) ∧ W.cell? ⟨b0, o0 + j * 7 + 2, none⟩ = some (.int .i64 x.de) ∧ W.cell? ⟨b0, o0 + j * 7 + 3, none⟩ = some (.bool x.null) ∧ W.cell? ⟨b0, o0 + j * 7 + 4, none⟩ = some (.int .i64 x.kind) ∧ W.cell? ⟨b0, o0 + j * 7 + 5, none⟩ = some (.int .i64 x.num) ∧ W.cell? ⟨b0, o0 + j * 7 + 6, none⟩ = some (.string x.text) ∧ W.cell? ⟨b1, o1 + j * 7, none⟩ = some (.int .i64 y.col) ∧ W.cell? ⟨b1, o1 + j * 7 + 1, none⟩ = some (.int .i64 y.rep) ∧ W.cell? ⟨b1, o1 + j * 7 + 2, none⟩ = some (.int .i64 y.de) ∧ W.cell? ⟨b1, o1 + j * 7 + 3, none⟩ = some (.bool y.null) ∧ W.cell? ⟨b1, o1 + j * 7 + 4, none⟩ = some (.int .i64 y.kind) ∧ W.cell? ⟨b1, o1 + j * 7 + 5, none⟩ = some (.int .i64 y.num) ∧ W.cell? ⟨b1, o1 + j * 7 + 6, none⟩ = some (.string y.text))) := Lib.hid fun W hW =>
                ⟨(bcell hW hb0).trans c0, (bcell hW hb0).trans c1, (bcell hW hb0).trans c2, (bcell hW hb0).trans c3, (bcell hW hb0).trans c4, (bcell hW hb0).trans c5, (bcell hW hb0).trans c6, (bcell hW hb1).trans d0, (bcell hW hb1).trans d1, (bcell hW hb1).trans d2, (bcell hW hb1).trans d3, (bcell hW hb1).trans d4, (bcell hW hb1).trans d5, (bcell hW hb1).trans d6⟩
              clear c0 c1 c2 c3 c4 c5 c6 d0 d1 d2 d3 d4 d5 d6 hxk hyk
              go_wp2_with fail
              refine Upto.region (m := 11) (S := (fun w' => w'.cell? ⟨b0, o0 + j * 7, none⟩ = some (.int .i64 x.col) ∧ w'.cell? ⟨b0, o0 + j * 7 + 1, none⟩ = some (.int .i64 x.rep) ∧ w'.cell? ⟨b0, o0 + j * 7 + 2, none⟩ = some (.int .i64 x.de) ∧ w'.cell? ⟨b0, o0 + j * 7 + 3, none⟩ = some (.bool x.null) ∧ w'.cell? ⟨b0, o0 + j * 7 + 4, none⟩ = some (.int .i64 x.kind) ∧ w'.cell? ⟨b0, o0 + j * 7 + 5, none⟩ = some (.int .i64 x.num) ∧ w'.cell? ⟨b0, o0 + j * 7 + 6, none⟩ = some (.string x.text) ∧ w'.cell? ⟨b1, o1 + j * 7, none⟩ = some (.int .i64 y.col) ∧ w'.cell? ⟨b1, o1 + j * 7 + 1, none⟩ = some (.int .i64 y.rep) ∧ w'.cell? ⟨b1, o1 + j * 7 + 2, none⟩ = some (.int .i64 y.de) ∧ w'.cell? ⟨b1, o1 + j * 7 + 3, none⟩ = some (.bool y.null) ∧ w'.cell? ⟨b1, o1 + j * 7 + 4, none⟩ = some (.int .i64 y.kind) ∧ w'.cell? ⟨b1, o1 + j * 7 + 5, none⟩ = some (.int .i64 y.num) ∧ w'.cell? ⟨b1, o1 + j * 7 + 6, none⟩ = some (.string y.text))) (by kernel_rfl) ?_ (fun hHeld => ?_)
              · exact HS.out _ (Below.refl _ wr).drew
              refine Upto.take (i := 0) (v := ?_) at0 (by kernel_rfl) (by kernel_rfl) (by kernel_rfl) (by kernel_rfl) (fun _ _ _ h => h) (by rfl) ?_ hHeld ?_
              rotate_left
              · intro wS hSw
                try dsimp only at hSw
                go_simp
                try with_reducible rfl
              try simp only [Act.put, List.setIfInBounds_toArray, List.set_cons_zero, List.set_cons_succ]
              refine Upto.take (i := 1) (v := ?_) at1 (by kernel_rfl) (by kernel_rfl) (by kernel_rfl) (by kernel_rfl) (fun _ _ _ h => h) (by rfl) ?_ hHeld ?_
              rotate_left
              · intro wS hSw
                try dsimp only at hSw
                go_simp
                try with_reducible rfl
              try simp only [Act.put, List.setIfInBounds_toArray, List.set_cons_zero, List.set_cons_succ]
              refine Upto.take (i := 2) (v := ?_) at2 (by kernel_rfl) (by kernel_rfl) (by kernel_rfl) (by kernel_rfl) (fun _ _ _ h => h) (by rfl) ?_ hHeld ?_
              rotate_left
              · intro wS hSw
                try dsimp only at hSw
                go_simp
                try with_reducible rfl
              try simp only [Act.put, List.setIfInBounds_toArray, List.set_cons_zero, List.set_cons_succ]
              refine Upto.take (i := 3) (v := ?_) at3 (by kernel_rfl) (by kernel_rfl) (by kernel_rfl) (by kernel_rfl) (fun _ _ _ h => h) (by rfl) ?_ hHeld ?_
              rotate_left
              · intro wS hSw
                try dsimp only at hSw
                go_simp
                try with_reducible rfl
              try simp only [Act.put, List.setIfInBounds_toArray, List.set_cons_zero, List.set_cons_succ]
              refine Upto.take (i := 4) (v := ?_) at4 (by kernel_rfl) (by kernel_rfl) (by kernel_rfl) (by kernel_rfl) (fun _ _ _ h => h) (by rfl) ?_ hHeld ?_
              rotate_left
              · intro wS hSw
                try dsimp only at hSw
                go_simp
                try with_reducible rfl
              try simp only [Act.put, List.setIfInBounds_toArray, List.set_cons_zero, List.set_cons_succ]
              refine Upto.take (i := 5) (v := ?_) at5 (by kernel_rfl) (by kernel_rfl) (by kernel_rfl) (by kernel_rfl) (fun _ _ _ h => h) (by rfl) ?_ hHeld ?_
              rotate_left
              · intro wS hSw
                try dsimp only at hSw
                go_simp
                try with_reducible rfl
              try simp only [Act.put, List.setIfInBounds_toArray, List.set_cons_zero, List.set_cons_succ]
              refine Upto.take (i := 6) (v := ?_) at6 (by kernel_rfl) (by kernel_rfl) (by kernel_rfl) (by kernel_rfl) (fun _ _ _ h => h) (by rfl) ?_ hHeld ?_
              rotate_left
              · intro wS hSw
                try dsimp only at hSw
                go_simp
                try with_reducible rfl
              try simp only [Act.put, List.setIfInBounds_toArray, List.set_cons_zero, List.set_cons_succ]
              refine Upto.take (i := 7) (v := ?_) at7 (by kernel_rfl) (by kernel_rfl) (by kernel_rfl) (by kernel_rfl) (fun _ _ _ h => h) (by rfl) ?_ hHeld ?_
              rotate_left
              · intro wS hSw
                try dsimp only at hSw
                go_simp
                try with_reducible rfl
              try simp only [Act.put, List.setIfInBounds_toArray, List.set_cons_zero, List.set_cons_succ]
              refine Upto.two (i := 8) (k := 9) (by kernel_rfl) at8 at9 (fun K' hK => ?_) (fun K' hK => ?_)
              · go_simp
                obtain ⟨w6, hw⟩ : ∃ w6, w6 = (wr.alloc (.cells #[.int .i64 0, .int .i64 0, .int .i64 0, .bool false, .int .i64 0, .int .i64 0, .string { data := #[] }] 39)).drew := ⟨_, rfl⟩
                have r1 : RowB w6 wr.heap.size 39 #[.int .i64 0, .int .i64 0, .int .i64 0, .bool false, .int .i64 0, .int .i64 0, .string { data := #[] }] := by rw [hw]; exact (RowB.new wr 39 _).of_eq rfl
                have hb6 : Below wr.heap.size wr w6 := by rw [hw]; exact ((Below.refl _ _).alloc (Nat.le_refl _) _).drew
                have hs6 : w6.heap.size = wr.heap.size + 1 := by rw [hw]; exact size_alloc1 _ _
                rw [← hw]
                have HB6 := Lib.hid hb6
                have HS6 := Lib.hid hs6
                clear hw hb6 hs6
                refine hK.out _ _ (.inr (HS.out _ HB6.out)) (fun _ => ?_)
                clear hK K'
                replace hHeld := HS.out _ HB6.out
                try simp only [Act.put, List.setIfInBounds_toArray, List.set_cons_zero, List.set_cons_succ]
                refine Upto.step (i := 9) (by kernel_rfl) at9 (fun K' hK => ?_)
                go_simp
                obtain ⟨w7, hw⟩ : ∃ w7, w7 = w6.alloc (.cells #[.int .i64 0, .int .i64 0, .int .i64 0, .bool false, .int .i64 0, .int .i64 0, .string { data := #[] }] 39) := ⟨_, rfl⟩
                have r2 : RowB w7 w6.heap.size 39 #[.int .i64 0, .int .i64 0, .int .i64 0, .bool false, .int .i64 0, .int .i64 0, .string { data := #[] }] := by rw [hw]; exact RowB.new _ _ _
                replace r1 : RowB w7 wr.heap.size 39 #[.int .i64 0, .int .i64 0, .int .i64 0, .bool false, .int .i64 0, .int .i64 0, .string { data := #[] }] := by rw [hw]; exact r1.alloc _
                have hb7 : Below wr.heap.size wr w7 := by rw [hw]; exact HB6.out.alloc HB6.out.size _
                rw [← hw]
                have HB7 := Lib.hid hb7
                clear hw hb7
                refine hK.out _ _ (.inr (HS.out _ HB7.out)) (fun _ => ?_)
                clear hK K'
                replace hHeld := HS.out _ HB7.out
                try simp only [Act.put, List.setIfInBounds_toArray, List.set_cons_zero, List.set_cons_succ]
                have RX := Lib.hid r1
                have RY := Lib.hid r2
                clear r1 r2
                have HPQ : Hid (wr.heap.size ≠ w6.heap.size ∧ wr.heap.size ≤ wr.heap.size ∧ wr.heap.size ≤ w6.heap.size) := Lib.hid (by have := HS6.out; omega)
                refine Upto.step (i := 10) (by kernel_rfl) at10 (fun K' hK => ?_)
                obtain ⟨e0, e1, e2, e3, e4, e5, e6⟩ := RX.out.c7
                obtain ⟨f0, f1, f2, f3, f4, f5, f6⟩ := RX.out.f7
                go_simp
                clear e0 e1 e2 e3 e4 e5 e6 f0 f1 f2 f3 f4 f5 f6
                obtain ⟨w8, hw⟩ : ∃ w8, w8 = (((((((w7.setCell ⟨wr.heap.size, 0, none⟩ (.int .i64 x.col)).setCell ⟨wr.heap.size, 1, none⟩ (.int .i64 x.rep)).setCell ⟨wr.heap.size, 2, none⟩ (.int .i64 x.de)).setCell ⟨wr.heap.size, 3, none⟩ (.bool x.null)).setCell ⟨wr.heap.size, 4, none⟩ (.int .i64 x.kind)).setCell ⟨wr.heap.size, 5, none⟩ (.int .i64 x.num)).setCell ⟨wr.heap.size, 6, none⟩ (.string x.text)) := ⟨_, rfl⟩
                try rw [← hw]
                have rx : RowB w8 wr.heap.size 39 #[.int .i64 x.col, .int .i64 x.rep, .int .i64 x.de, .bool x.null, .int .i64 x.kind, .int .i64 x.num, .string x.text] := by rw [hw]; exact RX.out.set7 _ _ _ _ _ _ _
                have ry : RowB w8 w6.heap.size 39 #[.int .i64 0, .int .i64 0, .int .i64 0, .bool false, .int .i64 0, .int .i64 0, .string { data := #[] }] := by rw [hw]; exact RY.out.of_eq (set7_frame _ _ _ _ _ _ _ _ _ (Ne.symm HPQ.out.1))
                have hb8 : Below wr.heap.size wr w8 := by rw [hw]; exact below_set7 HB7.out HPQ.out.2.1 _ _ _ _ _ _ _
                have RX8 := Lib.hid rx
                have RY8 := Lib.hid ry
                have HB8 := Lib.hid hb8
                clear hw hb8 rx ry RX RY
                refine hK.out _ _ (.inr (HS.out _ HB8.out)) (fun _ => ?_)
                clear hK K'
                replace hHeld := HS.out _ HB8.out
                try simp only [Act.put, List.setIfInBounds_toArray, List.set_cons_zero, List.set_cons_succ]
                refine Upto.step (i := 11) (by kernel_rfl) at11 (fun K' hK => ?_)
                obtain ⟨e0, e1, e2, e3, e4, e5, e6⟩ := RY8.out.c7
                obtain ⟨f0, f1, f2, f3, f4, f5, f6⟩ := RY8.out.f7
                go_simp
                clear e0 e1 e2 e3 e4 e5 e6 f0 f1 f2 f3 f4 f5 f6
                obtain ⟨w9, hw⟩ : ∃ w9, w9 = (((((((w8.setCell ⟨w6.heap.size, 0, none⟩ (.int .i64 y.col)).setCell ⟨w6.heap.size, 1, none⟩ (.int .i64 y.rep)).setCell ⟨w6.heap.size, 2, none⟩ (.int .i64 y.de)).setCell ⟨w6.heap.size, 3, none⟩ (.bool y.null)).setCell ⟨w6.heap.size, 4, none⟩ (.int .i64 y.kind)).setCell ⟨w6.heap.size, 5, none⟩ (.int .i64 y.num)).setCell ⟨w6.heap.size, 6, none⟩ (.string y.text)) := ⟨_, rfl⟩
                try rw [← hw]
                have ry : RowB w9 w6.heap.size 39 #[.int .i64 y.col, .int .i64 y.rep, .int .i64 y.de, .bool y.null, .int .i64 y.kind, .int .i64 y.num, .string y.text] := by rw [hw]; exact RY8.out.set7 _ _ _ _ _ _ _
                have rx : RowB w9 wr.heap.size 39 #[.int .i64 x.col, .int .i64 x.rep, .int .i64 x.de, .bool x.null, .int .i64 x.kind, .int .i64 x.num, .string x.text] := by rw [hw]; exact RX8.out.of_eq (set7_frame _ _ _ _ _ _ _ _ _ HPQ.out.1)
                have hb9 : Below wr.heap.size wr w9 := by rw [hw]; exact below_set7 HB8.out HPQ.out.2.2 _ _ _ _ _ _ _
                have HB9 := Lib.hid (HB5.out.trans (hb9.mono HB5.out.size))
                clear hw hb9 RX8 RY8 hHeld
                refine hK.out _ _ (.inl rfl) (fun _ => ?_)
                clear hK K'
                try simp only [Act.put, List.setIfInBounds_toArray, List.set_cons_zero, List.set_cons_succ]
                refine Upto.done (by kernel_rfl) ?_ _
                obtain ⟨e0, e1, e2, e3, e4, e5, e6⟩ := rx.c7
                obtain ⟨f0, f1, f2, f3, f4, f5, f6⟩ := ry.c7
                clear rx ry
                cases D with
                | true =>
                  go_wp2_with fail
                  refine ⟨⟨j + 1, true, by omega, rfl, by go_num, HDD, HB9.out⟩, by simp [intOf]; omega⟩
                | false =>
                  by_cases n1 : x.null = y.null
                  · have m1 : (x.null != y.null) = false := by simp [n1]
                    have m1' : (x.null == y.null) = true := by simp [n1]
                    by_cases n2 : x.kind = y.kind
                    · have m2 : (x.kind != y.kind) = false := by simp [n2]
                      have m2' : (x.kind == y.kind) = true := by simp [n2]
                      by_cases n3 : x.num = y.num
                      · have m3 : (x.num != y.num) = false := by simp [n3]
                        have m3' : (x.num == y.num) = true := by simp [n3]
                        by_cases n4 : x.text = y.text
                        · have m4 : (x.text.toList == y.text.toList) = true := text_eq.2 n4
                          have m5 : x.text.toList = y.text.toList := by rw [n4]
                          have m6 : (x.text.toList != y.text.toList) = false := by simp [m5]
                          clear n1 n2 n3 n4
                          go_wp2_with fail
                          refine ⟨⟨j + 1, false, by omega, rfl, by go_num, Lib.hid (fun h => by cases h), HB9.out⟩, by simp [intOf]; omega⟩
                        · have m4 : (x.text.toList == y.text.toList) = false := by rw [Bool.eq_false_iff]; exact fun h => n4 (text_eq.1 h)
                          have m5 : ¬ (x.text.toList = y.text.toList) := fun h => n4 (text_eq.1 (by rw [h]; simp))
                          have m6 : (x.text.toList != y.text.toList) = true := by simp [m5]
                          have HN : Hid (true = true → a ≠ b) := Lib.hid fun _ => take_differ HXK.out HYK.out (fun h => n4 (by rw [h]))
                          clear n1 n2 n3 n4
                          go_wp2_with fail
                          refine ⟨⟨j + 1, true, by omega, rfl, by go_num, HN, HB9.out⟩, by simp [intOf]; omega⟩
                      · have m3 : (x.num != y.num) = true := by simp [n3]
                        have m3' : (x.num == y.num) = false := by simp [n3]
                        have HN : Hid (true = true → a ≠ b) := Lib.hid fun _ => take_differ HXK.out HYK.out (fun h => n3 (by rw [h]))
                        clear n1 n2 n3
                        go_wp2_with fail
                        refine ⟨⟨j + 1, true, by omega, rfl, by go_num, HN, HB9.out⟩, by simp [intOf]; omega⟩
                    · have m2 : (x.kind != y.kind) = true := by simp [n2]
                      have m2' : (x.kind == y.kind) = false := by simp [n2]
                      have HN : Hid (true = true → a ≠ b) := Lib.hid fun _ => take_differ HXK.out HYK.out (fun h => n2 (by rw [h]))
                      clear n1 n2
                      go_wp2_with fail
                      refine ⟨⟨j + 1, true, by omega, rfl, by go_num, HN, HB9.out⟩, by simp [intOf]; omega⟩
                  · have m1 : (x.null != y.null) = true := by simp [n1]
                    have m1' : (x.null == y.null) = false := by simp [n1]
                    have HN : Hid (true = true → a ≠ b) := Lib.hid fun _ => take_differ HXK.out HYK.out (fun h => n1 (by rw [h]))
                    clear n1
                    go_wp2_with fail
                    refine ⟨⟨j + 1, true, by omega, rfl, by go_num, HN, HB9.out⟩, by simp [intOf]; omega⟩
              · go_simp
                obtain ⟨w6, hw⟩ : ∃ w6, w6 = (wr.alloc (.cells #[.int .i64 0, .int .i64 0, .int .i64 0, .bool false, .int .i64 0, .int .i64 0, .string { data := #[] }] 39)).drew := ⟨_, rfl⟩
                have r1 : RowB w6 wr.heap.size 39 #[.int .i64 0, .int .i64 0, .int .i64 0, .bool false, .int .i64 0, .int .i64 0, .string { data := #[] }] := by rw [hw]; exact (RowB.new wr 39 _).of_eq rfl
                have hb6 : Below wr.heap.size wr w6 := by rw [hw]; exact ((Below.refl _ _).alloc (Nat.le_refl _) _).drew
                have hs6 : w6.heap.size = wr.heap.size + 1 := by rw [hw]; exact size_alloc1 _ _
                rw [← hw]
                have HB6 := Lib.hid hb6
                have HS6 := Lib.hid hs6
                clear hw hb6 hs6
                refine hK.out _ _ (.inr (HS.out _ HB6.out)) (fun _ => ?_)
                clear hK K'
                replace hHeld := HS.out _ HB6.out
                try simp only [Act.put, List.setIfInBounds_toArray, List.set_cons_zero, List.set_cons_succ]
                refine Upto.step (i := 8) (by kernel_rfl) at8 (fun K' hK => ?_)
                go_simp
                obtain ⟨w7, hw⟩ : ∃ w7, w7 = w6.alloc (.cells #[.int .i64 0, .int .i64 0, .int .i64 0, .bool false, .int .i64 0, .int .i64 0, .string { data := #[] }] 39) := ⟨_, rfl⟩
                have r2 : RowB w7 w6.heap.size 39 #[.int .i64 0, .int .i64 0, .int .i64 0, .bool false, .int .i64 0, .int .i64 0, .string { data := #[] }] := by rw [hw]; exact RowB.new _ _ _
                replace r1 : RowB w7 wr.heap.size 39 #[.int .i64 0, .int .i64 0, .int .i64 0, .bool false, .int .i64 0, .int .i64 0, .string { data := #[] }] := by rw [hw]; exact r1.alloc _
                have hb7 : Below wr.heap.size wr w7 := by rw [hw]; exact HB6.out.alloc HB6.out.size _
                rw [← hw]
                have HB7 := Lib.hid hb7
                clear hw hb7
                refine hK.out _ _ (.inr (HS.out _ HB7.out)) (fun _ => ?_)
                clear hK K'
                replace hHeld := HS.out _ HB7.out
                try simp only [Act.put, List.setIfInBounds_toArray, List.set_cons_zero, List.set_cons_succ]
                have RX := Lib.hid r2
                have RY := Lib.hid r1
                clear r1 r2
                have HPQ : Hid (w6.heap.size ≠ wr.heap.size ∧ wr.heap.size ≤ w6.heap.size ∧ wr.heap.size ≤ wr.heap.size) := Lib.hid (by have := HS6.out; omega)
                refine Upto.step (i := 10) (by kernel_rfl) at10 (fun K' hK => ?_)
                obtain ⟨e0, e1, e2, e3, e4, e5, e6⟩ := RX.out.c7
                obtain ⟨f0, f1, f2, f3, f4, f5, f6⟩ := RX.out.f7
                go_simp
                clear e0 e1 e2 e3 e4 e5 e6 f0 f1 f2 f3 f4 f5 f6
                obtain ⟨w8, hw⟩ : ∃ w8, w8 = (((((((w7.setCell ⟨w6.heap.size, 0, none⟩ (.int .i64 x.col)).setCell ⟨w6.heap.size, 1, none⟩ (.int .i64 x.rep)).setCell ⟨w6.heap.size, 2, none⟩ (.int .i64 x.de)).setCell ⟨w6.heap.size, 3, none⟩ (.bool x.null)).setCell ⟨w6.heap.size, 4, none⟩ (.int .i64 x.kind)).setCell ⟨w6.heap.size, 5, none⟩ (.int .i64 x.num)).setCell ⟨w6.heap.size, 6, none⟩ (.string x.text)) := ⟨_, rfl⟩
                try rw [← hw]
                have rx : RowB w8 w6.heap.size 39 #[.int .i64 x.col, .int .i64 x.rep, .int .i64 x.de, .bool x.null, .int .i64 x.kind, .int .i64 x.num, .string x.text] := by rw [hw]; exact RX.out.set7 _ _ _ _ _ _ _
                have ry : RowB w8 wr.heap.size 39 #[.int .i64 0, .int .i64 0, .int .i64 0, .bool false, .int .i64 0, .int .i64 0, .string { data := #[] }] := by rw [hw]; exact RY.out.of_eq (set7_frame _ _ _ _ _ _ _ _ _ (Ne.symm HPQ.out.1))
                have hb8 : Below wr.heap.size wr w8 := by rw [hw]; exact below_set7 HB7.out HPQ.out.2.1 _ _ _ _ _ _ _
                have RX8 := Lib.hid rx
                have RY8 := Lib.hid ry
                have HB8 := Lib.hid hb8
                clear hw hb8 rx ry RX RY
                refine hK.out _ _ (.inr (HS.out _ HB8.out)) (fun _ => ?_)
                clear hK K'
                replace hHeld := HS.out _ HB8.out
                try simp only [Act.put, List.setIfInBounds_toArray, List.set_cons_zero, List.set_cons_succ]
                refine Upto.step (i := 11) (by kernel_rfl) at11 (fun K' hK => ?_)
                obtain ⟨e0, e1, e2, e3, e4, e5, e6⟩ := RY8.out.c7
                obtain ⟨f0, f1, f2, f3, f4, f5, f6⟩ := RY8.out.f7
                go_simp
                clear e0 e1 e2 e3 e4 e5 e6 f0 f1 f2 f3 f4 f5 f6
                obtain ⟨w9, hw⟩ : ∃ w9, w9 = (((((((w8.setCell ⟨wr.heap.size, 0, none⟩ (.int .i64 y.col)).setCell ⟨wr.heap.size, 1, none⟩ (.int .i64 y.rep)).setCell ⟨wr.heap.size, 2, none⟩ (.int .i64 y.de)).setCell ⟨wr.heap.size, 3, none⟩ (.bool y.null)).setCell ⟨wr.heap.size, 4, none⟩ (.int .i64 y.kind)).setCell ⟨wr.heap.size, 5, none⟩ (.int .i64 y.num)).setCell ⟨wr.heap.size, 6, none⟩ (.string y.text)) := ⟨_, rfl⟩
                try rw [← hw]
                have ry : RowB w9 wr.heap.size 39 #[.int .i64 y.col, .int .i64 y.rep, .int .i64 y.de, .bool y.null, .int .i64 y.kind, .int .i64 y.num, .string y.text] := by rw [hw]; exact RY8.out.set7 _ _ _ _ _ _ _
                have rx : RowB w9 w6.heap.size 39 #[.int .i64 x.col, .int .i64 x.rep, .int .i64 x.de, .bool x.null, .int .i64 x.kind, .int .i64 x.num, .string x.text] := by rw [hw]; exact RX8.out.of_eq (set7_frame _ _ _ _ _ _ _ _ _ HPQ.out.1)
                have hb9 : Below wr.heap.size wr w9 := by rw [hw]; exact below_set7 HB8.out HPQ.out.2.2 _ _ _ _ _ _ _
                have HB9 := Lib.hid (HB5.out.trans (hb9.mono HB5.out.size))
                clear hw hb9 RX8 RY8 hHeld
                refine hK.out _ _ (.inl rfl) (fun _ => ?_)
                clear hK K'
                try simp only [Act.put, List.setIfInBounds_toArray, List.set_cons_zero, List.set_cons_succ]
                refine Upto.done (by kernel_rfl) ?_ _
                obtain ⟨e0, e1, e2, e3, e4, e5, e6⟩ := rx.c7
                obtain ⟨f0, f1, f2, f3, f4, f5, f6⟩ := ry.c7
                clear rx ry
                cases D with
                | true =>
                  go_wp2_with fail
                  refine ⟨⟨j + 1, true, by omega, rfl, by go_num, HDD, HB9.out⟩, by simp [intOf]; omega⟩
                | false =>
                  by_cases n1 : x.null = y.null
                  · have m1 : (x.null != y.null) = false := by simp [n1]
                    have m1' : (x.null == y.null) = true := by simp [n1]
                    by_cases n2 : x.kind = y.kind
                    · have m2 : (x.kind != y.kind) = false := by simp [n2]
                      have m2' : (x.kind == y.kind) = true := by simp [n2]
                      by_cases n3 : x.num = y.num
                      · have m3 : (x.num != y.num) = false := by simp [n3]
                        have m3' : (x.num == y.num) = true := by simp [n3]
                        by_cases n4 : x.text = y.text
                        · have m4 : (x.text.toList == y.text.toList) = true := text_eq.2 n4
                          have m5 : x.text.toList = y.text.toList := by rw [n4]
                          have m6 : (x.text.toList != y.text.toList) = false := by simp [m5]
                          clear n1 n2 n3 n4
                          go_wp2_with fail
                          refine ⟨⟨j + 1, false, by omega, rfl, by go_num, Lib.hid (fun h => by cases h), HB9.out⟩, by simp [intOf]; omega⟩
                        · have m4 : (x.text.toList == y.text.toList) = false := by rw [Bool.eq_false_iff]; exact fun h => n4 (text_eq.1 h)
                          have m5 : ¬ (x.text.toList = y.text.toList) := fun h => n4 (text_eq.1 (by rw [h]; simp))
                          have m6 : (x.text.toList != y.text.toList) = true := by simp [m5]
                          have HN : Hid (true = true → a ≠ b) := Lib.hid fun _ => take_differ HXK.out HYK.out (fun h => n4 (by rw [h]))
                          clear n1 n2 n3 n4
                          go_wp2_with fail
                          refine ⟨⟨j + 1, true, by omega, rfl, by go_num, HN, HB9.out⟩, by simp [intOf]; omega⟩
                      · have m3 : (x.num != y.num) = true := by simp [n3]
                        have m3' : (x.num == y.num) = false := by simp [n3]
                        have HN : Hid (true = true → a ≠ b) := Lib.hid fun _ => take_differ HXK.out HYK.out (fun h => n3 (by rw [h]))
                        clear n1 n2 n3
                        go_wp2_with fail
                        refine ⟨⟨j + 1, true, by omega, rfl, by go_num, HN, HB9.out⟩, by simp [intOf]; omega⟩
                    · have m2 : (x.kind != y.kind) = true := by simp [n2]
                      have m2' : (x.kind == y.kind) = false := by simp [n2]
                      have HN : Hid (true = true → a ≠ b) := Lib.hid fun _ => take_differ HXK.out HYK.out (fun h => n2 (by rw [h]))
                      clear n1 n2
                      go_wp2_with fail
                      refine ⟨⟨j + 1, true, by omega, rfl, by go_num, HN, HB9.out⟩, by simp [intOf]; omega⟩
                  · have m1 : (x.null != y.null) = true := by simp [n1]
                    have m1' : (x.null == y.null) = false := by simp [n1]
                    have HN : Hid (true = true → a ≠ b) := Lib.hid fun _ => take_differ HXK.out HYK.out (fun h => n1 (by rw [h]))
                    clear n1
                    go_wp2_with fail
                    refine ⟨⟨j + 1, true, by omega, rfl, by go_num, HN, HB9.out⟩, by simp [intOf]; omega⟩
            · obtain rfl : j = min n n2 := by omega
              have hj3 : ¬ ((min n n2 : Nat) : Int) < min (n : Int) (n2 : Int) := by omega
              have G1 := Lib.hid (row45 a a GA.out GA.out A A n c n c wr (HX.out.mono HB5.out).at_ (HX.out.mono HB5.out).at_ (by omega) (by omega))
              rw [decide_eq_true (rfl : a = a)] at G1
              go_wp2_with fail
              refine G1.out.mono ?_
              rintro e v1 ⟨rfl, hb1⟩
              have HV1 := Lib.hid (HB5.out.trans (hb1.mono HB5.out.size))
              clear hb1
              cases D with
              | false =>
                go_wp2_with fail
                refine (works20 _).mono ?_
                rintro e v3 ⟨rfl, hb3⟩
                have HV3 := Lib.hid (HV1.out.trans (hb3.mono HV1.out.size))
                clear hb3
                go_wp2_with fail
                go_ret
                exact ⟨rfl, HV3.out⟩
              | true =>
                have G2 := Lib.hid (row45 a b GA.out GB.out A A2 n c n2 c2 v1 (HX.out.mono HV1.out).at_ (HY.out.mono HV1.out).at_ (by omega) (by omega))
                rw [decide_eq_false (HDD.out rfl)] at G2
                go_wp2_with fail
                refine G2.out.mono ?_
                rintro e v2 ⟨rfl, hb2⟩
                have HV2 := Lib.hid (HV1.out.trans (hb2.mono HV1.out.size))
                clear hb2
                go_wp2_with fail
                refine (works20 _).mono ?_
                rintro e v3 ⟨rfl, hb3⟩
                have HV3 := Lib.hid (HV2.out.trans (hb3.mono HV2.out.size))
                clear hb3
                go_wp2_with fail
                go_ret
                exact ⟨rfl, HV3.out⟩
end Go.Proofs.YtglgclkgppomiaaGreat

namespace Go.Proofs.YtglgclkgppomiaaGreat
open Go Go.RowKit

theorem own_empty {w w' : World} {base : Nat} (hb : base ≤ w.heap.size) (hw : w' = w.alloc (.cells #[] 39)) : w'.ownsRow base 39 7 (.slice (some ⟨w.heap.size, 0, none⟩) 0 0) 0 [] := by
  subst hw
  exact ⟨by simp, .inr ⟨w.heap.size, 0, _, rfl, hb, heap_alloc_new w _, Nat.zero_le _, by simp only [maxLen]; omega, by simp, by simp⟩⟩
set_option maxRecDepth 100000
set_option maxHeartbeats 4000000
theorem law15 {w : World} {A5 A0 : Option Addr} {n5 c5 n c : Nat} {fr : List Cl} {ls : List (List Cl)} {A : Nat → Option Addr} {cc : Nat → Nat} (hF : InC w A5 n5 c5 fr) (hL : InL w A0 n c ls A cc) :
    Calls Tryz.prog 15 #[.slice A5 n5 c5, .slice A0 n c] w fun e w' => e = .returned (.bool true) ∧ Below w.heap.size w w' := by
  have HL := Lib.hid hL
  have HF := Lib.hid hF
  have HLEN := Lib.hid hL.at_.len.1
  have HFEN := Lib.hid hF.at_.1
  have F0 := Lib.hid (fits34_any fr A5 n5 c5 w hF.at_ (by have := hF.at_.1; have := hF.len; omega) (fun y h => (hF.fit y h).1))
  clear hL hF
  go_enter Tryz.func15, Tryz.ntmps15
  go_wp2_with fail
  refine F0.out.mono ?_
  rintro e w1 ⟨rfl, hb1⟩
  have HB1 := Lib.hid hb1
  have F1 := Lib.hid (fits35_any ls A0 n c A cc w1 (HL.out.mono hb1).at_ (by have := HLEN.out; have := HL.out.len; omega) (fun l hl => ⟨(HL.out.fit l hl).1, fun x hx => ((HL.out.fit l hl).2 x hx).1⟩))
  clear hb1
  cases ff : fitsCls fr with
  | false =>
    go_wp2_with fail
    go_ret
    exact ⟨rfl, HB1.out⟩
  | true =>
    have FF := Lib.hid (fitsCls_of ff)
    clear ff
    go_wp2_with fail
    refine F1.out.mono ?_
    rintro e w2 ⟨rfl, hb2⟩
    have HB2 := Lib.hid (HB1.out.trans (hb2.mono HB1.out.size))
    clear hb2
    cases fa : fitsLss ls with
    | false =>
      go_wp2_with fail
      go_ret
      exact ⟨rfl, HB2.out⟩
    | true =>
      have FA := Lib.hid (fitsLss_of fa)
      have F2 := Lib.hid (columns36 ls A0 n c A cc w2 (HL.out.mono HB2.out).at_ (by have := FA.out.1; have := HLEN.out; omega) (fun l hl => ⟨by have := (FA.out.2 l hl).1; omega, fun x hx => by have := (FA.out.2 l hl).2 x hx; omega⟩))
      clear fa
      go_wp2_with fail
      refine F2.out.mono ?_
      rintro e w3 ⟨rfl, hb3⟩
      have HB3 := Lib.hid (HB2.out.trans (hb3.mono HB2.out.size))
      have F3 := Lib.hid (cells37 fr A5 n5 c5 w3 (HF.out.mono HB3.out).at_ (by have := FF.out.1; have := HFEN.out; omega) (fun y h => by have := FF.out.2 y h; omega))
      clear hb3
      cases ga : areCols ls with
      | false =>
        go_wp2_with fail
        refine (works20 _).mono ?_
        rintro e w4 ⟨rfl, hb4⟩
        have HB4 := Lib.hid (HB3.out.trans (hb4.mono HB3.out.size))
        clear hb4
        go_wp2_with fail
        go_ret
        exact ⟨rfl, HB4.out⟩
      | true =>
        have GC := Lib.hid (areCols_cols ga (fun l hl y hy => ((HL.out.fit l hl).2 y hy).2))
        clear ga
        go_wp2_with fail
        refine F3.out.mono ?_
        rintro e w4 ⟨rfl, hb4⟩
        have HB4 := Lib.hid (HB3.out.trans (hb4.mono HB3.out.size))
        clear hb4
        cases gf : areCl fr with
        | false =>
          go_wp2_with fail
          refine (works20 _).mono ?_
          rintro e w5 ⟨rfl, hb5⟩
          have HB5 := Lib.hid (HB4.out.trans (hb5.mono HB4.out.size))
          clear hb5
          go_wp2_with fail
          go_ret
          exact ⟨rfl, HB5.out⟩
        | true =>
          have GF := Lib.hid (areCl_good gf HF.out.fit)
          have GL := Lib.hid (areCl_of gf).1
          have F4 := Lib.hid (append38 fr ls A5 A0 n5 c5 n c A cc w4 (HF.out.mono HB4.out).at_ (HL.out.mono HB4.out).at_ GF.out GL.out GC.out)
          obtain ⟨N, hN⟩ : ∃ N, N = (fr ++ ls.flatten).length := ⟨_, rfl⟩
          have HN := Lib.hid hN
          obtain ⟨N2, hN2⟩ : ∃ N2, N2 = ls.flatten.length := ⟨_, rfl⟩
          have HN2 := Lib.hid hN2
          have hn5 : n5 ≤ 5000 := by have := HFEN.out; have := GL.out; omega
          have hn2 : N2 ≤ 1500000 := by have := GC.out.flat; omega
          obtain ⟨i39, j1, j2, j3, j4⟩ := info_parts info39
          have J1 := Lib.hid j1
          have J2 := Lib.hid j2
          have J3 := Lib.hid j3
          have J4 := Lib.hid j4
          clear gf hN hN2 j1 j2 j3 j4
          go_wp2_with fail
          refine F4.out.mono ?_
          rintro e w5 ⟨A6, c6, he, hcl5, hb5⟩
          rw [← HN.out] at he hcl5
          subst he
          have HB5 := Lib.hid (HB4.out.trans (hb5.mono HB4.out.size))
          have HCL5 := Lib.hid hcl5
          have HO := Lib.hid (own_empty (w := w5) (base := w5.heap.size) (Nat.le_refl _) rfl)
          have Y := Lib.hid (((HF.out.mono HB5.out).at_.mono (B' := w5.heap.size) ((Below.refl _ _).alloc (Nat.le_refl _) (.cells #[] 39)) (Nat.le_refl _)).list)
          clear hb5 hcl5
          go_wp2_with (at_builtin; refine wpList_append3 _ rfl _ _ 26 26 rfl w5.heap.size 39 39 i39 _ 7 64 Tryz.underlying26 Tryz.underlying26 J1.out J2.out J3.out J4.out rfl (by decide) (.slice (some ⟨w5.heap.size, 0, none⟩) 0 0) 0 [] (by rfl) HO.out A5 n5 c5 (clFlat fr) (by rfl) Y.out.1 (by rw [clFlat_length, HFEN.out]) Y.out.2 (cls_one _) (by simp only [maxLen]; omega) (by omega) (by rw [size_alloc1]; omega) ?_; intro v' w' hown' hgrow' hat')
          have HB6 := Lib.hid (below_grownRow_alloc hgrow' (Nat.le_refl _) (fun k hk => (HO.out.lt k hk).1))
          have HO6 := Lib.hid hown'
          have F5 := Lib.hid (joined39c ls A0 n c A cc w' (HL.out.mono (HB5.out.trans (HB6.out.mono HB5.out.size))).at_ GC.out)
          clear hown' hgrow' hat'
          refine F5.out.mono ?_
          rintro e w7 ⟨A7, c7, he, hcl7, hb7⟩
          rw [← HN2.out] at he hcl7
          subst he
          have HB7 := Lib.hid (HB6.out.trans (hb7.mono HB6.out.size))
          have HO7 := Lib.hid (HO6.out.kept (row := none) ⟨hb7.os, hb7.tape, hb7.output, hb7.size, fun k hk _ => hb7.block k hk⟩ (by cases v'.ownBlock <;> simp))
          have Y7 := Lib.hid hcl7.list
          have hs7 := HB7.out.size
          clear hb7 hcl7
          go_wp2_with (at_builtin; refine wpList_append3 _ rfl _ _ 26 26 rfl w5.heap.size 39 39 i39 _ 7 64 Tryz.underlying26 Tryz.underlying26 J1.out J2.out J3.out J4.out rfl (by decide) v' (0 + n5) ([] ++ clFlat fr) (by rfl) HO7.out A7 N2 c7 (clFlat ls.flatten) (by rfl) Y7.out.1 (by rw [clFlat_length, HN2.out]) Y7.out.2 (cls_one _) (by simp only [maxLen]; omega) (by omega) hs7 ?_; intro v8 w8 hown8 hgrow8 hat8)
          have hb8 : Below w5.heap.size w5 w8 := HB7.out.trans (below_grownRow hgrow8 hs7 (fun k hk => (HO7.out.lt k hk).1))
          rw [List.nil_append, Nat.zero_add, ← cls_append] at hown8
          have hNN : n5 + N2 = N := by
            have h1 := HN.out
            rw [List.length_append, HFEN.out, ← HN2.out] at h1
            exact h1.symm
          rw [hNN] at hown8
          obtain ⟨A8, c8, rfl, hcl8⟩ := clsAt_owns hown8 HN.out.symm
          have HB8 := Lib.hid (HB5.out.trans (hb8.mono HB5.out.size))
          have F6 := Lib.hid (sameCells_any (fr ++ ls.flatten) (fr ++ ls.flatten) A6 N c6 A8 N c8 w8 (by omega) (HCL5.out.mono hb8 hb8.size) hcl8)
          clear hown8 hgrow8 hat8 hb8 hcl8 hNN
          refine F6.out.mono ?_
          rintro e w9 ⟨b9, rfl, hb9, hb10⟩
          obtain rfl : b9 = true := by first | exact hb9.2 rfl | exact hb9.2 trivial
          have HB9 := Lib.hid (HB8.out.trans (hb10.mono HB8.out.size))
          clear hb9 hb10
          go_wp2_with fail
          refine (works20 _).mono ?_
          rintro e w10 ⟨rfl, hb11⟩
          have HB10 := Lib.hid (HB9.out.trans (hb11.mono HB9.out.size))
          clear hb11
          go_wp2_with fail
          go_ret
          exact ⟨rfl, HB10.out⟩
end Go.Proofs.YtglgclkgppomiaaGreat
