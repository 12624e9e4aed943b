/- How the arguments read: cells, lists of cells, and lists of lists of cells. From the walk of a law over cells to what its row asks. The walk of the law FnValueSame (printed by tools/gen_t15.py). -/
import Derived.Test.YtglgclkgppomiaaGreatYValue04
import Derived.Test.YtglgclkgppomiaaGreatYValue05
import Derived.Test.YtglgclkgppomiaaGreatYValue06
import Derived.Test.YtglgclkgppomiaaGreatZ21
import Derived.Test.YtglgclkgppomiaaGreatZ24
set_option linter.unusedVariables false
set_option linter.unusedSimpArgs false
namespace Go.Proofs.YtglgclkgppomiaaGreat
open Go Go.RowKit Go.ChangeShapes Go.WideShapes Go.ChangeAt Go.Deep

/-- What every cell in memory is: no text longer than any text, and a number of its kind. -/
def CellFit (x : Cl) : Prop := x.text.size ≤ 9223372036854775807 ∧ -9223372036854775808 ≤ x.num ∧ x.num ≤ 9223372036854775807
instance : Inhabited Cl := ⟨⟨0, 0, 0, false, 0, 0, .empty⟩⟩
theorem cellsOf39 : Tryz.prog.cellsOf 39 = 7 := by kernel_rfl
theorem cellsOf26 : Tryz.prog.cellsOf 26 = 1 := by kernel_rfl
theorem maxLen_val : maxLen = 9223372036854775807 := by decide
section
variable {H : Type} {enc : TypeId × Value → H}
theorem read_cell {W : World} {n : Nat} {cs : List Value} {y : DataW H × List MemPlace} (h : DataW.trod enc Tryz.prog W 0 (fun _ => true) true n 39 cs = some y) : ∃ x : Cl, cs = x.vals ∧ CellFit x := by
  obtain ⟨xs, m, _, rfl, hl, hxl, hx⟩ := DataW.trod_struct Tryz.underlying39 h
  rw [cellsOf39] at hl
  obtain ⟨v0, v1, v2, v3, v4, v5, v6, rfl⟩ : ∃ v0 v1 v2 v3 v4 v5 v6, cs = [v0, v1, v2, v3, v4, v5, v6] := by
    rcases cs with _ | ⟨v0, _ | ⟨v1, _ | ⟨v2, _ | ⟨v3, _ | ⟨v4, _ | ⟨v5, _ | ⟨v6, _ | ⟨v7, r⟩⟩⟩⟩⟩⟩⟩⟩ <;> simp at hl
    exact ⟨v0, v1, v2, v3, v4, v5, v6, rfl⟩
  rcases xs with _ | ⟨x0, _ | ⟨x1, _ | ⟨x2, _ | ⟨x3, _ | ⟨x4, _ | ⟨x5, _ | ⟨x6, _ | ⟨x7, r⟩⟩⟩⟩⟩⟩⟩⟩ <;> (try (simp at hxl; done))
  have y0 : DataW.trod enc Tryz.prog W 0 (fun _ => true) true m 3 ((List.drop 0 [v0, v1, v2, v3, v4, v5, v6]).take (Tryz.prog.cellsOf 3)) = some x0 := hx 0 _ rfl
  rw [cellsOf3] at y0
  have y1 : DataW.trod enc Tryz.prog W 0 (fun _ => true) true m 3 ((List.drop 1 [v0, v1, v2, v3, v4, v5, v6]).take (Tryz.prog.cellsOf 3)) = some x1 := hx 1 _ rfl
  rw [cellsOf3] at y1
  have y2 : DataW.trod enc Tryz.prog W 0 (fun _ => true) true m 3 ((List.drop 2 [v0, v1, v2, v3, v4, v5, v6]).take (Tryz.prog.cellsOf 3)) = some x2 := hx 2 _ rfl
  rw [cellsOf3] at y2
  have y3 : DataW.trod enc Tryz.prog W 0 (fun _ => true) true m 4 ((List.drop 3 [v0, v1, v2, v3, v4, v5, v6]).take (Tryz.prog.cellsOf 4)) = some x3 := hx 3 _ rfl
  rw [cellsOf4] at y3
  have y4 : DataW.trod enc Tryz.prog W 0 (fun _ => true) true m 3 ((List.drop 4 [v0, v1, v2, v3, v4, v5, v6]).take (Tryz.prog.cellsOf 3)) = some x4 := hx 4 _ rfl
  rw [cellsOf3] at y4
  have y5 : DataW.trod enc Tryz.prog W 0 (fun _ => true) true m 2 ((List.drop 5 [v0, v1, v2, v3, v4, v5, v6]).take (Tryz.prog.cellsOf 2)) = some x5 := hx 5 _ rfl
  rw [cellsOf2] at y5
  have y6 : DataW.trod enc Tryz.prog W 0 (fun _ => true) true m 9 ((List.drop 6 [v0, v1, v2, v3, v4, v5, v6]).take (Tryz.prog.cellsOf 9)) = some x6 := hx 6 _ rfl
  rw [cellsOf9] at y6
  obtain ⟨z0, e0, _, _⟩ := DataW.trod_int Tryz.underlying3 y0
  obtain ⟨z1, e1, _, _⟩ := DataW.trod_int Tryz.underlying3 y1
  obtain ⟨z2, e2, _, _⟩ := DataW.trod_int Tryz.underlying3 y2
  obtain ⟨z3, e3, _⟩ := DataW.trod_bool Tryz.underlying4 y3
  obtain ⟨z4, e4, _, _⟩ := DataW.trod_int Tryz.underlying3 y4
  obtain ⟨z5, e5, _, hz5⟩ := DataW.trod_int Tryz.underlying2 y5
  obtain ⟨z6, e6, _, hz6⟩ := DataW.trod_string Tryz.underlying9 y6
  simp at e0 e1 e2 e3 e4 e5 e6
  subst e0 e1 e2 e3 e4 e5 e6
  exact ⟨⟨z0, z1, z2, z3, z4, z5, z6⟩, rfl, by rw [← maxLen_val]; exact hz6, bounds_i64 hz5⟩
theorem read_cls (W : World) (n : Nat) (cs : List Value) (x : DataW H × List MemPlace) (h : DataW.trod enc Tryz.prog W 0 (fun _ => true) true n 26 cs = some x) :
    ∃ A len cap cl, cs = [.slice A len cap] ∧ ClsAt W W.heap.size A len cap cl ∧ cl.length ≤ 9223372036854775807 ∧ ∀ y ∈ cl, CellFit y := by
  rcases open_slice Tryz.underlying26 h with ⟨rfl, rfl⟩ | ⟨a, len, cap, m, q, D, Pl, rfl, _, hlc, hcm, hm, rfl, hel⟩
  · exact ⟨none, 0, 0, [], rfl, ⟨rfl, Nat.le_refl _, fun h0 => absurd h0 (by omega)⟩, by simp, fun y hy => by cases hy⟩
  · simp only [if_true] at hm
    subst hm
    rw [cellsOf39] at hel
    rw [maxLen_val] at hcm
    have key : ∀ i, i < len → ∃ y : Cl, (∀ k, k < 7 → W.cell? ((a.add (i * 7)).add k) = y.vals[k]?) ∧ (a.add (i * 7)).block < W.heap.size ∧ CellFit y := fun i hi => by
      obtain ⟨cs', hc', ht'⟩ := hel i (by omega)
      obtain ⟨y, rfl, hy⟩ := read_cell ht'
      exact ⟨y, (cells_get hc').2, World.cells?_block hc' (by omega), hy⟩
    by_cases h0 : len = 0
    · subst h0
      exact ⟨some a, 0, _, [], rfl, ⟨rfl, hlc, fun h0 => absurd h0 (by omega)⟩, by simp, fun y hy => by cases hy⟩
    · obtain ⟨r, hr⟩ := choose_lt (α := Cl) key
      obtain ⟨b, o, rfl⟩ : ∃ b o, a = ⟨b, o, none⟩ := plain_add (v := .int .i64 (r 0).col) (by
        have := (hr 0 (by omega)).1 0 (by omega)
        rw [Nat.zero_mul] at this
        have e : (a.add 0).add 0 = a.add 0 := by unfold Addr.add; simp
        rw [e] at this; exact this)
      refine ⟨_, len, _, (List.range len).map r, rfl, ⟨by simp, hlc, fun _ => ⟨b, o, rfl, ?_, fun k y hk => ?_⟩⟩, by simp; omega, fun y hy => ?_⟩
      · have := (hr 0 (by omega)).2.1
        rw [Nat.zero_mul, Addr.add_lit] at this
        exact this
      · obtain ⟨hkl, rfl⟩ := mem_range_map hk
        have hc := (hr k hkl).1
        have hcell : ∀ i, (Addr.add (⟨b, o, none⟩ : Addr) (k * 7)).add i = ⟨b, o + k * 7 + i, none⟩ := fun i => by rw [Addr.add_lit, Addr.add_lit]
        simp only [hcell] at hc
        exact ⟨hc 0 (by omega), hc 1 (by omega), hc 2 (by omega), hc 3 (by omega), hc 4 (by omega), hc 5 (by omega), hc 6 (by omega)⟩
      · obtain ⟨i, hi, rfl⟩ := List.mem_map.1 hy
        exact (hr i (List.mem_range.1 hi)).2.2
theorem read_lss (W : World) (n : Nat) (cs : List Value) (x : DataW H × List MemPlace) (h : DataW.trod enc Tryz.prog W 0 (fun _ => true) true n 49 cs = some x) :
    ∃ A0 len cap ls A cc, cs = [.slice A0 len cap] ∧ LsAt W W.heap.size A0 len cap ls A cc ∧ ls.length ≤ 9223372036854775807 ∧ ∀ l ∈ ls, l.length ≤ 9223372036854775807 ∧ ∀ y ∈ l, CellFit y := by
  rcases open_slice Tryz.underlying49 h with ⟨rfl, rfl⟩ | ⟨a, len, cap, m, q, D, Pl, rfl, _, hlc, hcm, hm, rfl, hel⟩
  · exact ⟨none, 0, 0, [], fun _ => none, fun _ => 0, rfl, ⟨⟨rfl, Nat.le_refl _⟩, fun k l hk => by simp at hk⟩, by simp, fun y hy => by cases hy⟩
  · simp only [if_true] at hm
    subst hm
    rw [cellsOf26] at hel
    rw [maxLen_val] at hcm
    have key : ∀ i, i < len → ∃ r : List Cl × Option Addr × Nat, W.cell? ((a.add (i * 1)).add 0) = some (.slice r.2.1 r.1.length r.2.2) ∧ (a.add (i * 1)).block < W.heap.size ∧ ClsAt W W.heap.size r.2.1 r.1.length r.2.2 r.1 ∧ r.1.length ≤ 9223372036854775807 ∧ ∀ y ∈ r.1, CellFit y := fun i hi => by
      obtain ⟨cs', hc', ht'⟩ := hel i (by omega)
      have hcg := (cells_get hc').2
      have hblk := World.cells?_block hc' (by omega)
      obtain ⟨A', n', c', cl, rfl, hcl, hlen, hfit⟩ := read_cls W _ cs' _ ht'
      have hl := hcl.1
      refine ⟨(cl, A', c'), ?_, hblk, ?_, hlen, hfit⟩
      · have := hcg 0 (by omega)
        show _ = some (Value.slice A' cl.length c')
        rw [hl]; simpa using this
      · show ClsAt W _ A' cl.length c' cl
        rw [hl]; exact hcl
    by_cases h0 : len = 0
    · subst h0
      exact ⟨some a, 0, _, [], fun _ => none, fun _ => 0, rfl, ⟨⟨rfl, hlc⟩, fun k l hk => by simp at hk⟩, by simp, fun y hy => by cases hy⟩
    · obtain ⟨r, hr⟩ := choose_lt (α := List Cl × Option Addr × Nat) key
      obtain ⟨b, o, rfl⟩ : ∃ b o, a = ⟨b, o, none⟩ := plain_add (by
        have := (hr 0 (by omega)).1
        rw [Nat.zero_mul] at this
        have e : (a.add 0).add 0 = a.add 0 := by unfold Addr.add; simp
        rw [e] at this; exact this)
      refine ⟨_, len, _, (List.range len).map fun i => (r i).1, fun i => (r i).2.1, fun i => (r i).2.2, rfl, ⟨⟨by simp, hlc⟩, fun k l hk => ?_⟩, by simp; omega, fun y hy => ?_⟩
      · obtain ⟨hkl, rfl⟩ := mem_range_map hk
        obtain ⟨h1, h2, h3, _⟩ := hr k hkl
        rw [Addr.add_lit, Addr.add_lit] at h1
        rw [Addr.add_lit] at h2
        exact ⟨b, o, rfl, h2, by simpa using h1, h3⟩
      · obtain ⟨i, hi, rfl⟩ := List.mem_map.1 hy
        exact (hr i (List.mem_range.1 hi)).2.2.2
end
end Go.Proofs.YtglgclkgppomiaaGreat

namespace Go.Proofs.YtglgclkgppomiaaGreat
open Go Go.RowKit Go.ChangeShapes Go.WideShapes Go.ChangeAt Go.Deep

theorem readable39 : Tryz.prog.readableRec 39 = true := by kernel_rfl
theorem rowed39 : 39 < Tryz.prog.types.size := of_decide_eq_true (by kernel_rfl)
theorem readable26 : Tryz.prog.readableRec 26 = true := by kernel_rfl
theorem rowed26 : 26 < Tryz.prog.types.size := of_decide_eq_true (by kernel_rfl)
theorem readable49 : Tryz.prog.readableRec 49 = true := by kernel_rfl
theorem rowed49 : 49 < Tryz.prog.types.size := of_decide_eq_true (by kernel_rfl)
/-- Cells behind a slice, as an argument. -/
structure InC (w : World) (A : Option Addr) (n c : Nat) (cs : List Cl) : Prop where
  at_ : ClsAt w w.heap.size A n c cs
  len : cs.length ≤ 9223372036854775807
  fit : ∀ y ∈ cs, CellFit y
structure InL (w : World) (A0 : Option Addr) (n c : Nat) (ls : List (List Cl)) (A : Nat → Option Addr) (cc : Nat → Nat) : Prop where
  at_ : LsAt w w.heap.size A0 n c ls A cc
  len : ls.length ≤ 9223372036854775807
  fit : ∀ l ∈ ls, l.length ≤ 9223372036854775807 ∧ ∀ y ∈ l, CellFit y
theorem InC.mono {w w' : World} {A : Option Addr} {n c : Nat} {cs : List Cl} (h : InC w A n c cs) (hb : Below w.heap.size w w') : InC w' A n c cs := ⟨h.at_.mono hb hb.size, h.len, h.fit⟩
theorem InL.mono {w w' : World} {A0 : Option Addr} {n c : Nat} {ls : List (List Cl)} {A : Nat → Option Addr} {cc : Nat → Nat} (h : InL w A0 n c ls A cc) (hb : Below w.heap.size w w') : InL w' A0 n c ls A cc := ⟨h.at_.mono hb hb.size, h.len, h.fit⟩
section
variable {H : Type} {enc : TypeId × Value → H}
set_option maxRecDepth 100000 in
theorem arg_cell {W : World} {base : Nat} {v : Value} {d : DataW H} {p : List MemPlace} (hv : Value.okWide Tryz.prog W .any base 39 v) (h : DataW.Trod enc Tryz.prog W 0 (fun _ => true) true 39 v d p) :
    ∃ x : Cl, v = clVal x ∧ CellFit x := by
  obtain ⟨cs, rfl, _⟩ := okWide_struct Tryz.underlying39 hv
  obtain ⟨fuel, hf⟩ := h
  obtain ⟨x, hx, hfit⟩ := read_cell hf
  have hx' : cs.toList = x.vals := hx
  refine ⟨x, ?_, hfit⟩
  have : cs = x.vals.toArray := by rw [← hx']
  rw [this]; rfl
set_option maxRecDepth 100000 in
theorem arg_cls {W : World} {base : Nat} {v : Value} {d : DataW H} {p : List MemPlace} (hv : Value.okWide Tryz.prog W .any base 26 v) (h : DataW.Trod enc Tryz.prog W 0 (fun _ => true) true 26 v d p) :
    ∃ A n c cs, v = .slice A n c ∧ InC W A n c cs := by
  obtain ⟨a, l, cap, rfl⟩ := okWide_slice Tryz.underlying26 hv
  obtain ⟨fuel, hf⟩ := h
  rw [sliceCells] at hf
  obtain ⟨A, n, c, cs, he, h1, h2, h3⟩ := read_cls W fuel _ (d, p) hf
  simp only [List.cons.injEq, and_true] at he
  exact ⟨A, n, c, cs, he, h1, h2, h3⟩
set_option maxRecDepth 100000 in
theorem arg_lss {W : World} {base : Nat} {v : Value} {d : DataW H} {p : List MemPlace} (hv : Value.okWide Tryz.prog W .any base 49 v) (h : DataW.Trod enc Tryz.prog W 0 (fun _ => true) true 49 v d p) :
    ∃ A0 n c ls A cc, v = .slice A0 n c ∧ InL W A0 n c ls A cc := by
  obtain ⟨a, l, cap, rfl⟩ := okWide_slice Tryz.underlying49 hv
  obtain ⟨fuel, hf⟩ := h
  rw [sliceCells] at hf
  obtain ⟨A0, n, c, ls, A, cc, he, h1, h2, h3⟩ := read_lss W fuel _ (d, p) hf
  simp only [List.cons.injEq, and_true] at he
  exact ⟨A0, n, c, ls, A, cc, he, h1, h2, h3⟩
end
set_option maxRecDepth 100000 in
/-- A law of two cells. -/
theorem contract_cc (F : FuncId) (f : Func) (s : ChangeSpec) (hp : f.params = #[39, 39]) (hres : f.resultTypes = #[4]) (hvars : s.vars = [])
    (hfn : ∀ (H : Type) (d1 d2 : DataW H), s.fn H [d1, d2] = { results := [.lit (.bool true)], args := [d1, d2] })
    (law : ∀ (w : World) (x y : Cl), CellFit x → CellFit y → Calls Tryz.prog F #[clVal x, clVal y] w fun e w' => e = .returned (.bool true) ∧ Below w.heap.size w w')
    (H : Type) (enc : TypeId × Value → H) (W : World) (base : Nat) (args : Array Value) (ds gs : List (DataW H)) (before : List MemPlace)
    (hval : ∀ (j : Nat) t v, f.params[j]? = some t → args[j]? = some v → Value.okWide Tryz.prog W .any base t v)
    (hW : DataW.Whole enc Tryz.prog f.params.toList s.vars false W args.toList ds gs before) :
    Calls Tryz.prog F args W fun e W' => ∃ v, e = .returned v ∧ s.post enc Tryz.prog f false true false false W args v W' := by
  have hW' := hW
  obtain ⟨p, q, hA, hV, rfl, hfz, hnd⟩ := hW
  rw [hp] at hA hval
  rw [hvars] at hV
  obtain ⟨v0, vs0, d0, ds0, p0, q0, hargs, rfl, rfl, h0, r0⟩ := trodAll_cons hA
  obtain ⟨v1, vs1, d1, ds1, p1, q1, hargs1, rfl, rfl, h1, r1⟩ := trodAll_cons r0
  obtain ⟨rfl, rfl, rfl⟩ := trodAll_nil r1
  obtain rfl : args = #[v0, v1] := by cases args; simp_all
  obtain ⟨rfl, rfl⟩ := trodVars_none hV
  obtain ⟨x, rfl, hx⟩ := arg_cell (hval 0 39 v0 rfl rfl) h0
  obtain ⟨y, rfl, hy⟩ := arg_cell (hval 1 39 v1 rfl rfl) h1
  have hlt0 : ∀ x ∈ p0, x.block < W.heap.size := fun x hx => hW'.lt x (by simp [hx])
  have hlt1 : ∀ x ∈ p1, x.block < W.heap.size := fun x hx => hW'.lt x (by simp [hx])
  refine (law W x y hx hy).mono fun e W' ⟨he, hb⟩ => ⟨_, he, ?_⟩
  refine post_of_below hW' hb hres Tryz.underlying4 (by simp only [List.append_nil, hfn]) hvars (by simp only [List.append_nil, hfn]) (p0 ++ (p1 ++ [])) ?_
  simp only [List.append_nil, hfn]
  rw [hp]
  have := trodAll_cons_mk (Below.trod laidOuts readable39 rowed39 h0 hb hlt0) (trodAll_cons_mk (Below.trod laidOuts readable39 rowed39 h1 hb hlt1) trodAll_mk0)
  simpa using this
set_option maxRecDepth 100000 in
/-- A law of two lists of cells. -/
theorem contract_ll (F : FuncId) (f : Func) (s : ChangeSpec) (hp : f.params = #[26, 26]) (hres : f.resultTypes = #[4]) (hvars : s.vars = [])
    (hfn : ∀ (H : Type) (d1 d2 : DataW H), s.fn H [d1, d2] = { results := [.lit (.bool true)], args := [d1, d2] })
    (law : ∀ (w : World) (A A2 : Option Addr) (n c n2 c2 : Nat) (a b : List Cl), InC w A n c a → InC w A2 n2 c2 b → Calls Tryz.prog F #[.slice A n c, .slice A2 n2 c2] w fun e w' => e = .returned (.bool true) ∧ Below w.heap.size w w')
    (H : Type) (enc : TypeId × Value → H) (W : World) (base : Nat) (args : Array Value) (ds gs : List (DataW H)) (before : List MemPlace)
    (hval : ∀ (j : Nat) t v, f.params[j]? = some t → args[j]? = some v → Value.okWide Tryz.prog W .any base t v)
    (hW : DataW.Whole enc Tryz.prog f.params.toList s.vars false W args.toList ds gs before) :
    Calls Tryz.prog F args W fun e W' => ∃ v, e = .returned v ∧ s.post enc Tryz.prog f false true false false W args v W' := by
  have hW' := hW
  obtain ⟨p, q, hA, hV, rfl, hfz, hnd⟩ := hW
  rw [hp] at hA hval
  rw [hvars] at hV
  obtain ⟨v0, vs0, d0, ds0, p0, q0, hargs, rfl, rfl, h0, r0⟩ := trodAll_cons hA
  obtain ⟨v1, vs1, d1, ds1, p1, q1, hargs1, rfl, rfl, h1, r1⟩ := trodAll_cons r0
  obtain ⟨rfl, rfl, rfl⟩ := trodAll_nil r1
  obtain rfl : args = #[v0, v1] := by cases args; simp_all
  obtain ⟨rfl, rfl⟩ := trodVars_none hV
  obtain ⟨A, n, c, a, rfl, hx⟩ := arg_cls (hval 0 26 v0 rfl rfl) h0
  obtain ⟨A2, n2, c2, b, rfl, hy⟩ := arg_cls (hval 1 26 v1 rfl rfl) h1
  have hlt0 : ∀ x ∈ p0, x.block < W.heap.size := fun x hx => hW'.lt x (by simp [hx])
  have hlt1 : ∀ x ∈ p1, x.block < W.heap.size := fun x hx => hW'.lt x (by simp [hx])
  refine (law W A A2 n c n2 c2 a b hx hy).mono fun e W' ⟨he, hb⟩ => ⟨_, he, ?_⟩
  refine post_of_below hW' hb hres Tryz.underlying4 (by simp only [List.append_nil, hfn]) hvars (by simp only [List.append_nil, hfn]) (p0 ++ (p1 ++ [])) ?_
  simp only [List.append_nil, hfn]
  rw [hp]
  have := trodAll_cons_mk (Below.trod laidOuts readable26 rowed26 h0 hb hlt0) (trodAll_cons_mk (Below.trod laidOuts readable26 rowed26 h1 hb hlt1) trodAll_mk0)
  simpa using this
set_option maxRecDepth 100000 in
/-- A law of columns. -/
theorem contract_s (F : FuncId) (f : Func) (s : ChangeSpec) (hp : f.params = #[49]) (hres : f.resultTypes = #[4]) (hvars : s.vars = [])
    (hfn : ∀ (H : Type) (d1 : DataW H), s.fn H [d1] = { results := [.lit (.bool true)], args := [d1] })
    (law : ∀ (w : World) (A0 : Option Addr) (n c : Nat) (ls : List (List Cl)) (A : Nat → Option Addr) (cc : Nat → Nat), InL w A0 n c ls A cc → Calls Tryz.prog F #[.slice A0 n c] w fun e w' => e = .returned (.bool true) ∧ Below w.heap.size w w')
    (H : Type) (enc : TypeId × Value → H) (W : World) (base : Nat) (args : Array Value) (ds gs : List (DataW H)) (before : List MemPlace)
    (hval : ∀ (j : Nat) t v, f.params[j]? = some t → args[j]? = some v → Value.okWide Tryz.prog W .any base t v)
    (hW : DataW.Whole enc Tryz.prog f.params.toList s.vars false W args.toList ds gs before) :
    Calls Tryz.prog F args W fun e W' => ∃ v, e = .returned v ∧ s.post enc Tryz.prog f false true false false W args v W' := by
  have hW' := hW
  obtain ⟨p, q, hA, hV, rfl, hfz, hnd⟩ := hW
  rw [hp] at hA hval
  rw [hvars] at hV
  obtain ⟨v0, vs0, d0, ds0, p0, q0, hargs, rfl, rfl, h0, r0⟩ := trodAll_cons hA
  obtain ⟨rfl, rfl, rfl⟩ := trodAll_nil r0
  obtain rfl : args = #[v0] := by cases args; simp_all
  obtain ⟨rfl, rfl⟩ := trodVars_none hV
  obtain ⟨A0, n, c, ls, A, cc, rfl, hx⟩ := arg_lss (hval 0 49 v0 rfl rfl) h0
  have hlt0 : ∀ x ∈ p0, x.block < W.heap.size := fun x hx => hW'.lt x (by simp [hx])
  refine (law W A0 n c ls A cc hx).mono fun e W' ⟨he, hb⟩ => ⟨_, he, ?_⟩
  refine post_of_below hW' hb hres Tryz.underlying4 (by simp only [List.append_nil, hfn]) hvars (by simp only [List.append_nil, hfn]) (p0 ++ []) ?_
  simp only [List.append_nil, hfn]
  rw [hp]
  have := trodAll_cons_mk (Below.trod laidOuts readable49 rowed49 h0 hb hlt0) trodAll_mk0
  simpa using this
set_option maxRecDepth 100000 in
/-- A law of cells and columns. -/
theorem contract_ls (F : FuncId) (f : Func) (s : ChangeSpec) (hp : f.params = #[26, 49]) (hres : f.resultTypes = #[4]) (hvars : s.vars = [])
    (hfn : ∀ (H : Type) (d1 d2 : DataW H), s.fn H [d1, d2] = { results := [.lit (.bool true)], args := [d1, d2] })
    (law : ∀ (w : World) (A A0 : Option Addr) (n c n2 c2 : Nat) (a : List Cl) (ls : List (List Cl)) (Ar : Nat → Option Addr) (cc : Nat → Nat), InC w A n c a → InL w A0 n2 c2 ls Ar cc → Calls Tryz.prog F #[.slice A n c, .slice A0 n2 c2] w fun e w' => e = .returned (.bool true) ∧ Below w.heap.size w w')
    (H : Type) (enc : TypeId × Value → H) (W : World) (base : Nat) (args : Array Value) (ds gs : List (DataW H)) (before : List MemPlace)
    (hval : ∀ (j : Nat) t v, f.params[j]? = some t → args[j]? = some v → Value.okWide Tryz.prog W .any base t v)
    (hW : DataW.Whole enc Tryz.prog f.params.toList s.vars false W args.toList ds gs before) :
    Calls Tryz.prog F args W fun e W' => ∃ v, e = .returned v ∧ s.post enc Tryz.prog f false true false false W args v W' := by
  have hW' := hW
  obtain ⟨p, q, hA, hV, rfl, hfz, hnd⟩ := hW
  rw [hp] at hA hval
  rw [hvars] at hV
  obtain ⟨v0, vs0, d0, ds0, p0, q0, hargs, rfl, rfl, h0, r0⟩ := trodAll_cons hA
  obtain ⟨v1, vs1, d1, ds1, p1, q1, hargs1, rfl, rfl, h1, r1⟩ := trodAll_cons r0
  obtain ⟨rfl, rfl, rfl⟩ := trodAll_nil r1
  obtain rfl : args = #[v0, v1] := by cases args; simp_all
  obtain ⟨rfl, rfl⟩ := trodVars_none hV
  obtain ⟨A, n, c, a, rfl, hx⟩ := arg_cls (hval 0 26 v0 rfl rfl) h0
  obtain ⟨A0, n2, c2, ls, Ar, cc, rfl, hy⟩ := arg_lss (hval 1 49 v1 rfl rfl) h1
  have hlt0 : ∀ x ∈ p0, x.block < W.heap.size := fun x hx => hW'.lt x (by simp [hx])
  have hlt1 : ∀ x ∈ p1, x.block < W.heap.size := fun x hx => hW'.lt x (by simp [hx])
  refine (law W A A0 n c n2 c2 a ls Ar cc hx hy).mono fun e W' ⟨he, hb⟩ => ⟨_, he, ?_⟩
  refine post_of_below hW' hb hres Tryz.underlying4 (by simp only [List.append_nil, hfn]) hvars (by simp only [List.append_nil, hfn]) (p0 ++ (p1 ++ [])) ?_
  simp only [List.append_nil, hfn]
  rw [hp]
  have := trodAll_cons_mk (Below.trod laidOuts readable26 rowed26 h0 hb hlt0) (trodAll_cons_mk (Below.trod laidOuts readable49 rowed49 h1 hb hlt1) trodAll_mk0)
  simpa using this
end Go.Proofs.YtglgclkgppomiaaGreat

namespace Go.Proofs.YtglgclkgppomiaaGreat
open Go Go.RowKit

theorem cl_eql (x y : Cl) (w : World) : (binOp .eql 39 (clVal x) (clVal y)).run Tryz.prog w = .ok (.bool (decide (x = y))) w := by
  rw [run_eql_struct]
  obtain ⟨xc, xr, xd, xn, xk, xm, xt⟩ := x
  obtain ⟨yc, yr, yd, yn, yk, ym, yt⟩ := y
  have ht : (xt.toList = yt.toList) ↔ xt = yt := ⟨fun h => text_eq.1 (by rw [h]; simp), fun h => by rw [h]⟩
  go_simp
  try simp only [ht]
  by_cases h1 : xc = yc <;> by_cases h2 : xr = yr <;> by_cases h3 : xd = yd <;> by_cases h4 : xn = yn <;> by_cases h5 : xk = yk <;> by_cases h6 : xm = ym <;> by_cases h7 : xt = yt <;> simp [h1, h2, h3, h4, h5, h6, h7]
set_option maxRecDepth 100000
set_option maxHeartbeats 4000000
theorem law17 {w : World} {x y : Cl} (hx : CellFit x) (hy : CellFit y) : Calls Tryz.prog 17 #[clVal x, clVal y] w fun e w' => e = .returned (.bool true) ∧ Below w.heap.size w w' := by
  have HX := Lib.hid hx
  have HY := Lib.hid hy
  have H41x := Lib.hid (fun W => fits41_any x W hx.1)
  have H41y := Lib.hid (fun W => fits41_any y W hy.1)
  clear hx hy
  have rp : RowB ((w.alloc (.cells #[.int .i64 x.col, .int .i64 x.rep, .int .i64 x.de, .bool x.null, .int .i64 x.kind, .int .i64 x.num, .string x.text] 39)).alloc (.cells #[.int .i64 y.col, .int .i64 y.rep, .int .i64 y.de, .bool y.null, .int .i64 y.kind, .int .i64 y.num, .string y.text] 39)) w.heap.size 39 #[.int .i64 x.col, .int .i64 x.rep, .int .i64 x.de, .bool x.null, .int .i64 x.kind, .int .i64 x.num, .string x.text] := (RowB.new w 39 _).alloc _
  have rq : RowB ((w.alloc (.cells #[.int .i64 x.col, .int .i64 x.rep, .int .i64 x.de, .bool x.null, .int .i64 x.kind, .int .i64 x.num, .string x.text] 39)).alloc (.cells #[.int .i64 y.col, .int .i64 y.rep, .int .i64 y.de, .bool y.null, .int .i64 y.kind, .int .i64 y.num, .string y.text] 39)) (w.heap.size + 1) 39 #[.int .i64 y.col, .int .i64 y.rep, .int .i64 y.de, .bool y.null, .int .i64 y.kind, .int .i64 y.num, .string y.text] := rowB_new (by rw [size_alloc1])
  have hb5 : Below w.heap.size w ((w.alloc (.cells #[.int .i64 x.col, .int .i64 x.rep, .int .i64 x.de, .bool x.null, .int .i64 x.kind, .int .i64 x.num, .string x.text] 39)).alloc (.cells #[.int .i64 y.col, .int .i64 y.rep, .int .i64 y.de, .bool y.null, .int .i64 y.kind, .int .i64 y.num, .string y.text] 39)) := ((Below.refl _ _).alloc (Nat.le_refl _) _).alloc (by simp) _
  have RP := Lib.hid rp
  have RQ := Lib.hid rq
  have HB0 := Lib.hid hb5
  clear rp rq hb5
  go_enter Tryz.func17, Tryz.ntmps17
  go_wp2_with fail
  refine (H41x.out _).mono ?_
  rintro e w1 ⟨rfl, hb1⟩
  have HB1 := Lib.hid (HB0.out.trans (hb1.mono HB0.out.size))
  have RP1 := Lib.hid (RP.out.keep hb1 RP.out.lt)
  have RQ1 := Lib.hid (RQ.out.keep hb1 RQ.out.lt)
  clear hb1
  obtain ⟨c0, c1, c2, c3, c4, c5, c6⟩ := RP1.out.c7
  obtain ⟨d0, d1, d2, d3, d4, d5, d6⟩ := RQ1.out.c7
  cases fx : fitsCl x with
  | false =>
    go_wp2_with fail
    go_ret
    exact ⟨rfl, HB1.out⟩
  | true =>
    have FX := Lib.hid fx
    clear fx
    go_wp2_with fail
    refine (H41y.out _).mono ?_
    rintro e w2 ⟨rfl, hb2⟩
    have HB2 := Lib.hid (HB1.out.trans (hb2.mono HB1.out.size))
    have RP2 := Lib.hid (RP1.out.keep hb2 RP1.out.lt)
    have RQ2 := Lib.hid (RQ1.out.keep hb2 RQ1.out.lt)
    clear hb2 c0 c1 c2 c3 c4 c5 c6 d0 d1 d2 d3 d4 d5 d6
    obtain ⟨c0, c1, c2, c3, c4, c5, c6⟩ := RP2.out.c7
    obtain ⟨d0, d1, d2, d3, d4, d5, d6⟩ := RQ2.out.c7
    cases fy : fitsCl y with
    | false =>
      go_wp2_with fail
      go_ret
      exact ⟨rfl, HB2.out⟩
    | true =>
      have H42x := Lib.hid (fun W => cell42_any x W (by have := fitsCl_of FX.out; omega))
      have H42y := Lib.hid (fun W => cell42_any y W (by have := fitsCl_of fy; omega))
      clear fy
      go_wp2_with fail
      refine (H42x.out _).mono ?_
      rintro e w3 ⟨rfl, hb3⟩
      have HB3 := Lib.hid (HB2.out.trans (hb3.mono HB2.out.size))
      have RP3 := Lib.hid (RP2.out.keep hb3 RP2.out.lt)
      have RQ3 := Lib.hid (RQ2.out.keep hb3 RQ2.out.lt)
      clear hb3 c0 c1 c2 c3 c4 c5 c6 d0 d1 d2 d3 d4 d5 d6
      obtain ⟨c0, c1, c2, c3, c4, c5, c6⟩ := RP3.out.c7
      obtain ⟨d0, d1, d2, d3, d4, d5, d6⟩ := RQ3.out.c7
      cases ix : isCl x with
      | false =>
        go_wp2_with fail
        refine (works20 _).mono ?_
        rintro e w4 ⟨rfl, hb4⟩
        have HB4 := Lib.hid (HB3.out.trans (hb4.mono HB3.out.size))
        clear hb4
        go_wp2_with fail
        go_ret
        exact ⟨rfl, HB4.out⟩
      | true =>
        have GX : Hid (Good x) := Lib.hid ⟨ix, HX.out.2⟩
        clear ix
        go_wp2_with fail
        refine (H42y.out _).mono ?_
        rintro e w4 ⟨rfl, hb4⟩
        have HB4 := Lib.hid (HB3.out.trans (hb4.mono HB3.out.size))
        have RP4 := Lib.hid (RP3.out.keep hb4 RP3.out.lt)
        have RQ4 := Lib.hid (RQ3.out.keep hb4 RQ3.out.lt)
        clear hb4 c0 c1 c2 c3 c4 c5 c6 d0 d1 d2 d3 d4 d5 d6
        obtain ⟨c0, c1, c2, c3, c4, c5, c6⟩ := RP4.out.c7
        obtain ⟨d0, d1, d2, d3, d4, d5, d6⟩ := RQ4.out.c7
        cases iy : isCl y with
        | false =>
          go_wp2_with fail
          refine (works20 _).mono ?_
          rintro e w5 ⟨rfl, hb5⟩
          have HB5 := Lib.hid (HB4.out.trans (hb5.mono HB4.out.size))
          clear hb5
          go_wp2_with fail
          go_ret
          exact ⟨rfl, HB5.out⟩
        | true =>
          have GY : Hid (Good y) := Lib.hid ⟨iy, HY.out.2⟩
          clear iy
          go_upto_region 5 with (fail)
          go_cut [5] from 23 (fun r w' => ∃ B : Bool, r = .bool B ∧ Hid (B = sameV x y) ∧ w' = w4)
          case first =>
            by_cases n1 : x.null = y.null
            · have m1 : (x.null == y.null) = true := by simpa using n1
              by_cases n2 : x.kind = y.kind
              · have m2 : (x.kind == y.kind) = true := by simpa using n2
                by_cases n3 : x.num = y.num
                · have m3 : (x.num == y.num) = true := by simpa using n3
                  by_cases n4 : x.text = y.text
                  · have m4 : (x.text.toList == y.text.toList) = true := text_eq.2 n4
                    have m5 : x.text.toList = y.text.toList := by rw [n4]
                    have HM : Hid (sameV x y = true) := Lib.hid (decide_eq_true ⟨n1, n2, n3, n4⟩)
                    clear n1 n2 n3 n4
                    go_wp2_with fail
                    go_meet
                    case rel => exact ⟨true, rfl, Lib.hid HM.out.symm, rfl⟩
                  · have m4 : (x.text.toList == y.text.toList) = false := by rw [Bool.eq_false_iff]; exact fun h => n4 (text_eq.1 h)
                    have m5 : ¬ (x.text.toList = y.text.toList) := fun h => n4 (text_eq.1 (by rw [h]; simp))
                    have HM : Hid (sameV x y = false) := Lib.hid (decide_eq_false fun h => n4 h.2.2.2)
                    clear n1 n2 n3 n4
                    go_wp2_with fail
                    go_meet
                    case rel => exact ⟨false, rfl, Lib.hid HM.out.symm, rfl⟩
                · have m3 : (x.num == y.num) = false := by simpa using n3
                  have HM : Hid (sameV x y = false) := Lib.hid (decide_eq_false fun h => n3 h.2.2.1)
                  clear n1 n2 n3
                  go_wp2_with fail
                  go_meet
                  case rel => exact ⟨false, rfl, Lib.hid HM.out.symm, rfl⟩
              · have m2 : (x.kind == y.kind) = false := by simpa using n2
                have HM : Hid (sameV x y = false) := Lib.hid (decide_eq_false fun h => n2 h.2.1)
                clear n1 n2
                go_wp2_with fail
                go_meet
                case rel => exact ⟨false, rfl, Lib.hid HM.out.symm, rfl⟩
            · have m1 : (x.null == y.null) = false := by simpa using n1
              have HM : Hid (sameV x y = false) := Lib.hid (decide_eq_false fun h => n1 h.1)
              clear n1
              go_wp2_with fail
              go_meet
              case rel => exact ⟨false, rfl, Lib.hid HM.out.symm, rfl⟩
          case rest =>
            obtain ⟨B, rfl, HBV, rfl⟩ := hcut
            have C43 := Lib.hid (fun W => value43 x y GX.out GY.out W)
            have C44 := Lib.hid (fun W => cell44 x y GX.out GY.out W)
            have C43x := Lib.hid (fun W => value43 x x GX.out GX.out W)
            have C44y := Lib.hid (fun W => cell44 y y GY.out GY.out W)
            rw [← HBV.out] at C43
            rw [show sameV x x = true from decide_eq_true ⟨rfl, rfl, rfl, rfl⟩] at C43x
            rw [decide_eq_true (rfl : y = y)] at C44y
            have hce := cl_eql x y
            obtain ⟨E, hE⟩ : ∃ E, decide (x = y) = E := ⟨_, rfl⟩
            rw [hE] at C44 hce
            clear hE HBV
            cases B <;> cases E
            all_goals
              have RPc := RP4
              have RQc := RQ4
              have HS : Hid (∀ W, Below wc.heap.size wc W → (W.cell? ⟨w.heap.size, 0, none⟩ = some (.int .i64 x.col) ∧ W.cell? ⟨w.heap.size, 1, none⟩ = some (.int .i64 x.rep) ∧ W.cell? ⟨w.heap.size, 2, none⟩ = some (.int .i64 x.de) ∧ W.cell? ⟨w.heap.size, 3, none⟩ = some (.bool x.null) ∧ W.cell? ⟨w.heap.size, 4, none⟩ = some (.int .i64 x.kind) ∧ W.cell? ⟨w.heap.size, 5, none⟩ = some (.int .i64 x.num) ∧ W.cell? ⟨w.heap.size, 6, none⟩ = some (.string x.text) ∧ W.cell? ⟨w.heap.size + 1, 0, none⟩ = some (.int .i64 y.col) ∧ W.cell? ⟨w.heap.size + 1, 1, none⟩ = some (.int .i64 y.rep) ∧ W.cell? ⟨w.heap.size + 1, 2, none⟩ = some (.int .i64 y.de) ∧ W.cell? ⟨w.heap.size + 1, 3, none⟩ = some (.bool y.null) ∧ W.cell? ⟨w.heap.size + 1, 4, none⟩ = some (.int .i64 y.kind) ∧ W.cell? ⟨w.heap.size + 1, 5, none⟩ = some (.int .i64 y.num) ∧ W.cell? ⟨w.heap.size + 1, 6, none⟩ = some (.string y.text))) := Lib.hid fun W hW => by
                obtain ⟨c0, c1, c2, c3, c4, c5, c6⟩ := (RP4.out.keep hW RP4.out.lt).c7
                obtain ⟨d0, d1, d2, d3, d4, d5, d6⟩ := (RQ4.out.keep hW RQ4.out.lt).c7
                exact ⟨c0, c1, c2, c3, c4, c5, c6, d0, d1, d2, d3, d4, d5, d6⟩
              go_wp2_with fail
              refine Upto.region (m := 24) (S := (fun w' => w'.cell? ⟨w.heap.size, 0, none⟩ = some (.int .i64 x.col) ∧ w'.cell? ⟨w.heap.size, 1, none⟩ = some (.int .i64 x.rep) ∧ w'.cell? ⟨w.heap.size, 2, none⟩ = some (.int .i64 x.de) ∧ w'.cell? ⟨w.heap.size, 3, none⟩ = some (.bool x.null) ∧ w'.cell? ⟨w.heap.size, 4, none⟩ = some (.int .i64 x.kind) ∧ w'.cell? ⟨w.heap.size, 5, none⟩ = some (.int .i64 x.num) ∧ w'.cell? ⟨w.heap.size, 6, none⟩ = some (.string x.text) ∧ w'.cell? ⟨w.heap.size + 1, 0, none⟩ = some (.int .i64 y.col) ∧ w'.cell? ⟨w.heap.size + 1, 1, none⟩ = some (.int .i64 y.rep) ∧ w'.cell? ⟨w.heap.size + 1, 2, none⟩ = some (.int .i64 y.de) ∧ w'.cell? ⟨w.heap.size + 1, 3, none⟩ = some (.bool y.null) ∧ w'.cell? ⟨w.heap.size + 1, 4, none⟩ = some (.int .i64 y.kind) ∧ w'.cell? ⟨w.heap.size + 1, 5, none⟩ = some (.int .i64 y.num) ∧ w'.cell? ⟨w.heap.size + 1, 6, none⟩ = some (.string y.text))) (by kernel_rfl) ?_ (fun hHeld => ?_)
              · exact HS.out _ (Below.refl _ wc).drew
              refine Upto.take (i := 0) (v := ?_) at0 (by kernel_rfl) (by kernel_rfl) (by kernel_rfl) (by kernel_rfl) (fun _ _ _ h => h) (by rfl) ?_ hHeld ?_
              rotate_left
              · intro wS hSw
                try dsimp only at hSw
                go_simp
                try with_reducible rfl
              try simp only [Act.put, List.setIfInBounds_toArray, List.set_cons_zero, List.set_cons_succ]
              refine Upto.take (i := 1) (v := ?_) at1 (by kernel_rfl) (by kernel_rfl) (by kernel_rfl) (by kernel_rfl) (fun _ _ _ h => h) (by rfl) ?_ hHeld ?_
              rotate_left
              · intro wS hSw
                try dsimp only at hSw
                go_simp
                try with_reducible rfl
              try simp only [Act.put, List.setIfInBounds_toArray, List.set_cons_zero, List.set_cons_succ]
              refine Upto.take (i := 3) (v := ?_) at3 (by kernel_rfl) (by kernel_rfl) (by kernel_rfl) (by kernel_rfl) (fun _ _ _ h => h) (by rfl) ?_ hHeld ?_
              rotate_left
              · intro wS hSw
                try dsimp only at hSw
                go_simp
                try with_reducible rfl
              try simp only [Act.put, List.setIfInBounds_toArray, List.set_cons_zero, List.set_cons_succ]
              refine Upto.step (i := 2) (by kernel_rfl) at2 (fun K' hK => ?_)
              go_simp
              go_at_call 43
              refine (C43.out _).mono ?_
              rintro e v0 ⟨rfl, hbv⟩
              have HV0 : Hid (Below wc.heap.size wc v0) := Lib.hid (below_of_drew hbv)
              clear hbv
              try go_wp2_with fail
              refine hK.out _ _ (.inr (HS.out _ HV0.out)) (fun _ => ?_)
              clear hK K'
              replace hHeld := HS.out _ HV0.out
              try simp only [Act.put, List.setIfInBounds_toArray, List.set_cons_zero, List.set_cons_succ]
              refine Upto.take (i := 4) (v := ?_) at4 (by kernel_rfl) (by kernel_rfl) (by kernel_rfl) (by kernel_rfl) (fun _ _ _ h => h) (by rfl) ?_ hHeld ?_
              rotate_left
              · intro wS hSw
                try dsimp only at hSw
                go_simp
                try with_reducible rfl
              try simp only [Act.put, List.setIfInBounds_toArray, List.set_cons_zero, List.set_cons_succ]
              refine Upto.take (i := 5) (v := ?_) at5 (by kernel_rfl) (by kernel_rfl) (by kernel_rfl) (by kernel_rfl) (fun _ _ _ h => h) (by rfl) ?_ hHeld ?_
              rotate_left
              · intro wS hSw
                try dsimp only at hSw
                go_simp
                try with_reducible rfl
              try simp only [Act.put, List.setIfInBounds_toArray, List.set_cons_zero, List.set_cons_succ]
              refine Upto.take (i := 6) (v := ?_) at6 (by kernel_rfl) (by kernel_rfl) (by kernel_rfl) (by kernel_rfl) (fun _ _ _ h => h) (by rfl) ?_ hHeld ?_
              rotate_left
              · intro wS hSw
                try dsimp only at hSw
                go_simp
                try with_reducible rfl
              try simp only [Act.put, List.setIfInBounds_toArray, List.set_cons_zero, List.set_cons_succ]
              refine Upto.take (i := 7) (v := ?_) at7 (by kernel_rfl) (by kernel_rfl) (by kernel_rfl) (by kernel_rfl) (fun _ _ _ h => h) (by rfl) ?_ hHeld ?_
              rotate_left
              · intro wS hSw
                try dsimp only at hSw
                go_simp
                try with_reducible rfl
              try simp only [Act.put, List.setIfInBounds_toArray, List.set_cons_zero, List.set_cons_succ]
              refine Upto.take (i := 9) (v := ?_) at9 (by kernel_rfl) (by kernel_rfl) (by kernel_rfl) (by kernel_rfl) (fun _ _ _ h => h) (by rfl) ?_ hHeld ?_
              rotate_left
              · intro wS hSw
                try dsimp only at hSw
                go_simp
                try with_reducible rfl
              try simp only [Act.put, List.setIfInBounds_toArray, List.set_cons_zero, List.set_cons_succ]
              refine Upto.take (i := 10) (v := ?_) at10 (by kernel_rfl) (by kernel_rfl) (by kernel_rfl) (by kernel_rfl) (fun _ _ _ h => h) (by rfl) ?_ hHeld ?_
              rotate_left
              · intro wS hSw
                try dsimp only at hSw
                go_simp
                try with_reducible rfl
              try simp only [Act.put, List.setIfInBounds_toArray, List.set_cons_zero, List.set_cons_succ]
              refine Upto.take (i := 11) (v := ?_) at11 (by kernel_rfl) (by kernel_rfl) (by kernel_rfl) (by kernel_rfl) (fun _ _ _ h => h) (by rfl) ?_ hHeld ?_
              rotate_left
              · intro wS hSw
                try dsimp only at hSw
                go_simp
                try with_reducible rfl
              try simp only [Act.put, List.setIfInBounds_toArray, List.set_cons_zero, List.set_cons_succ]
              refine Upto.step (i := 8) (by kernel_rfl) at8 (fun K' hK => ?_)
              go_simp
              go_at_call 44
              refine (C44.out _).mono ?_
              rintro e v1 ⟨rfl, hbv⟩
              have HV1 : Hid (Below wc.heap.size wc v1) := Lib.hid (HV0.out.trans (hbv.mono HV0.out.size))
              clear hbv
              try go_wp2_with fail
              refine hK.out _ _ (.inr (HS.out _ HV1.out)) (fun _ => ?_)
              clear hK K'
              replace hHeld := HS.out _ HV1.out
              try simp only [Act.put, List.setIfInBounds_toArray, List.set_cons_zero, List.set_cons_succ]
              refine Upto.take (i := 12) (v := ?_) at12 (by kernel_rfl) (by kernel_rfl) (by kernel_rfl) (by kernel_rfl) (fun _ _ _ h => h) (by rfl) ?_ hHeld ?_
              rotate_left
              · intro wS hSw
                try dsimp only at hSw
                go_simp
                try with_reducible rfl
              try simp only [Act.put, List.setIfInBounds_toArray, List.set_cons_zero, List.set_cons_succ]
              refine Upto.take (i := 13) (v := ?_) at13 (by kernel_rfl) (by kernel_rfl) (by kernel_rfl) (by kernel_rfl) (fun _ _ _ h => h) (by rfl) ?_ hHeld ?_
              rotate_left
              · intro wS hSw
                try dsimp only at hSw
                go_simp
                try with_reducible rfl
              try simp only [Act.put, List.setIfInBounds_toArray, List.set_cons_zero, List.set_cons_succ]
              refine Upto.take (i := 14) (v := ?_) at14 (by kernel_rfl) (by kernel_rfl) (by kernel_rfl) (by kernel_rfl) (fun _ _ _ h => h) (by rfl) ?_ hHeld ?_
              rotate_left
              · intro wS hSw
                try dsimp only at hSw
                go_simp
                try with_reducible rfl
              try simp only [Act.put, List.setIfInBounds_toArray, List.set_cons_zero, List.set_cons_succ]
              refine Upto.take (i := 15) (v := ?_) at15 (by kernel_rfl) (by kernel_rfl) (by kernel_rfl) (by kernel_rfl) (fun _ _ _ h => h) (by rfl) ?_ hHeld ?_
              rotate_left
              · intro wS hSw
                try dsimp only at hSw
                go_simp
                try with_reducible rfl
              try simp only [Act.put, List.setIfInBounds_toArray, List.set_cons_zero, List.set_cons_succ]
              refine Upto.take (i := 16) (v := ?_) at16 (by kernel_rfl) (by kernel_rfl) (by kernel_rfl) (by kernel_rfl) (fun _ _ _ h => h) (by rfl) ?_ hHeld ?_
              rotate_left
              · intro wS hSw
                try dsimp only at hSw
                go_simp
                try with_reducible rfl
              try simp only [Act.put, List.setIfInBounds_toArray, List.set_cons_zero, List.set_cons_succ]
              refine Upto.step (i := 17) (by kernel_rfl) at17 (fun K' hK => ?_)
              go_simp
              go_at_call 43
              refine (C43x.out _).mono ?_
              rintro e v2 ⟨rfl, hbv⟩
              have HV2 : Hid (Below wc.heap.size wc v2) := Lib.hid (HV1.out.trans (hbv.mono HV1.out.size))
              clear hbv
              try go_wp2_with fail
              refine hK.out _ _ (.inr (HS.out _ HV2.out)) (fun _ => ?_)
              clear hK K'
              replace hHeld := HS.out _ HV2.out
              try simp only [Act.put, List.setIfInBounds_toArray, List.set_cons_zero, List.set_cons_succ]
              refine Upto.take (i := 18) (v := ?_) at18 (by kernel_rfl) (by kernel_rfl) (by kernel_rfl) (by kernel_rfl) (fun _ _ _ h => h) (by rfl) ?_ hHeld ?_
              rotate_left
              · intro wS hSw
                try dsimp only at hSw
                go_simp
                try with_reducible rfl
              try simp only [Act.put, List.setIfInBounds_toArray, List.set_cons_zero, List.set_cons_succ]
              refine Upto.take (i := 19) (v := ?_) at19 (by kernel_rfl) (by kernel_rfl) (by kernel_rfl) (by kernel_rfl) (fun _ _ _ h => h) (by rfl) ?_ hHeld ?_
              rotate_left
              · intro wS hSw
                try dsimp only at hSw
                go_simp
                try with_reducible rfl
              try simp only [Act.put, List.setIfInBounds_toArray, List.set_cons_zero, List.set_cons_succ]
              refine Upto.take (i := 20) (v := ?_) at20 (by kernel_rfl) (by kernel_rfl) (by kernel_rfl) (by kernel_rfl) (fun _ _ _ h => h) (by rfl) ?_ hHeld ?_
              rotate_left
              · intro wS hSw
                try dsimp only at hSw
                go_simp
                try with_reducible rfl
              try simp only [Act.put, List.setIfInBounds_toArray, List.set_cons_zero, List.set_cons_succ]
              refine Upto.take (i := 21) (v := ?_) at21 (by kernel_rfl) (by kernel_rfl) (by kernel_rfl) (by kernel_rfl) (fun _ _ _ h => h) (by rfl) ?_ hHeld ?_
              rotate_left
              · intro wS hSw
                try dsimp only at hSw
                go_simp
                try with_reducible rfl
              try simp only [Act.put, List.setIfInBounds_toArray, List.set_cons_zero, List.set_cons_succ]
              refine Upto.step (i := 22) (by kernel_rfl) at22 (fun K' hK => ?_)
              go_simp
              go_at_call 44
              refine (C44y.out _).mono ?_
              rintro e v3 ⟨rfl, hbv⟩
              have HV3 : Hid (Below wc.heap.size wc v3) := Lib.hid (HV2.out.trans (hbv.mono HV2.out.size))
              clear hbv
              try go_wp2_with fail
              refine hK.out _ _ (.inr (HS.out _ HV3.out)) (fun _ => ?_)
              clear hK K'
              replace hHeld := HS.out _ HV3.out
              try simp only [Act.put, List.setIfInBounds_toArray, List.set_cons_zero, List.set_cons_succ]
              refine Upto.take (i := 23) (v := ?_) at23 (by kernel_rfl) (by kernel_rfl) (by kernel_rfl) (by kernel_rfl) (fun _ _ _ h => h) (by rfl) ?_ hHeld ?_
              rotate_left
              · intro wS hSw
                try dsimp only at hSw
                go_simp
                try with_reducible rfl
              try simp only [Act.put, List.setIfInBounds_toArray, List.set_cons_zero, List.set_cons_succ]
              refine Upto.step (i := 24) (by kernel_rfl) at24 (fun K' hK => ?_)
              go_simp
              refine hK.out _ _ (.inl rfl) (fun _ => ?_)
              clear hK K'
              try simp only [Act.put, List.setIfInBounds_toArray, List.set_cons_zero, List.set_cons_succ]
              refine Upto.done (by kernel_rfl) ?_ _
              go_wp2_with fail
              go_ret
              exact ⟨rfl, HB4.out.trans (HV3.out.mono HB4.out.size)⟩
end Go.Proofs.YtglgclkgppomiaaGreat
