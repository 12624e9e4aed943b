/- How the arguments read: cells, lists of cells, and lists of lists of cells. From the walk of a law over cells to what its row asks. The walk of the law FnRowsMade. -/
import Derived.Test.YtglgclkgppomiaaGreatYMade06
import Derived.Test.YtglgclkgppomiaaGreatZ21
import Derived.Test.YtglgclkgppomiaaGreatZ24
set_option linter.unusedVariables false
set_option linter.unusedSimpArgs false
namespace Go.Proofs.YtglgclkgppomiaaGreat
open Go Go.RowKit Go.ChangeShapes Go.WideShapes Go.ChangeAt Go.Deep

/-- What every cell in memory is: no text longer than any text, and a number of its kind. -/
def CellFit (x : Cl) : Prop := x.text.size ≤ 9223372036854775807 ∧ -9223372036854775808 ≤ x.num ∧ x.num ≤ 9223372036854775807
instance : Inhabited Cl := ⟨⟨0, 0, 0, false, 0, 0, .empty⟩⟩
theorem cellsOf39 : Tryz.prog.cellsOf 39 = 7 := by kernel_rfl
theorem cellsOf26 : Tryz.prog.cellsOf 26 = 1 := by kernel_rfl
theorem maxLen_val : maxLen = 9223372036854775807 := by decide
section
variable {H : Type} {enc : TypeId × Value → H}
theorem read_cell {W : World} {n : Nat} {cs : List Value} {y : DataW H × List MemPlace} (h : DataW.trod enc Tryz.prog W 0 (fun _ => true) true n 39 cs = some y) : ∃ x : Cl, cs = x.vals ∧ CellFit x := by
  obtain ⟨xs, m, _, rfl, hl, hxl, hx⟩ := DataW.trod_struct Tryz.underlying39 h
  rw [cellsOf39] at hl
  obtain ⟨v0, v1, v2, v3, v4, v5, v6, rfl⟩ : ∃ v0 v1 v2 v3 v4 v5 v6, cs = [v0, v1, v2, v3, v4, v5, v6] := by
    rcases cs with _ | ⟨v0, _ | ⟨v1, _ | ⟨v2, _ | ⟨v3, _ | ⟨v4, _ | ⟨v5, _ | ⟨v6, _ | ⟨v7, r⟩⟩⟩⟩⟩⟩⟩⟩ <;> simp at hl
    exact ⟨v0, v1, v2, v3, v4, v5, v6, rfl⟩
  rcases xs with _ | ⟨x0, _ | ⟨x1, _ | ⟨x2, _ | ⟨x3, _ | ⟨x4, _ | ⟨x5, _ | ⟨x6, _ | ⟨x7, r⟩⟩⟩⟩⟩⟩⟩⟩ <;> (try (simp at hxl; done))
  have y0 : DataW.trod enc Tryz.prog W 0 (fun _ => true) true m 3 ((List.drop 0 [v0, v1, v2, v3, v4, v5, v6]).take (Tryz.prog.cellsOf 3)) = some x0 := hx 0 _ rfl
  rw [cellsOf3] at y0
  have y1 : DataW.trod enc Tryz.prog W 0 (fun _ => true) true m 3 ((List.drop 1 [v0, v1, v2, v3, v4, v5, v6]).take (Tryz.prog.cellsOf 3)) = some x1 := hx 1 _ rfl
  rw [cellsOf3] at y1
  have y2 : DataW.trod enc Tryz.prog W 0 (fun _ => true) true m 3 ((List.drop 2 [v0, v1, v2, v3, v4, v5, v6]).take (Tryz.prog.cellsOf 3)) = some x2 := hx 2 _ rfl
  rw [cellsOf3] at y2
  have y3 : DataW.trod enc Tryz.prog W 0 (fun _ => true) true m 4 ((List.drop 3 [v0, v1, v2, v3, v4, v5, v6]).take (Tryz.prog.cellsOf 4)) = some x3 := hx 3 _ rfl
  rw [cellsOf4] at y3
  have y4 : DataW.trod enc Tryz.prog W 0 (fun _ => true) true m 3 ((List.drop 4 [v0, v1, v2, v3, v4, v5, v6]).take (Tryz.prog.cellsOf 3)) = some x4 := hx 4 _ rfl
  rw [cellsOf3] at y4
  have y5 : DataW.trod enc Tryz.prog W 0 (fun _ => true) true m 2 ((List.drop 5 [v0, v1, v2, v3, v4, v5, v6]).take (Tryz.prog.cellsOf 2)) = some x5 := hx 5 _ rfl
  rw [cellsOf2] at y5
  have y6 : DataW.trod enc Tryz.prog W 0 (fun _ => true) true m 9 ((List.drop 6 [v0, v1, v2, v3, v4, v5, v6]).take (Tryz.prog.cellsOf 9)) = some x6 := hx 6 _ rfl
  rw [cellsOf9] at y6
  obtain ⟨z0, e0, _, _⟩ := DataW.trod_int Tryz.underlying3 y0
  obtain ⟨z1, e1, _, _⟩ := DataW.trod_int Tryz.underlying3 y1
  obtain ⟨z2, e2, _, _⟩ := DataW.trod_int Tryz.underlying3 y2
  obtain ⟨z3, e3, _⟩ := DataW.trod_bool Tryz.underlying4 y3
  obtain ⟨z4, e4, _, _⟩ := DataW.trod_int Tryz.underlying3 y4
  obtain ⟨z5, e5, _, hz5⟩ := DataW.trod_int Tryz.underlying2 y5
  obtain ⟨z6, e6, _, hz6⟩ := DataW.trod_string Tryz.underlying9 y6
  simp at e0 e1 e2 e3 e4 e5 e6
  subst e0 e1 e2 e3 e4 e5 e6
  exact ⟨⟨z0, z1, z2, z3, z4, z5, z6⟩, rfl, by rw [← maxLen_val]; exact hz6, bounds_i64 hz5⟩
theorem read_cls (W : World) (n : Nat) (cs : List Value) (x : DataW H × List MemPlace) (h : DataW.trod enc Tryz.prog W 0 (fun _ => true) true n 26 cs = some x) :
    ∃ A len cap cl, cs = [.slice A len cap] ∧ ClsAt W W.heap.size A len cap cl ∧ cl.length ≤ 9223372036854775807 ∧ ∀ y ∈ cl, CellFit y := by
  rcases open_slice Tryz.underlying26 h with ⟨rfl, rfl⟩ | ⟨a, len, cap, m, q, D, Pl, rfl, _, hlc, hcm, hm, rfl, hel⟩
  · exact ⟨none, 0, 0, [], rfl, ⟨rfl, Nat.le_refl _, fun h0 => absurd h0 (by omega)⟩, by simp, fun y hy => by cases hy⟩
  · simp only [if_true] at hm
    subst hm
    rw [cellsOf39] at hel
    rw [maxLen_val] at hcm
    have key : ∀ i, i < len → ∃ y : Cl, (∀ k, k < 7 → W.cell? ((a.add (i * 7)).add k) = y.vals[k]?) ∧ (a.add (i * 7)).block < W.heap.size ∧ CellFit y := fun i hi => by
      obtain ⟨cs', hc', ht'⟩ := hel i (by omega)
      obtain ⟨y, rfl, hy⟩ := read_cell ht'
      exact ⟨y, (cells_get hc').2, World.cells?_block hc' (by omega), hy⟩
    by_cases h0 : len = 0
    · subst h0
      exact ⟨some a, 0, _, [], rfl, ⟨rfl, hlc, fun h0 => absurd h0 (by omega)⟩, by simp, fun y hy => by cases hy⟩
    · obtain ⟨r, hr⟩ := choose_lt (α := Cl) key
      obtain ⟨b, o, rfl⟩ : ∃ b o, a = ⟨b, o, none⟩ := plain_add (v := .int .i64 (r 0).col) (by
        have := (hr 0 (by omega)).1 0 (by omega)
        rw [Nat.zero_mul] at this
        have e : (a.add 0).add 0 = a.add 0 := by unfold Addr.add; simp
        rw [e] at this; exact this)
      refine ⟨_, len, _, (List.range len).map r, rfl, ⟨by simp, hlc, fun _ => ⟨b, o, rfl, ?_, fun k y hk => ?_⟩⟩, by simp; omega, fun y hy => ?_⟩
      · have := (hr 0 (by omega)).2.1
        rw [Nat.zero_mul, Addr.add_lit] at this
        exact this
      · obtain ⟨hkl, rfl⟩ := mem_range_map hk
        have hc := (hr k hkl).1
        have hcell : ∀ i, (Addr.add (⟨b, o, none⟩ : Addr) (k * 7)).add i = ⟨b, o + k * 7 + i, none⟩ := fun i => by rw [Addr.add_lit, Addr.add_lit]
        simp only [hcell] at hc
        exact ⟨hc 0 (by omega), hc 1 (by omega), hc 2 (by omega), hc 3 (by omega), hc 4 (by omega), hc 5 (by omega), hc 6 (by omega)⟩
      · obtain ⟨i, hi, rfl⟩ := List.mem_map.1 hy
        exact (hr i (List.mem_range.1 hi)).2.2
theorem read_lss (W : World) (n : Nat) (cs : List Value) (x : DataW H × List MemPlace) (h : DataW.trod enc Tryz.prog W 0 (fun _ => true) true n 49 cs = some x) :
    ∃ A0 len cap ls A cc, cs = [.slice A0 len cap] ∧ LsAt W W.heap.size A0 len cap ls A cc ∧ ls.length ≤ 9223372036854775807 ∧ ∀ l ∈ ls, l.length ≤ 9223372036854775807 ∧ ∀ y ∈ l, CellFit y := by
  rcases open_slice Tryz.underlying49 h with ⟨rfl, rfl⟩ | ⟨a, len, cap, m, q, D, Pl, rfl, _, hlc, hcm, hm, rfl, hel⟩
  · exact ⟨none, 0, 0, [], fun _ => none, fun _ => 0, rfl, ⟨⟨rfl, Nat.le_refl _⟩, fun k l hk => by simp at hk⟩, by simp, fun y hy => by cases hy⟩
  · simp only [if_true] at hm
    subst hm
    rw [cellsOf26] at hel
    rw [maxLen_val] at hcm
    have key : ∀ i, i < len → ∃ r : List Cl × Option Addr × Nat, W.cell? ((a.add (i * 1)).add 0) = some (.slice r.2.1 r.1.length r.2.2) ∧ (a.add (i * 1)).block < W.heap.size ∧ ClsAt W W.heap.size r.2.1 r.1.length r.2.2 r.1 ∧ r.1.length ≤ 9223372036854775807 ∧ ∀ y ∈ r.1, CellFit y := fun i hi => by
      obtain ⟨cs', hc', ht'⟩ := hel i (by omega)
      have hcg := (cells_get hc').2
      have hblk := World.cells?_block hc' (by omega)
      obtain ⟨A', n', c', cl, rfl, hcl, hlen, hfit⟩ := read_cls W _ cs' _ ht'
      have hl := hcl.1
      refine ⟨(cl, A', c'), ?_, hblk, ?_, hlen, hfit⟩
      · have := hcg 0 (by omega)
        show _ = some (Value.slice A' cl.length c')
        rw [hl]; simpa using this
      · show ClsAt W _ A' cl.length c' cl
        rw [hl]; exact hcl
    by_cases h0 : len = 0
    · subst h0
      exact ⟨some a, 0, _, [], fun _ => none, fun _ => 0, rfl, ⟨⟨rfl, hlc⟩, fun k l hk => by simp at hk⟩, by simp, fun y hy => by cases hy⟩
    · obtain ⟨r, hr⟩ := choose_lt (α := List Cl × Option Addr × Nat) key
      obtain ⟨b, o, rfl⟩ : ∃ b o, a = ⟨b, o, none⟩ := plain_add (by
        have := (hr 0 (by omega)).1
        rw [Nat.zero_mul] at this
        have e : (a.add 0).add 0 = a.add 0 := by unfold Addr.add; simp
        rw [e] at this; exact this)
      refine ⟨_, len, _, (List.range len).map fun i => (r i).1, fun i => (r i).2.1, fun i => (r i).2.2, rfl, ⟨⟨by simp, hlc⟩, fun k l hk => ?_⟩, by simp; omega, fun y hy => ?_⟩
      · obtain ⟨hkl, rfl⟩ := mem_range_map hk
        obtain ⟨h1, h2, h3, _⟩ := hr k hkl
        rw [Addr.add_lit, Addr.add_lit] at h1
        rw [Addr.add_lit] at h2
        exact ⟨b, o, rfl, h2, by simpa using h1, h3⟩
      · obtain ⟨i, hi, rfl⟩ := List.mem_map.1 hy
        exact (hr i (List.mem_range.1 hi)).2.2.2
end
end Go.Proofs.YtglgclkgppomiaaGreat

namespace Go.Proofs.YtglgclkgppomiaaGreat
open Go Go.RowKit Go.ChangeShapes Go.WideShapes Go.ChangeAt Go.Deep

theorem readable39 : Tryz.prog.readableRec 39 = true := by kernel_rfl
theorem rowed39 : 39 < Tryz.prog.types.size := of_decide_eq_true (by kernel_rfl)
theorem readable26 : Tryz.prog.readableRec 26 = true := by kernel_rfl
theorem rowed26 : 26 < Tryz.prog.types.size := of_decide_eq_true (by kernel_rfl)
theorem readable49 : Tryz.prog.readableRec 49 = true := by kernel_rfl
theorem rowed49 : 49 < Tryz.prog.types.size := of_decide_eq_true (by kernel_rfl)
/-- Cells behind a slice, as an argument. -/
structure InC (w : World) (A : Option Addr) (n c : Nat) (cs : List Cl) : Prop where
  at_ : ClsAt w w.heap.size A n c cs
  len : cs.length ≤ 9223372036854775807
  fit : ∀ y ∈ cs, CellFit y
structure InL (w : World) (A0 : Option Addr) (n c : Nat) (ls : List (List Cl)) (A : Nat → Option Addr) (cc : Nat → Nat) : Prop where
  at_ : LsAt w w.heap.size A0 n c ls A cc
  len : ls.length ≤ 9223372036854775807
  fit : ∀ l ∈ ls, l.length ≤ 9223372036854775807 ∧ ∀ y ∈ l, CellFit y
theorem InC.mono {w w' : World} {A : Option Addr} {n c : Nat} {cs : List Cl} (h : InC w A n c cs) (hb : Below w.heap.size w w') : InC w' A n c cs := ⟨h.at_.mono hb hb.size, h.len, h.fit⟩
theorem InL.mono {w w' : World} {A0 : Option Addr} {n c : Nat} {ls : List (List Cl)} {A : Nat → Option Addr} {cc : Nat → Nat} (h : InL w A0 n c ls A cc) (hb : Below w.heap.size w w') : InL w' A0 n c ls A cc := ⟨h.at_.mono hb hb.size, h.len, h.fit⟩
section
variable {H : Type} {enc : TypeId × Value → H}
set_option maxRecDepth 100000 in
theorem arg_cell {W : World} {base : Nat} {v : Value} {d : DataW H} {p : List MemPlace} (hv : Value.okWide Tryz.prog W .any base 39 v) (h : DataW.Trod enc Tryz.prog W 0 (fun _ => true) true 39 v d p) :
    ∃ x : Cl, v = clVal x ∧ CellFit x := by
  obtain ⟨cs, rfl, _⟩ := okWide_struct Tryz.underlying39 hv
  obtain ⟨fuel, hf⟩ := h
  obtain ⟨x, hx, hfit⟩ := read_cell hf
  have hx' : cs.toList = x.vals := hx
  refine ⟨x, ?_, hfit⟩
  have : cs = x.vals.toArray := by rw [← hx']
  rw [this]; rfl
set_option maxRecDepth 100000 in
theorem arg_cls {W : World} {base : Nat} {v : Value} {d : DataW H} {p : List MemPlace} (hv : Value.okWide Tryz.prog W .any base 26 v) (h : DataW.Trod enc Tryz.prog W 0 (fun _ => true) true 26 v d p) :
    ∃ A n c cs, v = .slice A n c ∧ InC W A n c cs := by
  obtain ⟨a, l, cap, rfl⟩ := okWide_slice Tryz.underlying26 hv
  obtain ⟨fuel, hf⟩ := h
  rw [sliceCells] at hf
  obtain ⟨A, n, c, cs, he, h1, h2, h3⟩ := read_cls W fuel _ (d, p) hf
  simp only [List.cons.injEq, and_true] at he
  exact ⟨A, n, c, cs, he, h1, h2, h3⟩
set_option maxRecDepth 100000 in
theorem arg_lss {W : World} {base : Nat} {v : Value} {d : DataW H} {p : List MemPlace} (hv : Value.okWide Tryz.prog W .any base 49 v) (h : DataW.Trod enc Tryz.prog W 0 (fun _ => true) true 49 v d p) :
    ∃ A0 n c ls A cc, v = .slice A0 n c ∧ InL W A0 n c ls A cc := by
  obtain ⟨a, l, cap, rfl⟩ := okWide_slice Tryz.underlying49 hv
  obtain ⟨fuel, hf⟩ := h
  rw [sliceCells] at hf
  obtain ⟨A0, n, c, ls, A, cc, he, h1, h2, h3⟩ := read_lss W fuel _ (d, p) hf
  simp only [List.cons.injEq, and_true] at he
  exact ⟨A0, n, c, ls, A, cc, he, h1, h2, h3⟩
end
set_option maxRecDepth 100000 in
/-- A law of two cells. -/
theorem contract_cc (F : FuncId) (f : Func) (s : ChangeSpec) (hp : f.params = #[39, 39]) (hres : f.resultTypes = #[4]) (hvars : s.vars = [])
    (hfn : ∀ (H : Type) (d1 d2 : DataW H), s.fn H [d1, d2] = { results := [.lit (.bool true)], args := [d1, d2] })
    (law : ∀ (w : World) (x y : Cl), CellFit x → CellFit y → Calls Tryz.prog F #[clVal x, clVal y] w fun e w' => e = .returned (.bool true) ∧ Below w.heap.size w w')
    (H : Type) (enc : TypeId × Value → H) (W : World) (base : Nat) (args : Array Value) (ds gs : List (DataW H)) (before : List MemPlace)
    (hval : ∀ (j : Nat) t v, f.params[j]? = some t → args[j]? = some v → Value.okWide Tryz.prog W .any base t v)
    (hW : DataW.Whole enc Tryz.prog f.params.toList s.vars false W args.toList ds gs before) :
    Calls Tryz.prog F args W fun e W' => ∃ v, e = .returned v ∧ s.post enc Tryz.prog f false true false false W args v W' := by
  have hW' := hW
  obtain ⟨p, q, hA, hV, rfl, hfz, hnd⟩ := hW
  rw [hp] at hA hval
  rw [hvars] at hV
  obtain ⟨v0, vs0, d0, ds0, p0, q0, hargs, rfl, rfl, h0, r0⟩ := trodAll_cons hA
  obtain ⟨v1, vs1, d1, ds1, p1, q1, hargs1, rfl, rfl, h1, r1⟩ := trodAll_cons r0
  obtain ⟨rfl, rfl, rfl⟩ := trodAll_nil r1
  obtain rfl : args = #[v0, v1] := by cases args; simp_all
  obtain ⟨rfl, rfl⟩ := trodVars_none hV
  obtain ⟨x, rfl, hx⟩ := arg_cell (hval 0 39 v0 rfl rfl) h0
  obtain ⟨y, rfl, hy⟩ := arg_cell (hval 1 39 v1 rfl rfl) h1
  have hlt0 : ∀ x ∈ p0, x.block < W.heap.size := fun x hx => hW'.lt x (by simp [hx])
  have hlt1 : ∀ x ∈ p1, x.block < W.heap.size := fun x hx => hW'.lt x (by simp [hx])
  refine (law W x y hx hy).mono fun e W' ⟨he, hb⟩ => ⟨_, he, ?_⟩
  refine post_of_below hW' hb hres Tryz.underlying4 (by simp only [List.append_nil, hfn]) hvars (by simp only [List.append_nil, hfn]) (p0 ++ (p1 ++ [])) ?_
  simp only [List.append_nil, hfn]
  rw [hp]
  have := trodAll_cons_mk (Below.trod laidOuts readable39 rowed39 h0 hb hlt0) (trodAll_cons_mk (Below.trod laidOuts readable39 rowed39 h1 hb hlt1) trodAll_mk0)
  simpa using this
set_option maxRecDepth 100000 in
/-- A law of two lists of cells. -/
theorem contract_ll (F : FuncId) (f : Func) (s : ChangeSpec) (hp : f.params = #[26, 26]) (hres : f.resultTypes = #[4]) (hvars : s.vars = [])
    (hfn : ∀ (H : Type) (d1 d2 : DataW H), s.fn H [d1, d2] = { results := [.lit (.bool true)], args := [d1, d2] })
    (law : ∀ (w : World) (A A2 : Option Addr) (n c n2 c2 : Nat) (a b : List Cl), InC w A n c a → InC w A2 n2 c2 b → Calls Tryz.prog F #[.slice A n c, .slice A2 n2 c2] w fun e w' => e = .returned (.bool true) ∧ Below w.heap.size w w')
    (H : Type) (enc : TypeId × Value → H) (W : World) (base : Nat) (args : Array Value) (ds gs : List (DataW H)) (before : List MemPlace)
    (hval : ∀ (j : Nat) t v, f.params[j]? = some t → args[j]? = some v → Value.okWide Tryz.prog W .any base t v)
    (hW : DataW.Whole enc Tryz.prog f.params.toList s.vars false W args.toList ds gs before) :
    Calls Tryz.prog F args W fun e W' => ∃ v, e = .returned v ∧ s.post enc Tryz.prog f false true false false W args v W' := by
  have hW' := hW
  obtain ⟨p, q, hA, hV, rfl, hfz, hnd⟩ := hW
  rw [hp] at hA hval
  rw [hvars] at hV
  obtain ⟨v0, vs0, d0, ds0, p0, q0, hargs, rfl, rfl, h0, r0⟩ := trodAll_cons hA
  obtain ⟨v1, vs1, d1, ds1, p1, q1, hargs1, rfl, rfl, h1, r1⟩ := trodAll_cons r0
  obtain ⟨rfl, rfl, rfl⟩ := trodAll_nil r1
  obtain rfl : args = #[v0, v1] := by cases args; simp_all
  obtain ⟨rfl, rfl⟩ := trodVars_none hV
  obtain ⟨A, n, c, a, rfl, hx⟩ := arg_cls (hval 0 26 v0 rfl rfl) h0
  obtain ⟨A2, n2, c2, b, rfl, hy⟩ := arg_cls (hval 1 26 v1 rfl rfl) h1
  have hlt0 : ∀ x ∈ p0, x.block < W.heap.size := fun x hx => hW'.lt x (by simp [hx])
  have hlt1 : ∀ x ∈ p1, x.block < W.heap.size := fun x hx => hW'.lt x (by simp [hx])
  refine (law W A A2 n c n2 c2 a b hx hy).mono fun e W' ⟨he, hb⟩ => ⟨_, he, ?_⟩
  refine post_of_below hW' hb hres Tryz.underlying4 (by simp only [List.append_nil, hfn]) hvars (by simp only [List.append_nil, hfn]) (p0 ++ (p1 ++ [])) ?_
  simp only [List.append_nil, hfn]
  rw [hp]
  have := trodAll_cons_mk (Below.trod laidOuts readable26 rowed26 h0 hb hlt0) (trodAll_cons_mk (Below.trod laidOuts readable26 rowed26 h1 hb hlt1) trodAll_mk0)
  simpa using this
set_option maxRecDepth 100000 in
/-- A law of columns. -/
theorem contract_s (F : FuncId) (f : Func) (s : ChangeSpec) (hp : f.params = #[49]) (hres : f.resultTypes = #[4]) (hvars : s.vars = [])
    (hfn : ∀ (H : Type) (d1 : DataW H), s.fn H [d1] = { results := [.lit (.bool true)], args := [d1] })
    (law : ∀ (w : World) (A0 : Option Addr) (n c : Nat) (ls : List (List Cl)) (A : Nat → Option Addr) (cc : Nat → Nat), InL w A0 n c ls A cc → Calls Tryz.prog F #[.slice A0 n c] w fun e w' => e = .returned (.bool true) ∧ Below w.heap.size w w')
    (H : Type) (enc : TypeId × Value → H) (W : World) (base : Nat) (args : Array Value) (ds gs : List (DataW H)) (before : List MemPlace)
    (hval : ∀ (j : Nat) t v, f.params[j]? = some t → args[j]? = some v → Value.okWide Tryz.prog W .any base t v)
    (hW : DataW.Whole enc Tryz.prog f.params.toList s.vars false W args.toList ds gs before) :
    Calls Tryz.prog F args W fun e W' => ∃ v, e = .returned v ∧ s.post enc Tryz.prog f false true false false W args v W' := by
  have hW' := hW
  obtain ⟨p, q, hA, hV, rfl, hfz, hnd⟩ := hW
  rw [hp] at hA hval
  rw [hvars] at hV
  obtain ⟨v0, vs0, d0, ds0, p0, q0, hargs, rfl, rfl, h0, r0⟩ := trodAll_cons hA
  obtain ⟨rfl, rfl, rfl⟩ := trodAll_nil r0
  obtain rfl : args = #[v0] := by cases args; simp_all
  obtain ⟨rfl, rfl⟩ := trodVars_none hV
  obtain ⟨A0, n, c, ls, A, cc, rfl, hx⟩ := arg_lss (hval 0 49 v0 rfl rfl) h0
  have hlt0 : ∀ x ∈ p0, x.block < W.heap.size := fun x hx => hW'.lt x (by simp [hx])
  refine (law W A0 n c ls A cc hx).mono fun e W' ⟨he, hb⟩ => ⟨_, he, ?_⟩
  refine post_of_below hW' hb hres Tryz.underlying4 (by simp only [List.append_nil, hfn]) hvars (by simp only [List.append_nil, hfn]) (p0 ++ []) ?_
  simp only [List.append_nil, hfn]
  rw [hp]
  have := trodAll_cons_mk (Below.trod laidOuts readable49 rowed49 h0 hb hlt0) trodAll_mk0
  simpa using this
set_option maxRecDepth 100000 in
/-- A law of cells and columns. -/
theorem contract_ls (F : FuncId) (f : Func) (s : ChangeSpec) (hp : f.params = #[26, 49]) (hres : f.resultTypes = #[4]) (hvars : s.vars = [])
    (hfn : ∀ (H : Type) (d1 d2 : DataW H), s.fn H [d1, d2] = { results := [.lit (.bool true)], args := [d1, d2] })
    (law : ∀ (w : World) (A A0 : Option Addr) (n c n2 c2 : Nat) (a : List Cl) (ls : List (List Cl)) (Ar : Nat → Option Addr) (cc : Nat → Nat), InC w A n c a → InL w A0 n2 c2 ls Ar cc → Calls Tryz.prog F #[.slice A n c, .slice A0 n2 c2] w fun e w' => e = .returned (.bool true) ∧ Below w.heap.size w w')
    (H : Type) (enc : TypeId × Value → H) (W : World) (base : Nat) (args : Array Value) (ds gs : List (DataW H)) (before : List MemPlace)
    (hval : ∀ (j : Nat) t v, f.params[j]? = some t → args[j]? = some v → Value.okWide Tryz.prog W .any base t v)
    (hW : DataW.Whole enc Tryz.prog f.params.toList s.vars false W args.toList ds gs before) :
    Calls Tryz.prog F args W fun e W' => ∃ v, e = .returned v ∧ s.post enc Tryz.prog f false true false false W args v W' := by
  have hW' := hW
  obtain ⟨p, q, hA, hV, rfl, hfz, hnd⟩ := hW
  rw [hp] at hA hval
  rw [hvars] at hV
  obtain ⟨v0, vs0, d0, ds0, p0, q0, hargs, rfl, rfl, h0, r0⟩ := trodAll_cons hA
  obtain ⟨v1, vs1, d1, ds1, p1, q1, hargs1, rfl, rfl, h1, r1⟩ := trodAll_cons r0
  obtain ⟨rfl, rfl, rfl⟩ := trodAll_nil r1
  obtain rfl : args = #[v0, v1] := by cases args; simp_all
  obtain ⟨rfl, rfl⟩ := trodVars_none hV
  obtain ⟨A, n, c, a, rfl, hx⟩ := arg_cls (hval 0 26 v0 rfl rfl) h0
  obtain ⟨A0, n2, c2, ls, Ar, cc, rfl, hy⟩ := arg_lss (hval 1 49 v1 rfl rfl) h1
  have hlt0 : ∀ x ∈ p0, x.block < W.heap.size := fun x hx => hW'.lt x (by simp [hx])
  have hlt1 : ∀ x ∈ p1, x.block < W.heap.size := fun x hx => hW'.lt x (by simp [hx])
  refine (law W A A0 n c n2 c2 a ls Ar cc hx hy).mono fun e W' ⟨he, hb⟩ => ⟨_, he, ?_⟩
  refine post_of_below hW' hb hres Tryz.underlying4 (by simp only [List.append_nil, hfn]) hvars (by simp only [List.append_nil, hfn]) (p0 ++ (p1 ++ [])) ?_
  simp only [List.append_nil, hfn]
  rw [hp]
  have := trodAll_cons_mk (Below.trod laidOuts readable26 rowed26 h0 hb hlt0) (trodAll_cons_mk (Below.trod laidOuts readable49 rowed49 h1 hb hlt1) trodAll_mk0)
  simpa using this
end Go.Proofs.YtglgclkgppomiaaGreat

namespace Go.Proofs.YtglgclkgppomiaaGreat
open Go Go.RowKit

set_option maxRecDepth 100000
set_option maxHeartbeats 4000000
theorem law16 {w : World} {A0 : Option Addr} {n c : Nat} {ls : List (List Cl)} {A : Nat → Option Addr} {cc : Nat → Nat} (hL : InL w A0 n c ls A cc) :
    Calls Tryz.prog 16 #[.slice A0 n c] w fun e w' => e = .returned (.bool true) ∧ Below w.heap.size w w' := by
  have HL := Lib.hid hL
  have HLEN := Lib.hid hL.at_.len.1
  have F1 := Lib.hid (fits35_any ls A0 n c A cc w hL.at_ (by have := hL.at_.len.1; have := hL.len; omega) (fun l hl => ⟨(hL.fit l hl).1, fun x hx => ((hL.fit l hl).2 x hx).1⟩))
  clear hL
  go_enter Tryz.func16, Tryz.ntmps16
  go_wp2_with fail
  refine F1.out.mono ?_
  rintro e w1 ⟨rfl, hb1⟩
  have HB1 := Lib.hid hb1
  clear hb1
  cases fa : fitsLss ls with
  | false =>
    go_wp2_with fail
    go_ret
    exact ⟨rfl, HB1.out⟩
  | true =>
    have FA := Lib.hid (fitsLss_of fa)
    have F2 := Lib.hid (columns36 ls A0 n c A cc w1 (HL.out.mono HB1.out).at_ (by have := FA.out.1; have := HLEN.out; omega) (fun l hl => ⟨by have := (FA.out.2 l hl).1; omega, fun x hx => by have := (FA.out.2 l hl).2 x hx; omega⟩))
    clear fa
    go_wp2_with fail
    refine F2.out.mono ?_
    rintro e w2 ⟨rfl, hb2⟩
    have HB2 := Lib.hid (HB1.out.trans (hb2.mono HB1.out.size))
    clear hb2
    cases ga : areCols ls with
    | false =>
      go_wp2_with fail
      refine (works20 _).mono ?_
      rintro e w3 ⟨rfl, hb3⟩
      have HB3 := Lib.hid (HB2.out.trans (hb3.mono HB2.out.size))
      clear hb3
      go_wp2_with fail
      go_ret
      exact ⟨rfl, HB3.out⟩
    | true =>
      have GC := Lib.hid (areCols_cols ga (fun l hl y hy => ((HL.out.fit l hl).2 y hy).2))
      have F3 := Lib.hid (make40 ls A0 n c A cc w2 (HL.out.mono HB2.out).at_ GC.out)
      obtain ⟨N, hN⟩ : ∃ N, N = ls.flatten.length := ⟨_, rfl⟩
      have HN := Lib.hid hN
      clear ga hN
      go_wp2_with fail
      refine F3.out.mono ?_
      rintro e w3 ⟨A3, c3, he, hcl3, hb3⟩
      rw [← HN.out] at he hcl3
      subst he
      have HB3 := Lib.hid (HB2.out.trans (hb3.mono HB2.out.size))
      have HCL3 := Lib.hid hcl3
      have F4 := Lib.hid (joined39c ls A0 n c A cc w3 (HL.out.mono HB3.out).at_ GC.out)
      clear hb3 hcl3
      go_wp2_with fail
      refine F4.out.mono ?_
      rintro e w4 ⟨A4, c4, he, hcl4, hb4⟩
      rw [← HN.out] at he hcl4
      subst he
      have HB4 := Lib.hid (HB3.out.trans (hb4.mono HB3.out.size))
      have F5 := Lib.hid (sameCells_any ls.flatten ls.flatten A3 N c3 A4 N c4 w4 (by have := HN.out; have := GC.out.flat; omega) (HCL3.out.mono hb4 hb4.size) hcl4)
      clear hb4 hcl4
      go_wp2_with fail
      refine F5.out.mono ?_
      rintro e w5 ⟨b5, rfl, hb5, hb6⟩
      obtain rfl : b5 = true := by first | exact hb5.2 rfl | exact hb5.2 trivial
      have HB5 := Lib.hid (HB4.out.trans (hb6.mono HB4.out.size))
      clear hb5 hb6
      go_wp2_with fail
      refine (works20 _).mono ?_
      rintro e w6 ⟨rfl, hb7⟩
      have HB6 := Lib.hid (HB5.out.trans (hb7.mono HB5.out.size))
      clear hb7
      go_wp2_with fail
      go_ret
      exact ⟨rfl, HB6.out⟩
end Go.Proofs.YtglgclkgppomiaaGreat
