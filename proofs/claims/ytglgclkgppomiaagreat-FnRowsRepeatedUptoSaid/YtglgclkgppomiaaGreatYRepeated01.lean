/- From the walk of a law over fields; over fields and two lists of data; over fields, data and a number: to what its row asks. Rows of data behind a slice of slices, and the data that are made of them. From the walk of the law over fields and rows to what its row asks. The walks of the laws FnRowsGroup and FnRowsOptional: fields in a group. The walk of the law FnRowsOptional. The walk of the law FnRowsRepeated. -/
import Derived.Test.YtglgclkgppomiaaGreatYRepeated02
import Derived.Test.YtglgclkgppomiaaGreatYRepeated03
import Derived.Test.YtglgclkgppomiaaGreatZ24
set_option linter.unusedVariables false
set_option linter.unusedSimpArgs false
namespace Go.Proofs.YtglgclkgppomiaaGreat
open Go Go.RowKit Go.ChangeShapes Go.WideShapes Go.ChangeAt

theorem readable3 : Tryz.prog.readableRec 3 = true := by kernel_rfl
theorem rowed3 : 3 < Tryz.prog.types.size := of_decide_eq_true (by kernel_rfl)
set_option maxRecDepth 100000 in
/-- A law of fields and two lists of data. -/
theorem contract_fdd (F : FuncId) (f : Func) (s : ChangeSpec) (hp : f.params = #[22, 23, 23]) (hres : f.resultTypes = #[4]) (hvars : s.vars = [])
    (hfn : ∀ (H : Type) (d1 d2 d3 : DataW H), s.fn H [d1, d2, d3] = { results := [.lit (.bool true)], args := [d1, d2, d3] })
    (law : ∀ (w : World) (A A2 A3 : Option Addr) (n c n2 c2 n3 c3 : Nat) (fs : List Fd) (a b : List Dt), InF w A n c fs → InD w A2 n2 c2 a → InD w A3 n3 c3 b → Calls Tryz.prog F #[.slice A n c, .slice A2 n2 c2, .slice A3 n3 c3] w fun e w' => e = .returned (.bool true) ∧ Below w.heap.size w w')
    (H : Type) (enc : TypeId × Value → H) (W : World) (base : Nat) (args : Array Value) (ds gs : List (DataW H)) (before : List MemPlace)
    (hval : ∀ (j : Nat) t v, f.params[j]? = some t → args[j]? = some v → Value.okWide Tryz.prog W .any base t v)
    (hW : DataW.Whole enc Tryz.prog f.params.toList s.vars false W args.toList ds gs before) (hk : Rows.uptoSmall H (ds ++ gs) = true) :
    Calls Tryz.prog F args W fun e W' => ∃ v, e = .returned v ∧ s.post enc Tryz.prog f false true false false W args v W' := by
  have hW' := hW
  obtain ⟨p, q, hA, hV, rfl, hfz, hnd⟩ := hW
  rw [hp] at hA hval
  rw [hvars] at hV
  obtain ⟨v0, vs0, d0, ds0, p0, q0, hargs, rfl, rfl, h0, r0⟩ := trodAll_cons hA
  obtain ⟨v1, vs1, d1, ds1, p1, q1, hargs1, rfl, rfl, h1, r1⟩ := trodAll_cons r0
  obtain ⟨v2, vs2, d2, ds2, p2, q2, hargs2, rfl, rfl, h2, r2⟩ := trodAll_cons r1
  obtain ⟨rfl, rfl, rfl⟩ := trodAll_nil r2
  obtain rfl : args = #[v0, v1, v2] := by cases args; simp_all
  obtain ⟨rfl, rfl⟩ := trodVars_none hV
  have hkb := small_bulk hk
  simp only [List.append_nil, Rows.uptoBulkAll] at hkb
  obtain ⟨A, n, c, fs, rfl, hF⟩ := arg_fds (hval 0 22 v0 rfl rfl) h0 (by omega)
  obtain ⟨A2, n2, c2, dts, rfl, hD⟩ := arg_dts (hval 1 23 v1 rfl rfl) h1 (by omega)
  obtain ⟨A3, n3, c3, dts3, rfl, hD3⟩ := arg_dts (hval 2 23 v2 rfl rfl) h2 (by omega)
  have hlt0 : ∀ x ∈ p0, x.block < W.heap.size := fun x hx => hW'.lt x (by simp [hx])
  have hlt1 : ∀ x ∈ p1, x.block < W.heap.size := fun x hx => hW'.lt x (by simp [hx])
  have hlt2 : ∀ x ∈ p2, x.block < W.heap.size := fun x hx => hW'.lt x (by simp [hx])
  refine (law W A A2 A3 n c n2 c2 n3 c3 fs dts dts3 hF hD hD3).mono fun e W' ⟨he, hb⟩ => ⟨_, he, ?_⟩
  refine post_of_below hW' hb hres Tryz.underlying4 (by simp only [List.append_nil, hfn]) hvars (by simp only [List.append_nil, hfn]) (p0 ++ (p1 ++ (p2 ++ []))) ?_
  simp only [List.append_nil, hfn]
  rw [hp]
  have := trodAll_cons_mk (Below.trod laidOuts readable22 rowed22 h0 hb hlt0) (trodAll_cons_mk (Below.trod laidOuts readable23 rowed23 h1 hb hlt1) (trodAll_cons_mk (Below.trod laidOuts readable23 rowed23 h2 hb hlt2) trodAll_mk0))
  simpa using this
set_option maxRecDepth 100000 in
/-- A law of fields, data and a number. -/
theorem contract_fdk (F : FuncId) (f : Func) (s : ChangeSpec) (hp : f.params = #[22, 23, 3]) (hres : f.resultTypes = #[4]) (hvars : s.vars = [])
    (hfn : ∀ (H : Type) (d1 d2 d3 : DataW H), s.fn H [d1, d2, d3] = { results := [.lit (.bool true)], args := [d1, d2, d3] })
    (law : ∀ (w : World) (A A2 : Option Addr) (n c n2 c2 : Nat) (fs : List Fd) (a : List Dt) (k : Int), InF w A n c fs → InD w A2 n2 c2 a → Calls Tryz.prog F #[.slice A n c, .slice A2 n2 c2, .int .i64 k] w fun e w' => e = .returned (.bool true) ∧ Below w.heap.size w w')
    (H : Type) (enc : TypeId × Value → H) (W : World) (base : Nat) (args : Array Value) (ds gs : List (DataW H)) (before : List MemPlace)
    (hval : ∀ (j : Nat) t v, f.params[j]? = some t → args[j]? = some v → Value.okWide Tryz.prog W .any base t v)
    (hW : DataW.Whole enc Tryz.prog f.params.toList s.vars false W args.toList ds gs before) (hk : Rows.uptoSmall H (ds ++ gs) = true) :
    Calls Tryz.prog F args W fun e W' => ∃ v, e = .returned v ∧ s.post enc Tryz.prog f false true false false W args v W' := by
  have hW' := hW
  obtain ⟨p, q, hA, hV, rfl, hfz, hnd⟩ := hW
  rw [hp] at hA hval
  rw [hvars] at hV
  obtain ⟨v0, vs0, d0, ds0, p0, q0, hargs, rfl, rfl, h0, r0⟩ := trodAll_cons hA
  obtain ⟨v1, vs1, d1, ds1, p1, q1, hargs1, rfl, rfl, h1, r1⟩ := trodAll_cons r0
  obtain ⟨v2, vs2, d2, ds2, p2, q2, hargs2, rfl, rfl, h2, r2⟩ := trodAll_cons r1
  obtain ⟨rfl, rfl, rfl⟩ := trodAll_nil r2
  obtain rfl : args = #[v0, v1, v2] := by cases args; simp_all
  obtain ⟨rfl, rfl⟩ := trodVars_none hV
  have hkb := small_bulk hk
  simp only [List.append_nil, Rows.uptoBulkAll] at hkb
  obtain ⟨A, n, c, fs, rfl, hF⟩ := arg_fds (hval 0 22 v0 rfl rfl) h0 (by omega)
  obtain ⟨A2, n2, c2, dts, rfl, hD⟩ := arg_dts (hval 1 23 v1 rfl rfl) h1 (by omega)
  obtain ⟨k, rfl⟩ := okWide_int Tryz.underlying3 (hval 2 3 v2 rfl rfl)
  have hlt0 : ∀ x ∈ p0, x.block < W.heap.size := fun x hx => hW'.lt x (by simp [hx])
  have hlt1 : ∀ x ∈ p1, x.block < W.heap.size := fun x hx => hW'.lt x (by simp [hx])
  have hlt2 : ∀ x ∈ p2, x.block < W.heap.size := fun x hx => hW'.lt x (by simp [hx])
  refine (law W A A2 n c n2 c2 fs dts k hF hD).mono fun e W' ⟨he, hb⟩ => ⟨_, he, ?_⟩
  refine post_of_below hW' hb hres Tryz.underlying4 (by simp only [List.append_nil, hfn]) hvars (by simp only [List.append_nil, hfn]) (p0 ++ (p1 ++ (p2 ++ []))) ?_
  simp only [List.append_nil, hfn]
  rw [hp]
  have := trodAll_cons_mk (Below.trod laidOuts readable22 rowed22 h0 hb hlt0) (trodAll_cons_mk (Below.trod laidOuts readable23 rowed23 h1 hb hlt1) (trodAll_cons_mk (Below.trod laidOuts readable3 rowed3 h2 hb hlt2) trodAll_mk0))
  simpa using this
set_option maxRecDepth 100000 in
/-- A law of fields. -/
theorem contract_f (F : FuncId) (f : Func) (s : ChangeSpec) (hp : f.params = #[22]) (hres : f.resultTypes = #[4]) (hvars : s.vars = [])
    (hfn : ∀ (H : Type) (d1 : DataW H), s.fn H [d1] = { results := [.lit (.bool true)], args := [d1] })
    (law : ∀ (w : World) (A : Option Addr) (n c : Nat) (fs : List Fd), InF w A n c fs → Calls Tryz.prog F #[.slice A n c] w fun e w' => e = .returned (.bool true) ∧ Below w.heap.size w w')
    (H : Type) (enc : TypeId × Value → H) (W : World) (base : Nat) (args : Array Value) (ds gs : List (DataW H)) (before : List MemPlace)
    (hval : ∀ (j : Nat) t v, f.params[j]? = some t → args[j]? = some v → Value.okWide Tryz.prog W .any base t v)
    (hW : DataW.Whole enc Tryz.prog f.params.toList s.vars false W args.toList ds gs before) (hk : Rows.uptoSmall H (ds ++ gs) = true) :
    Calls Tryz.prog F args W fun e W' => ∃ v, e = .returned v ∧ s.post enc Tryz.prog f false true false false W args v W' := by
  have hW' := hW
  obtain ⟨p, q, hA, hV, rfl, hfz, hnd⟩ := hW
  rw [hp] at hA hval
  rw [hvars] at hV
  obtain ⟨v0, vs0, d0, ds0, p0, q0, hargs, rfl, rfl, h0, r0⟩ := trodAll_cons hA
  obtain ⟨rfl, rfl, rfl⟩ := trodAll_nil r0
  obtain rfl : args = #[v0] := by cases args; simp_all
  obtain ⟨rfl, rfl⟩ := trodVars_none hV
  have hkb := small_bulk hk
  simp only [List.append_nil, Rows.uptoBulkAll] at hkb
  obtain ⟨A, n, c, fs, rfl, hF⟩ := arg_fds (hval 0 22 v0 rfl rfl) h0 (by omega)
  have hlt0 : ∀ x ∈ p0, x.block < W.heap.size := fun x hx => hW'.lt x (by simp [hx])
  refine (law W A n c fs hF).mono fun e W' ⟨he, hb⟩ => ⟨_, he, ?_⟩
  refine post_of_below hW' hb hres Tryz.underlying4 (by simp only [List.append_nil, hfn]) hvars (by simp only [List.append_nil, hfn]) (p0 ++ []) ?_
  simp only [List.append_nil, hfn]
  rw [hp]
  have := trodAll_cons_mk (Below.trod laidOuts readable22 rowed22 h0 hb hlt0) trodAll_mk0
  simpa using this
end Go.Proofs.YtglgclkgppomiaaGreat

namespace Go.Proofs.YtglgclkgppomiaaGreat
open Go Go.RowKit

structure RowsAt (w : World) (B : Nat) (A0 : Option Addr) (n c : Nat) (rows : List (List Dt)) (A : Nat → Option Addr) (cc : Nat → Nat) : Prop where
  len : rows.length = n ∧ n ≤ c
  at_ : ∀ k row, rows[k]? = some row → ∃ b o, A0 = some ⟨b, o, none⟩ ∧ b < B ∧ w.cell? ⟨b, o + k, none⟩ = some (.slice (A k) row.length (cc k)) ∧ DtsAt w B (A k) row.length (cc k) row
theorem RowsAt.mono {w w' : World} {B B' : Nat} {A0 : Option Addr} {n c : Nat} {rows : List (List Dt)} {A : Nat → Option Addr} {cc : Nat → Nat} (h : RowsAt w B A0 n c rows A cc) (hb : Below B w w') (hB : B ≤ B') : RowsAt w' B' A0 n c rows A cc :=
  ⟨h.len, fun k row hk => by
    obtain ⟨b, o, h1, h2, h3, h4⟩ := h.at_ k row hk
    exact ⟨b, o, h1, by omega, (bcell hb h2).trans h3, h4.mono hb hB⟩⟩
/-- What may be an argument of the law. -/
structure RowsFit (n : Nat) (rows : List (List Dt)) : Prop where
  n : n ≤ 2000000
  tx : ∀ row ∈ rows, TextsFit row
  nf : ∀ row ∈ rows, NumsFit row
  sz : ∀ row ∈ rows, dtsSize row ≤ 2000000
theorem RowsAt.inD {w w' : World} {B : Nat} {A0 : Option Addr} {n c : Nat} {rows : List (List Dt)} {A : Nat → Option Addr} {cc : Nat → Nat} (h : RowsAt w B A0 n c rows A cc) (hf : RowsFit n rows) (hb : Below B w w') (hB : B ≤ w'.heap.size) {k : Nat} {row : List Dt} (hk : rows[k]? = some row) :
    InD w' (A k) row.length (cc k) row := by
  obtain ⟨b, o, _, _, _, h4⟩ := h.at_ k row hk
  have hm := List.mem_of_getElem? hk
  exact ⟨h4.mono hb hB, hf.tx _ hm, hf.nf _ hm, hf.sz _ hm⟩
/-- The cells of data without anything but their items. -/
def itemsFlat (A : Nat → Option Addr) (cc : Nat → Nat) (rows : List (List Dt)) : Nat → List Value
  | 0 => []
  | j + 1 => itemsFlat A cc rows j ++ [.bool false, .int .i64 0, .string .empty, .slice (A j) (rows.getD j []).length (cc j)]
theorem itemsFlat_len (A : Nat → Option Addr) (cc : Nat → Nat) (rows : List (List Dt)) : ∀ j, (itemsFlat A cc rows j).length = j * 4
  | 0 => rfl
  | j + 1 => by rw [itemsFlat, List.length_append, itemsFlat_len A cc rows j]; simp; omega
theorem itemsFlat_get (A : Nat → Option Addr) (cc : Nat → Nat) (rows : List (List Dt)) : ∀ j i r, i < j → r < 4 → (itemsFlat A cc rows j)[i * 4 + r]? = [Value.bool false, .int .i64 0, .string .empty, .slice (A i) (rows.getD i []).length (cc i)][r]?
  | 0, i, r, h, _ => by omega
  | j + 1, i, r, h, hr => by
    have hl := itemsFlat_len A cc rows j
    rw [itemsFlat]
    by_cases hi : i = j
    · subst hi
      rw [List.getElem?_append_right (by omega), hl, show i * 4 + r - i * 4 = r by omega]
    · rw [List.getElem?_append_left (by omega)]
      exact itemsFlat_get A cc rows j i r (by omega) hr
/-- The items that were made are the rows. -/
theorem items_at {w w' : World} {B base : Nat} {A0 : Option Addr} {n c : Nat} {rows : List (List Dt)} {A : Nat → Option Addr} {cc : Nat → Nat} (h : RowsAt w B A0 n c rows A cc) (hb : Below B w w') (hB : B ≤ w'.heap.size) {v : Value} (hown : w'.ownsRow base 43 4 v n (itemsFlat A cc rows n)) :
    ∃ A' c', v = .slice A' n c' ∧ DtsAt w' w'.heap.size A' n c' (rows.map rowDt) := by
  have hcells := fun g hg => hown.cells (g := g) hg
  have hlt := hown.lt
  have hl := h.len.1
  rcases hown.2 with ⟨rfl, h0⟩ | ⟨g, cap, cur, rfl, hb0, hcur, hle, hmax, hsz, htk⟩
  · subst h0
    obtain rfl := List.eq_nil_of_length_eq_zero hl
    exact ⟨none, 0, rfl, .nil _ _⟩
  · have hg : ∀ k u, (itemsFlat A cc rows n)[k]? = some u → w'.cell? ⟨g, k, none⟩ = some u := fun k u hu => by
      have := hcells g rfl k u hu
      rw [Addr.add_lit, Nat.zero_add] at this
      exact this
    have hm : ∀ (i : Nat) (d : Dt), (rows.map rowDt)[i]? = some d → ∃ row, rows[i]? = some row ∧ d = rowDt row ∧ rows.getD i [] = row := fun i d hd => by
      rw [List.getElem?_map] at hd
      cases hr : rows[i]? with
      | none => rw [hr] at hd; cases hd
      | some row => rw [hr] at hd; refine ⟨row, rfl, by simpa using hd.symm, by simp [List.getD, hr]⟩
    refine ⟨_, cap, rfl, .mk g 0 n cap _ A cc (hlt g rfl).2 (by simpa using hl) hle (fun i d hd => ?_) (fun i d hd => ?_)⟩
    · obtain ⟨row, hr, rfl, he⟩ := hm i d hd
      have hi : i < n := by have := (List.getElem?_eq_some_iff.1 hr).1; omega
      have hq := fun r hr => itemsFlat_get A cc rows n i r hi hr
      rw [he] at hq
      rw [Nat.zero_add]
      exact ⟨hg _ _ (hq 0 (by omega)), hg _ _ (hq 1 (by omega)), hg _ _ (hq 2 (by omega)), hg _ _ (hq 3 (by omega))⟩
    · obtain ⟨row, hr, rfl, he⟩ := hm i d hd
      obtain ⟨b, o, _, _, _, h4⟩ := h.at_ i row hr
      exact h4.mono hb hB
/-- The cells of the rows up to a place, in a column. -/
theorem ownsFrom_snoc (fs : List Fd) (c : Nat) : ∀ (rows : List (List Dt)) (i : Nat) (row : List Dt), ownsFrom fs c i (rows ++ [row]) = ownsFrom fs c i rows ++ ownOf (i + rows.length) fs c row
  | [], i, row => by simp [ownsFrom]
  | r :: rows, i, row => by
    rw [List.cons_append, ownsFrom, ownsFrom_snoc fs c rows (i + 1) row, ownsFrom, List.append_assoc, List.length_cons, show i + 1 + rows.length = i + (rows.length + 1) by omega]
theorem ownsFrom_take {fs : List Fd} {c : Nat} {rows : List (List Dt)} {j : Nat} {row : List Dt} (h : rows[j]? = some row) : ownsFrom fs c 0 (rows.take (j + 1)) = ownsFrom fs c 0 (rows.take j) ++ ownOf j fs c row := by
  have hj := (List.getElem?_eq_some_iff.1 h).1
  rw [List.take_add_one, h]
  show ownsFrom fs c 0 (rows.take j ++ [row]) = _
  rw [ownsFrom_snoc, List.length_take, Nat.min_eq_left (by omega), Nat.zero_add]
theorem ownsFrom_le (fs : List Fd) (c : Nat) : ∀ (rows : List (List Dt)) (i j : Nat), (ownsFrom fs c i (rows.take j)).length ≤ (ownsFrom fs c i rows).length
  | [], i, j => by simp [ownsFrom]
  | r :: rows, i, 0 => by simp [ownsFrom]
  | r :: rows, i, j + 1 => by
    have := ownsFrom_le fs c rows (i + 1) j
    rw [List.take_succ_cons, ownsFrom, ownsFrom, List.length_append, List.length_append]
    omega
theorem ownOf_ne {fs : List Fd} {c : Nat} (hc : c < leaves fs) (row : List Dt) (i : Nat) : ownOf i fs c row ≠ [] := by
  rw [own_eq hc]
  have := ((shCols fs row 0 1 (min i 1) 1).blk c hc).ne
  rwa [Nat.zero_add] at this
/-- A group's data: its texts and how many items it has. -/
theorem rowsTexts {n : Nat} {rows : List (List Dt)} (hf : RowsFit n rows) (hl : rows.length = n) : TextsFit [Dt.mk false 0 .empty (rows.map rowDt)] :=
  .mk _ (fun d hd => by simp at hd; subst hd; exact ⟨Nat.zero_le _, by show (rows.map rowDt).length ≤ _; rw [List.length_map, hl]; have := hf.n; omega⟩) (fun d hd => by
    simp at hd; subst hd
    show TextsFit (rows.map rowDt)
    refine .mk _ (fun d hd => ?_) (fun d hd => ?_)
    · obtain ⟨row, hr, rfl⟩ := List.mem_map.1 hd
      have h1 := hf.sz _ hr
      have h2 := dtsSize_length row
      exact ⟨Nat.zero_le _, by show row.length ≤ _; omega⟩
    · obtain ⟨row, hr, rfl⟩ := List.mem_map.1 hd
      exact hf.tx _ hr)
theorem rowsNums {n : Nat} {rows : List (List Dt)} (hf : RowsFit n rows) : NumsFit [Dt.mk false 0 .empty (rows.map rowDt)] :=
  .mk _ (fun d hd => by simp at hd; subst hd; show -9223372036854775808 ≤ (0 : Int) ∧ (0 : Int) ≤ _; omega) (fun d hd => by
    simp at hd; subst hd
    show NumsFit (rows.map rowDt)
    refine .mk _ (fun d hd => ?_) (fun d hd => ?_)
    · obtain ⟨row, hr, rfl⟩ := List.mem_map.1 hd
      show -9223372036854775808 ≤ (0 : Int) ∧ (0 : Int) ≤ _
      omega
    · obtain ⟨row, hr, rfl⟩ := List.mem_map.1 hd
      exact hf.nf _ hr)
end Go.Proofs.YtglgclkgppomiaaGreat

namespace Go.Proofs.YtglgclkgppomiaaGreat
open Go Go.RowKit Go.ChangeShapes Go.WideShapes Go.ChangeAt Go.Deep

theorem readable45 : Tryz.prog.readableRec 45 = true := by kernel_rfl
theorem rowed45 : 45 < Tryz.prog.types.size := of_decide_eq_true (by kernel_rfl)
section
variable {H : Type} {enc : TypeId × Value → H}
set_option maxRecDepth 100000 in
theorem arg_rows {W : World} {base : Nat} {v : Value} {d : DataW H} {p : List MemPlace} (hv : Value.okWide Tryz.prog W .any base 45 v) (h : DataW.Trod enc Tryz.prog W 0 (fun _ => true) true 45 v d p) (hb : Rows.uptoBulk d ≤ 1048576) :
    ∃ A0 n c rows A cc, v = .slice A0 n c ∧ RowsAt W W.heap.size A0 n c rows A cc ∧ RowsFit n rows := by
  obtain ⟨a0, l, cap, rfl⟩ := okWide_slice Tryz.underlying45 hv
  obtain ⟨fuel, hf⟩ := h
  rw [sliceCells] at hf
  generalize hx : ((d, p) : DataW H × List MemPlace) = x at hf
  have hd : x.1 = d := by rw [← hx]
  rcases open_slice Tryz.underlying45 hf with ⟨he, rfl⟩ | ⟨a, len, cap', m, q, D, Pl, he, _, hlc, hcm, hm, rfl, hel⟩
  · simp only [List.cons.injEq, and_true] at he
    exact ⟨none, 0, 0, [], fun _ => none, fun _ => 0, he, ⟨⟨rfl, Nat.le_refl _⟩, fun k row hk => by simp at hk⟩, ⟨by omega, fun _ h => by simp at h, fun _ h => by simp at h, fun _ h => by simp at h⟩⟩
  · simp only [if_true] at hm
    subst hm
    rw [cellsOf23] at hel
    rw [← hd] at hb
    simp only [Rows.uptoBulk] at hb
    have hbe : ∀ i, i < len → Rows.uptoBulk (D i) ≤ 1048576 := fun i hi => by
      have h1 := bulk_get ((List.range len).map D) (D i) (List.mem_map.2 ⟨i, List.mem_range.2 hi, rfl⟩)
      omega
    have hlen : len ≤ 1048576 := by
      have : ∀ l : List (DataW H), l.length ≤ Rows.uptoBulkAll l := fun l => by
        induction l with
        | nil => simp
        | cons x r ih => simp only [List.length_cons, Rows.uptoBulkAll]; have := bulk_pos x; omega
      have h1 := this ((List.range len).map D)
      simp at h1
      omega
    have key : ∀ i, i < len → ∃ r : List Dt × Option Addr × Nat, (W.cell? ((a.add (i * 1)).add 0) = some (.slice r.2.1 r.1.length r.2.2)) ∧ DtsAt W W.heap.size r.2.1 r.1.length r.2.2 r.1 ∧ (a.add (i * 1)).block < W.heap.size ∧ TextsFit r.1 ∧ NumsFit r.1 ∧ dtsSize r.1 ≤ 2000000 := fun i hi => by
      obtain ⟨cs', hc', ht'⟩ := hel i (by omega)
      obtain ⟨hcl, hcg⟩ := cells_get hc'
      have hblk := World.cells?_block hc' (by omega)
      obtain ⟨A', n', c', ds', rfl, hfd, htf, hnf, hsz⟩ := read_dts W (Rows.uptoBulk (D i)) _ cs' (D i, Pl i) (Nat.le_refl _) (hbe i hi) ht'
      have hl := hfd.len.1
      refine ⟨(ds', A', c'), ?_, ?_, hblk, htf, hnf, ?_⟩
      · have := hcg 0 (by omega)
        show _ = some (Value.slice A' ds'.length c')
        rw [hl]
        simpa using this
      · show DtsAt W _ A' ds'.length c' ds'
        rw [hl]; exact hfd
      · have := hbe i hi
        show dtsSize ds' ≤ _
        have h2 : dtsSize ds' ≤ Rows.uptoBulk (D i) := hsz
        omega
    by_cases h0 : len = 0
    · subst h0
      simp only [List.cons.injEq, and_true] at he
      exact ⟨_, 0, _, [], fun _ => none, fun _ => 0, he, ⟨⟨rfl, Nat.zero_le _⟩, fun k row hk => by simp at hk⟩, ⟨by omega, fun _ h => by simp at h, fun _ h => by simp at h, fun _ h => by simp at h⟩⟩
    · obtain ⟨r, hr⟩ := choose_lt (α := List Dt × Option Addr × Nat) key
      obtain ⟨b, o, rfl⟩ : ∃ b o, a = ⟨b, o, none⟩ := plain_add (by have := (hr 0 (by omega)).1; rw [Nat.zero_mul] at this; have e : (a.add 0).add 0 = a.add 0 := by unfold Addr.add; simp
                                                                    rw [e] at this; exact this)
      simp only [List.cons.injEq, and_true] at he
      have hmem : ∀ row, row ∈ (List.range len).map (fun i => (r i).1) → ∃ i, i < len ∧ (r i).1 = row := fun row hm => by
        obtain ⟨i, hi, rfl⟩ := List.mem_map.1 hm
        exact ⟨i, List.mem_range.1 hi, rfl⟩
      refine ⟨_, len, _, (List.range len).map fun i => (r i).1, fun i => (r i).2.1, fun i => (r i).2.2, he, ⟨⟨by simp, hlc⟩, fun k row hk => ?_⟩, ⟨by omega, fun row hm => ?_, fun row hm => ?_, fun row hm => ?_⟩⟩
      · obtain ⟨hkl, rfl⟩ := mem_range_map hk
        obtain ⟨h1, h2, h3, _⟩ := hr k hkl
        rw [Addr.add_lit, Addr.add_lit] at h1
        rw [Addr.add_lit] at h3
        exact ⟨b, o, rfl, h3, by simpa using h1, h2⟩
      · obtain ⟨i, hi, rfl⟩ := hmem row hm; exact (hr i hi).2.2.2.1
      · obtain ⟨i, hi, rfl⟩ := hmem row hm; exact (hr i hi).2.2.2.2.1
      · obtain ⟨i, hi, rfl⟩ := hmem row hm; exact (hr i hi).2.2.2.2.2
end
set_option maxRecDepth 100000 in
/-- A law of fields and rows. -/
theorem contract_fr (F : FuncId) (f : Func) (s : ChangeSpec) (hp : f.params = #[22, 45]) (hres : f.resultTypes = #[4]) (hvars : s.vars = [])
    (hfn : ∀ (H : Type) (d1 d2 : DataW H), s.fn H [d1, d2] = { results := [.lit (.bool true)], args := [d1, d2] })
    (law : ∀ (w : World) (A A0 : Option Addr) (n c n2 c2 : Nat) (fs : List Fd) (rows : List (List Dt)) (Ar : Nat → Option Addr) (cc : Nat → Nat), InF w A n c fs → RowsAt w w.heap.size A0 n2 c2 rows Ar cc → RowsFit n2 rows →
      Calls Tryz.prog F #[.slice A n c, .slice A0 n2 c2] w fun e w' => e = .returned (.bool true) ∧ Below w.heap.size w w')
    (H : Type) (enc : TypeId × Value → H) (W : World) (base : Nat) (args : Array Value) (ds gs : List (DataW H)) (before : List MemPlace)
    (hval : ∀ (j : Nat) t v, f.params[j]? = some t → args[j]? = some v → Value.okWide Tryz.prog W .any base t v)
    (hW : DataW.Whole enc Tryz.prog f.params.toList s.vars false W args.toList ds gs before) (hk : Rows.uptoSmall H (ds ++ gs) = true) :
    Calls Tryz.prog F args W fun e W' => ∃ v, e = .returned v ∧ s.post enc Tryz.prog f false true false false W args v W' := by
  have hW' := hW
  obtain ⟨p, q, hA, hV, rfl, hfz, hnd⟩ := hW
  rw [hp] at hA hval
  rw [hvars] at hV
  obtain ⟨v0, vs0, d0, ds0, p0, q0, hargs, rfl, rfl, h0, r0⟩ := trodAll_cons hA
  obtain ⟨v1, vs1, d1, ds1, p1, q1, hargs1, rfl, rfl, h1, r1⟩ := trodAll_cons r0
  obtain ⟨rfl, rfl, rfl⟩ := trodAll_nil r1
  obtain rfl : args = #[v0, v1] := by cases args; simp_all
  obtain ⟨rfl, rfl⟩ := trodVars_none hV
  have hkb := small_bulk hk
  simp only [List.append_nil, Rows.uptoBulkAll] at hkb
  obtain ⟨A, n, c, fs, rfl, hF⟩ := arg_fds (hval 0 22 v0 rfl rfl) h0 (by omega)
  obtain ⟨A0, n2, c2, rows, Ar, cc, rfl, hR, hfit⟩ := arg_rows (hval 1 45 v1 rfl rfl) h1 (by omega)
  have hlt0 : ∀ x ∈ p0, x.block < W.heap.size := fun x hx => hW'.lt x (by simp [hx])
  have hlt1 : ∀ x ∈ p1, x.block < W.heap.size := fun x hx => hW'.lt x (by simp [hx])
  refine (law W A A0 n c n2 c2 fs rows Ar cc hF hR hfit).mono fun e W' ⟨he, hb⟩ => ⟨_, he, ?_⟩
  refine post_of_below hW' hb hres Tryz.underlying4 (by simp only [List.append_nil, hfn]) hvars (by simp only [List.append_nil, hfn]) (p0 ++ (p1 ++ [])) ?_
  simp only [List.append_nil, hfn]
  rw [hp]
  have := trodAll_cons_mk (Below.trod laidOuts readable22 rowed22 h0 hb hlt0) (trodAll_cons_mk (Below.trod laidOuts readable45 rowed45 h1 hb hlt1) trodAll_mk0)
  simpa using this
end Go.Proofs.YtglgclkgppomiaaGreat

namespace Go.Proofs.YtglgclkgppomiaaGreat
open Go Go.RowKit

theorem inF_gr {W : World} {b : Nat} {way : Int} {A : Option Addr} {n c : Nat} {fs : List Fd} (hF : InF W A n c fs) (hs : fdsSize fs ≤ 300) (hr : RowB W b 41 #[.string ⟨#[120]⟩, .int .i64 way, .int .i64 0, .slice A n c]) : InF W (some ⟨b, 0, none⟩) 1 1 [gr way fs] where
  at_ := by
    have hl := hF.at_.len.1
    refine .mk b 0 1 1 _ (fun _ => A) (fun _ => c) hr.lt rfl (Nat.le_refl _) (fun k f hk => ?_) (fun k f hk => ?_)
    · cases k with
      | zero => simp at hk; subst hk; exact ⟨hr.cell 0, hr.cell 1, hr.cell 2, by show W.cell? ⟨b, 3, none⟩ = some (.slice A fs.length c); rw [hl]; exact hr.cell 3⟩
      | succ k => simp at hk
    · cases k with
      | zero => simp at hk; subst hk; show FdsAt W _ A fs.length c fs; rw [hl]; exact hF.at_
      | succ k => simp at hk
  nm := .mk _ (fun f hf => by simp at hf; subst hf; show (1 : Nat) ≤ _; omega) (fun f hf => by simp at hf; subst hf; exact hF.nm)
  sz := by
    have e : fdsSize [gr way fs] = 1 + fdsSize fs := by simp only [fdsSize, gr, fdSize, Nat.add_zero]
    rw [e]; omega
theorem inD_one {W : World} {b : Nat} {nn : Bool} {A : Option Addr} {n c : Nat} {ds : List Dt} (hD : InD W A n c ds) (hs : dtsSize ds ≤ 20000) (hr : RowB W b 43 #[.bool nn, .int .i64 0, .string .empty, .slice A n c]) : InD W (some ⟨b, 0, none⟩) 1 1 [.mk nn 0 .empty ds] where
  at_ := by
    have hl := hD.at_.len.1
    refine .mk b 0 1 1 _ (fun _ => A) (fun _ => c) hr.lt rfl (Nat.le_refl _) (fun k f hk => ?_) (fun k f hk => ?_)
    · cases k with
      | zero => simp at hk; subst hk; exact ⟨hr.cell 0, hr.cell 1, hr.cell 2, by show W.cell? ⟨b, 3, none⟩ = some (.slice A ds.length c); rw [hl]; exact hr.cell 3⟩
      | succ k => simp at hk
    · cases k with
      | zero => simp at hk; subst hk; show DtsAt W _ A ds.length c ds; rw [hl]; exact hD.at_
      | succ k => simp at hk
  tx := .mk _ (fun d hd => by simp at hd; subst hd; exact ⟨Nat.zero_le _, by have := dtsSize_length ds; show ds.length ≤ _; omega⟩) (fun d hd => by simp at hd; subst hd; exact hD.tx)
  nf := .mk _ (fun d hd => by simp at hd; subst hd; show -9223372036854775808 ≤ (0 : Int) ∧ (0 : Int) ≤ _; omega) (fun d hd => by simp at hd; subst hd; exact hD.nf)
  sz := by
    have e : dtsSize [Dt.mk nn 0 .empty ds] = 1 + dtsSize ds := by simp only [dtsSize, dtSize, Nat.add_zero]
    rw [e]; omega
theorem below2 (w : World) (o1 o2 : Obj) : Below w.heap.size w ((w.alloc o1).alloc o2) := ((Below.refl _ _).alloc (Nat.le_refl _) _).alloc (by rw [size_alloc1]; omega) _
theorem rowB_1 (w : World) (cs : Array Value) (t : TypeId) (o2 : Obj) : RowB ((w.alloc (.cells cs t)).alloc o2) w.heap.size t cs := (RowB.new w t cs).alloc _
theorem rowB_2 (w : World) (cs : Array Value) (t : TypeId) (o1 : Obj) : RowB ((w.alloc o1).alloc (.cells cs t)) (w.heap.size + 1) t cs := rowB_new (by rw [size_alloc1])

set_option maxRecDepth 100000 in
set_option maxHeartbeats 2000000 in
theorem law8 {w : World} {A A2 : Option Addr} {n c n2 c2 : Nat} {fs : List Fd} {ds : List Dt} (hF : InF w A n c fs) (hD : InD w A2 n2 c2 ds) :
    Calls Tryz.prog 8 #[.slice A n c, .slice A2 n2 c2] w fun e w' => e = .returned (.bool true) ∧ Below w.heap.size w w' := by
  obtain ⟨s1, s2, s3⟩ := small_len hF.len.2
  obtain ⟨s4, s5, s6⟩ := small_len hD.len.2
  have hbw := below2 w (.cells #[.string ⟨#[120]⟩, .int .i64 0, .int .i64 0, .slice A n c] 41) (.cells #[.bool false, .int .i64 0, .string .empty, .slice A2 n2 c2] 43)
  have hrow1 := rowB_1 w #[.string ⟨#[120]⟩, .int .i64 0, .int .i64 0, .slice A n c] 41 (.cells #[.bool false, .int .i64 0, .string .empty, .slice A2 n2 c2] 43)
  have hrow2 := rowB_2 w #[.bool false, .int .i64 0, .string .empty, .slice A2 n2 c2] 43 (.cells #[.string ⟨#[120]⟩, .int .i64 0, .int .i64 0, .slice A n c] 41)
  have HF := Lib.hid (hF.mono hbw)
  have HD := Lib.hid (hD.mono hbw)
  have HR1 := Lib.hid hrow1
  have HR2 := Lib.hid hrow2
  have HBW := Lib.hid hbw
  clear hF hD hrow1 hrow2 hbw
  by_cases hr : isRow fs ds = true
  · have HR := Lib.hid (rowFacts hr HD.out.nf)
    have hFG := inF_gr HF.out HR.out.size HR1.out
    have hDG := inD_one HD.out HR.out.dsize HR2.out
    have HFG := Lib.hid hFG
    have HDG := Lib.hid hDG
    have HIS := Lib.hid (isRow19 HF.out HD.out)
    rw [hr] at HIS
    clear hr hFG hDG
    by_cases hr2 : isRow [gr 0 fs] [.mk false 0 .empty ds] = true
    · have HR3 := Lib.hid (rowFacts hr2 HDG.out.nf)
      have HT := Lib.hid hr2
      clear hr2
      go_enter Tryz.func8, Tryz.ntmps8
      go_wp2_with fail
      refine HIS.out.mono ?_
      rintro e w1 ⟨rfl, hb1⟩
      have HFG1 := Lib.hid (HFG.out.mono hb1)
      have HDG1 := Lib.hid (HDG.out.mono hb1)
      have HF1 := Lib.hid (HF.out.mono hb1)
      have HD1 := Lib.hid (HD.out.mono hb1)
      have HB1 := Lib.hid (HBW.out.trans (hb1.mono HBW.out.size))
      clear hb1
      go_wp2_with fail
      have hi := isRow19 HFG1.out HDG1.out
      rw [HT.out] at hi
      refine hi.mono ?_
      clear hi
      rintro e w2 ⟨rfl, hb2⟩
      have HFG2 := Lib.hid (HFG1.out.mono hb2)
      have HDG2 := Lib.hid (HDG1.out.mono hb2)
      have HF2 := Lib.hid (HF1.out.mono hb2)
      have HD2 := Lib.hid (HD1.out.mono hb2)
      have HB2 := Lib.hid (HB1.out.trans (hb2.mono HB1.out.size))
      clear hb2
      go_wp2_with fail
      refine (decon21 fs ds A n c A2 n2 c2 w2 HF2.out.at_ HD2.out.at_ HR.out).mono ?_
      rintro e w3 ⟨A4, c4, rfl, hc4, hb3⟩
      have HC4 := Lib.hid hc4
      have HFG3 := Lib.hid (HFG2.out.mono hb3)
      have HDG3 := Lib.hid (HDG2.out.mono hb3)
      have HB3 := Lib.hid (HB2.out.trans (hb3.mono HB2.out.size))
      clear hc4 hb3
      go_wp2_with fail
      refine (both28 [gr 0 fs] [.mk false 0 .empty ds] _ 1 1 _ 1 1 A4 _ c4 w3 HFG3.out.at_ HDG3.out.at_ (by rw [rowCells_group HR.out.ne]; exact HC4.out) HR3.out HDG3.out.nf (sh_texts _ HDG3.out.tx)).mono ?_
      rintro e w4 ⟨rfl, hb4⟩
      have HB4 := Lib.hid (HB3.out.trans (hb4.mono HB3.out.size))
      clear hb4
      go_wp2_with fail
      go_ret
      exact ⟨rfl, HB4.out⟩
    · have hr3 : isRow [gr 0 fs] [.mk false 0 .empty ds] = false := by simpa using hr2
      have HT := Lib.hid hr3
      clear hr2 hr3
      go_enter Tryz.func8, Tryz.ntmps8
      go_wp2_with fail
      refine HIS.out.mono ?_
      rintro e w1 ⟨rfl, hb1⟩
      have HFG1 := Lib.hid (HFG.out.mono hb1)
      have HDG1 := Lib.hid (HDG.out.mono hb1)
      have HB1 := Lib.hid (HBW.out.trans (hb1.mono HBW.out.size))
      clear hb1
      go_wp2_with fail
      have hi := isRow19 HFG1.out HDG1.out
      rw [HT.out] at hi
      refine hi.mono ?_
      clear hi
      rintro e w2 ⟨rfl, hb2⟩
      have HB2 := Lib.hid (HB1.out.trans (hb2.mono HB1.out.size))
      clear hb2
      go_wp2_with fail
      refine (works20 w2).mono ?_
      rintro e w3 ⟨rfl, hb3⟩
      have HB3 := Lib.hid (HB2.out.trans (hb3.mono HB2.out.size))
      clear hb3
      go_wp2_with fail
      go_ret
      exact ⟨rfl, HB3.out⟩
  · have hr' : isRow fs ds = false := by simpa using hr
    have HIS := Lib.hid (isRow19 HF.out HD.out)
    rw [hr'] at HIS
    clear hr hr'
    go_enter Tryz.func8, Tryz.ntmps8
    go_wp2_with fail
    refine HIS.out.mono ?_
    rintro e w1 ⟨rfl, hb1⟩
    have HB1 := Lib.hid (HBW.out.trans (hb1.mono HBW.out.size))
    clear hb1
    go_wp2_with fail
    refine (works20 w1).mono ?_
    rintro e w2 ⟨rfl, hb2⟩
    have HB2 := Lib.hid (HB1.out.trans (hb2.mono HB1.out.size))
    clear hb2
    go_wp2_with fail
    go_ret
    exact ⟨rfl, HB2.out⟩
end Go.Proofs.YtglgclkgppomiaaGreat

namespace Go.Proofs.YtglgclkgppomiaaGreat
open Go Go.RowKit

/-- A column's only cell, without a value. -/
def noCell (c : Nat) : Cl := ⟨(c : Int), 0, 0, true, 0, 0, .empty⟩
theorem isRow_missing {fs : List Fd} (ha : areFields [gr 1 fs] = true) : isRow [gr 1 fs] [.mk true 0 .empty []] = true := by
  have h : dataC (gr 1 fs) (.mk true 0 .empty []) = some 1 := by
    unfold dataC dataOf
    rw [if_pos ⟨rfl, rfl⟩, if_pos ⟨rfl, rfl, rfl⟩]
  simp only [isRow, ha, Bool.true_and]
  rw [rowGo_cons, h]
  simp [rowGo]
theorem isRow_fields {fs : List Fd} {ds : List Dt} (h : isRow fs ds = true) : areFields fs = true := by
  simp only [isRow, Bool.and_eq_true] at h
  exact h.1
theorem RowFacts.small {fs : List Fd} {ds : List Dt} (h : RowFacts fs ds) : ∀ x ∈ rowCells fs ds, (0 ≤ x.col ∧ x.col ≤ 1000000) ∧ (0 ≤ x.rep ∧ x.rep ≤ 1000000) ∧ (0 ≤ x.de ∧ x.de ≤ 1000000) := fun x hx => by
  obtain ⟨j, hj, hx⟩ := mem_parts hx
  have hc := h.cells x (List.mem_filter.1 hx).1
  have h1 := hc.lo; have h2 := hc.hi; have h3 := hc.rep; have h4 := hc.de; have h5 := h.leaves
  omega

set_option maxRecDepth 100000 in
set_option maxHeartbeats 4000000 in
theorem law9 {w : World} {A A2 : Option Addr} {n c n2 c2 : Nat} {fs : List Fd} {ds : List Dt} (hF : InF w A n c fs) (hD : InD w A2 n2 c2 ds) :
    Calls Tryz.prog 9 #[.slice A n c, .slice A2 n2 c2] w fun e w' => e = .returned (.bool true) ∧ Below w.heap.size w w' := by
  obtain ⟨s1, s2, s3⟩ := small_len hF.len.2
  obtain ⟨s4, s5, s6⟩ := small_len hD.len.2
  have hbw := below2 w (.cells #[.string ⟨#[120]⟩, .int .i64 1, .int .i64 0, .slice A n c] 41) (.cells #[.bool false, .int .i64 0, .string .empty, .slice A2 n2 c2] 43)
  have hrow1 := rowB_1 w #[.string ⟨#[120]⟩, .int .i64 1, .int .i64 0, .slice A n c] 41 (.cells #[.bool false, .int .i64 0, .string .empty, .slice A2 n2 c2] 43)
  have hrow2 := rowB_2 w #[.bool false, .int .i64 0, .string .empty, .slice A2 n2 c2] 43 (.cells #[.string ⟨#[120]⟩, .int .i64 1, .int .i64 0, .slice A n c] 41)
  have HF := Lib.hid (hF.mono hbw)
  have HD := Lib.hid (hD.mono hbw)
  have HR1 := Lib.hid hrow1
  have HR2 := Lib.hid hrow2
  have HBW := Lib.hid hbw
  obtain ⟨i39, j1, j2, j3, j4⟩ := info_parts info39
  have J1 := Lib.hid j1
  have J2 := Lib.hid j2
  have J3 := Lib.hid j3
  have J4 := Lib.hid j4
  clear hF hD hrow1 hrow2 hbw j1 j2 j3 j4
  by_cases hr : isRow fs ds = true
  · have HR := Lib.hid (rowFacts hr HD.out.nf)
    have hlv := HR.out.leaves
    have hpl := HR.out.plen
    have hFG := inF_gr HF.out HR.out.size HR1.out
    have hDG := inD_one HD.out HR.out.dsize HR2.out
    have HFG := Lib.hid hFG
    have HDG := Lib.hid hDG
    have HIS := Lib.hid (isRow19 HF.out HD.out)
    rw [hr] at HIS
    clear hr hFG hDG
    by_cases hr2 : isRow [gr 1 fs] [.mk false 0 .empty ds] = true
    · have HR3 := Lib.hid (rowFacts hr2 HDG.out.nf)
      have HR4 := Lib.hid (rowFacts (isRow_missing (isRow_fields hr2)) (NumsFit.mk [.mk true 0 .empty []] (fun d hd => by simp at hd; subst hd; show -9223372036854775808 ≤ (0 : Int) ∧ (0 : Int) ≤ _; omega) (fun d hd => by simp at hd; subst hd; exact .mk _ (fun _ h => by cases h) (fun _ h => by cases h))))
      have HT := Lib.hid hr2
      clear hr2
      go_enter Tryz.func9, Tryz.ntmps9
      go_wp2_with fail
      refine HIS.out.mono ?_
      rintro e w1 ⟨rfl, hb1⟩
      have HFG1 := Lib.hid (HFG.out.mono hb1)
      have HDG1 := Lib.hid (HDG.out.mono hb1)
      have HF1 := Lib.hid (HF.out.mono hb1)
      have HD1 := Lib.hid (HD.out.mono hb1)
      have HB1 := Lib.hid (HBW.out.trans (hb1.mono HBW.out.size))
      clear hb1
      go_wp2_with fail
      have hi := isRow19 HFG1.out HDG1.out
      rw [HT.out] at hi
      refine hi.mono ?_
      clear hi
      rintro e w2 ⟨rfl, hb2⟩
      have HFG2 := Lib.hid (HFG1.out.mono hb2)
      have HDG2 := Lib.hid (HDG1.out.mono hb2)
      have HF2 := Lib.hid (HF1.out.mono hb2)
      have HD2 := Lib.hid (HD1.out.mono hb2)
      have HB2 := Lib.hid (HB1.out.trans (hb2.mono HB1.out.size))
      clear hb2
      go_wp2_with fail
      refine (leaves_all 1000000000 (Nat.le_refl _) fs A n c w2 (by have := HR.out.size; omega) HF2.out.at_).mono ?_
      rintro e w3 ⟨rfl, hb3⟩
      have HFG3 := Lib.hid (HFG2.out.mono hb3)
      have HDG3 := Lib.hid (HDG2.out.mono hb3)
      have HF3 := Lib.hid (HF2.out.mono hb3)
      have HD3 := Lib.hid (HD2.out.mono hb3)
      have HB3 := Lib.hid (HB2.out.trans (hb3.mono HB2.out.size))
      clear hb3
      go_wp2_with fail
      go_loopw [7, 36] (fun v i wr => ∃ (j : Nat), j ≤ leaves fs ∧ i = .int .i64 j ∧ wr.ownsRow w3.heap.size 39 7 v j (clFlat ((List.range j).map noCell)) ∧ Below w3.heap.size w3 wr) (fun _ i _ => leaves fs - (intOf i).toNat)
      case atStart => exact ⟨0, Nat.zero_le _, rfl, World.ownsRow_nil _ _ _ _, Below.refl _ _⟩
      case round =>
        obtain ⟨j, hj, rfl, hown, hb5⟩ := hrel
        have HOWN := Lib.hid hown
        have HB5 := Lib.hid hb5
        clear hown
        by_cases hlt : j < leaves fs
        · have hj0 : (0 : Int) ≤ (j : Int) := Int.natCast_nonneg _
          have hj1 : (j : Int) < (leaves fs : Int) := by omega
          have hsz5 := hb5.size
          have HSZF : Hid (∀ o1, w3.heap.size ≤ (wr.alloc o1).heap.size) := Lib.hid fun o1 => by rw [size_alloc1]; omega
          have HNEW : Hid (∀ o1, (wr.alloc o1).heap[wr.heap.size]? = some o1) := Lib.hid fun o1 => heap_alloc_new _ _
          clear hb5
          go_wp2_with (at_builtin; refine wpList_append_lies _ rfl _ _ 26 rfl w3.heap.size 39 i39 _ 7 64 Tryz.underlying26 J1.out J2.out J3.out J4.out rfl (by decide) u7 j (clFlat ((List.range j).map noCell)) (by rfl) (HOWN.out.alloc _) ⟨wr.heap.size, 0, none⟩ 1 1 [.int .i64 j, .int .i64 0, .int .i64 0, .bool true, .int .i64 0, .int .i64 0, .string .empty] (by rfl) rfl (World.news_of_block (HNEW.out _)) (by simp [Value.oneCell']) (by decide) (by simp only [maxLen]; omega) (by omega) (HSZF.out _) _ rfl ?_; intro g cap w' hown' hgrow hat hlt')
          have hb9 : Below w3.heap.size w3 w' := (HB5.out.alloc hsz5 _).trans (below_grownRow hgrow (HSZF.out _) (fun k hk => (HOWN.out.lt k hk).1))
          refine ⟨⟨j + 1, by omega, by go_num, ?_, hb9⟩, by simp [intOf]; omega⟩
          rw [List.range_succ, List.map_append, List.map_cons, List.map_nil, clFlat_snoc]
          exact hown'
        · obtain rfl : j = leaves fs := by omega
          obtain ⟨A7, c7, rfl, hcls7⟩ := clsAt_owns HOWN.out (by simp)
          have HC7 := Lib.hid hcls7
          have HFG5 := Lib.hid (HFG3.out.mono HB5.out)
          have HDG5 := Lib.hid (HDG3.out.mono HB5.out)
          have HF5 := Lib.hid (HF3.out.mono HB5.out)
          have HD5 := Lib.hid (HD3.out.mono HB5.out)
          have HB6 := Lib.hid (HB3.out.trans (HB5.out.mono HB3.out.size))
          clear hcls7 HOWN hb5
          go_wp2_with fail
          refine (decon21 fs ds A n c A2 n2 c2 wr HF5.out.at_ HD5.out.at_ HR.out).mono ?_
          rintro e w4 ⟨A4, c4, rfl, hc4, hb4⟩
          have HC4 := Lib.hid hc4
          have HC8 := Lib.hid (HC7.out.mono hb4 hb4.size)
          have HFG6 := Lib.hid (HFG5.out.mono hb4)
          have HDG6 := Lib.hid (HDG5.out.mono hb4)
          have HB7 := Lib.hid (HB6.out.trans (hb4.mono HB6.out.size))
          clear hc4 hb4
          go_wp2_with fail
          refine (moved26 (rowCells fs ds) A4 _ c4 0 0 1 w4 HC4.out hpl HR.out.small (by decide) (by decide) (by decide)).mono ?_
          rintro e w5 ⟨A8, c8, rfl, hc8, hb8⟩
          have HC9 := Lib.hid hc8
          have HC10 := Lib.hid (HC8.out.mono hb8 hb8.size)
          have HFG7 := Lib.hid (HFG6.out.mono hb8)
          have HDG7 := Lib.hid (HDG6.out.mono hb8)
          have HB8 := Lib.hid (HB7.out.trans (hb8.mono HB7.out.size))
          clear hc8 hb8
          go_wp2_with fail
          refine (both28 [gr 1 fs] [.mk false 0 .empty ds] _ 1 1 _ 1 1 A8 _ c8 w5 HFG7.out.at_ HDG7.out.at_ (by rw [rowCells_optional HR.out.ne]; have := HC9.out; rwa [List.length_map] at this) HR3.out HDG7.out.nf (sh_texts _ HDG7.out.tx)).mono ?_
          rintro e w6 ⟨rfl, hb9⟩
          have HC11 := Lib.hid (HC10.out.mono hb9 hb9.size)
          have HFG8 := Lib.hid (HFG7.out.mono hb9)
          have HB9 := Lib.hid (HB8.out.trans (hb9.mono HB8.out.size))
          clear hb9
          go_wp2_with fail
          have hbA : Below w6.heap.size w6 (w6.alloc (.cells #[.bool true, .int .i64 0, .string .empty, .slice none 0 0] 43)) := (Below.refl _ _).alloc (Nat.le_refl _) _
          have hD0 : InD (w6.alloc (.cells #[.bool true, .int .i64 0, .string .empty, .slice none 0 0] 43)) none 0 0 [] := ⟨.nil _ _, .mk _ (fun _ h => by cases h) (fun _ h => by cases h), .mk _ (fun _ h => by cases h) (fun _ h => by cases h), by simp [dtsSize]⟩
          have hDM := inD_one hD0 (by simp [dtsSize]) (RowB.new w6 43 #[.bool true, .int .i64 0, .string .empty, .slice none 0 0])
          have hFM := HFG8.out.mono hbA
          have hCM := HC11.out.mono hbA hbA.size
          have HB10 := Lib.hid (HB9.out.trans (hbA.mono HB9.out.size))
          refine (both28 [gr 1 fs] [.mk true 0 .empty []] _ 1 1 _ 1 1 A7 _ c7 _ hFM.at_ hDM.at_ (by rw [rowCells_missing HR.out.ne]; exact hCM) HR4.out hDM.nf (sh_texts _ hDM.tx)).mono ?_
          rintro e w7 ⟨rfl, hb11⟩
          have HB11 := Lib.hid (HB10.out.trans (hb11.mono HB10.out.size))
          clear hb11 hbA hD0 hDM hFM hCM
          go_wp2_with fail
          go_ret
          exact ⟨rfl, HB11.out⟩
    · have hr3 : isRow [gr 1 fs] [.mk false 0 .empty ds] = false := by simpa using hr2
      have HT := Lib.hid hr3
      clear hr2 hr3
      go_enter Tryz.func9, Tryz.ntmps9
      go_wp2_with fail
      refine HIS.out.mono ?_
      rintro e w1 ⟨rfl, hb1⟩
      have HFG1 := Lib.hid (HFG.out.mono hb1)
      have HDG1 := Lib.hid (HDG.out.mono hb1)
      have HB1 := Lib.hid (HBW.out.trans (hb1.mono HBW.out.size))
      clear hb1
      go_wp2_with fail
      have hi := isRow19 HFG1.out HDG1.out
      rw [HT.out] at hi
      refine hi.mono ?_
      clear hi
      rintro e w2 ⟨rfl, hb2⟩
      have HB2 := Lib.hid (HB1.out.trans (hb2.mono HB1.out.size))
      clear hb2
      go_wp2_with fail
      refine (works20 w2).mono ?_
      rintro e w3 ⟨rfl, hb3⟩
      have HB3 := Lib.hid (HB2.out.trans (hb3.mono HB2.out.size))
      clear hb3
      go_wp2_with fail
      go_ret
      exact ⟨rfl, HB3.out⟩
  · have hr' : isRow fs ds = false := by simpa using hr
    have HIS := Lib.hid (isRow19 HF.out HD.out)
    rw [hr'] at HIS
    clear hr hr'
    go_enter Tryz.func9, Tryz.ntmps9
    go_wp2_with fail
    refine HIS.out.mono ?_
    rintro e w1 ⟨rfl, hb1⟩
    have HB1 := Lib.hid (HBW.out.trans (hb1.mono HBW.out.size))
    clear hb1
    go_wp2_with fail
    refine (works20 w1).mono ?_
    rintro e w2 ⟨rfl, hb2⟩
    have HB2 := Lib.hid (HB1.out.trans (hb2.mono HB1.out.size))
    clear hb2
    go_wp2_with fail
    go_ret
    exact ⟨rfl, HB2.out⟩
end Go.Proofs.YtglgclkgppomiaaGreat

namespace Go.Proofs.YtglgclkgppomiaaGreat
open Go Go.RowKit

theorem stored4 {w : World} {base g j cap : Nat} {xs : List Value} {z0 z1 z2 z3 : Value} (h : w.ownsRow base 43 4 (.slice (some ⟨g, 0, none⟩) (j + 1) cap) (j + 1) (xs ++ [z0, z1, z2, z3])) (hx : xs.length = j * 4) (a b c d : Value) :
    ((((w.setCell ⟨g, j * 4, none⟩ a).setCell ⟨g, j * 4 + 1, none⟩ b).setCell ⟨g, j * 4 + 2, none⟩ c).setCell ⟨g, j * 4 + 3, none⟩ d).ownsRow base 43 4 (.slice (some ⟨g, 0, none⟩) (j + 1) cap) (j + 1) (xs ++ [a, b, c, d]) := by
  have h4 := ((((h.stored (j * 4) a).1.stored (j * 4 + 1) b).1.stored (j * 4 + 2) c).1.stored (j * 4 + 3) d).1
  rw [← hx] at h4 ⊢
  simpa [List.set_append] using h4
theorem four_at {w : World} {base g j cap : Nat} {xs : List Value} {z0 z1 z2 z3 : Value} (h : w.ownsRow base 43 4 (.slice (some ⟨g, 0, none⟩) (j + 1) cap) (j + 1) (xs ++ [z0, z1, z2, z3])) (hx : xs.length = j * 4) :
    w.cell? ⟨g, j * 4, none⟩ = some z0 ∧ w.cell? ⟨g, j * 4 + 1, none⟩ = some z1 ∧ w.cell? ⟨g, j * 4 + 2, none⟩ = some z2 ∧ w.cell? ⟨g, j * 4 + 3, none⟩ = some z3 := by
  have hc := fun k (hk : k < (j + 1) * 4) => h.cellAt k hk
  refine ⟨(hc _ (by omega)).trans ?_, (hc _ (by omega)).trans ?_, (hc _ (by omega)).trans ?_, (hc _ (by omega)).trans ?_⟩ <;> rw [← hx] <;> simp
theorem four_other {w : World} {g b k0 k1 k2 k3 : Nat} (h : b ≠ g) (a b' c d : Value) : ((((w.setCell ⟨g, k0, none⟩ a).setCell ⟨g, k1, none⟩ b').setCell ⟨g, k2, none⟩ c).setCell ⟨g, k3, none⟩ d).heap[b]? = w.heap[b]? := by
  rw [setCell_other _ _ _ h, setCell_other _ _ _ h, setCell_other _ _ _ h, setCell_other _ _ _ h]
theorem below_four {B : Nat} {w w' : World} (h : Below B w w') {g k0 k1 k2 k3 : Nat} (hg : B ≤ g) (a b' c d : Value) : Below B w ((((w'.setCell ⟨g, k0, none⟩ a).setCell ⟨g, k1, none⟩ b').setCell ⟨g, k2, none⟩ c).setCell ⟨g, k3, none⟩ d) :=
  below_setCell (below_setCell (below_setCell (below_setCell h (p := ⟨g, k0, none⟩) hg a) (p := ⟨g, k1, none⟩) hg b') (p := ⟨g, k2, none⟩) hg c) (p := ⟨g, k3, none⟩) hg d
theorem clFlat_append (a b : List Cl) : clFlat (a ++ b) = clFlat a ++ clFlat b := by simp [clFlat]
theorem clFlat_one (L : List Cl) : ∀ u ∈ clFlat L, u.oneCell' = true := fun u hu => by
  simp only [clFlat, List.mem_flatten, List.mem_map] at hu
  obtain ⟨l, ⟨x, _, rfl⟩, hu⟩ := hu
  simp only [Cl.vals, List.mem_cons, List.not_mem_nil, or_false] at hu
  rcases hu with rfl | rfl | rfl | rfl | rfl | rfl | rfl <;> rfl
theorem owns_slice {w : World} {base n size : Nat} {e : TypeId} {v : Value} {xs : List Value} (h : w.ownsRow base e size v n xs) : ∃ A c, v = .slice A n c := by
  rcases h.2 with ⟨rfl, rfl⟩ | ⟨g, cap, cur, rfl, _⟩
  · exact ⟨none, 0, rfl⟩
  · exact ⟨_, cap, rfl⟩
theorem owns_below {w w' : World} {base n size : Nat} {e : TypeId} {v : Value} {xs : List Value} (h : w.ownsRow base e size v n xs) (hb : Below w.heap.size w w') : w'.ownsRow base e size v n xs :=
  h.kept (row := none) ⟨hb.os, hb.tape, hb.output, hb.size, fun k hk _ => hb.block k hk⟩ (by cases v.ownBlock <;> simp)

set_option maxRecDepth 100000 in
set_option maxHeartbeats 4000000 in
theorem law11 {w : World} {A A0 : Option Addr} {n c n2 c2 : Nat} {fs : List Fd} {rows : List (List Dt)} {Ar : Nat → Option Addr} {cc : Nat → Nat} (hF : InF w A n c fs) (hR : RowsAt w w.heap.size A0 n2 c2 rows Ar cc) (hfit : RowsFit n2 rows) :
    Calls Tryz.prog 11 #[.slice A n c, .slice A0 n2 c2] w fun e w' => e = .returned (.bool true) ∧ Below w.heap.size w w' := by
  obtain ⟨s1, s2, s3⟩ := small_len hF.len.2
  obtain ⟨s4, s5, s6⟩ := small_len hfit.n
  have hbw := below2 w (.cells #[.string ⟨#[120]⟩, .int .i64 2, .int .i64 0, .slice A n c] 41) (.cells #[.bool false, .int .i64 0, .string .empty, .slice none 0 0] 43)
  have hrow1 := rowB_1 w #[.string ⟨#[120]⟩, .int .i64 2, .int .i64 0, .slice A n c] 41 (.cells #[.bool false, .int .i64 0, .string .empty, .slice none 0 0] 43)
  have hrow2 := rowB_2 w #[.bool false, .int .i64 0, .string .empty, .slice none 0 0] 43 (.cells #[.string ⟨#[120]⟩, .int .i64 2, .int .i64 0, .slice A n c] 41)
  obtain ⟨i43, j1, j2, j3, j4⟩ := info_parts info43
  have J1 := Lib.hid j1
  have J2 := Lib.hid j2
  have J3 := Lib.hid j3
  have J4 := Lib.hid j4
  have HF := Lib.hid hF
  have HRA := Lib.hid hR
  have HFIT := Lib.hid hfit
  have HR1 := Lib.hid hrow1
  have HR2 := Lib.hid hrow2
  have HBW := Lib.hid hbw
  have hn2 := hfit.n
  have hlen := hR.len
  clear hF hR hfit hrow1 hrow2 hbw j1 j2 j3 j4
  go_enter Tryz.func11, Tryz.ntmps11
  go_wp2_with fail
  go_loopw [29] (fun i wr => ∃ (j : Nat) (v : Value), j ≤ n2 ∧ i = .int .i64 j ∧ RowB wr w.heap.size 41 #[.string ⟨#[120]⟩, .int .i64 2, .int .i64 0, .slice A n c] ∧ RowB wr (w.heap.size + 1) 43 #[.bool false, .int .i64 0, .string .empty, v] ∧
    wr.ownsRow (w.heap.size + 2) 43 4 v j (itemsFlat Ar cc rows j) ∧ Below w.heap.size w wr ∧ w.heap.size + 2 ≤ wr.heap.size ∧ (∀ k row, k < j → rows[k]? = some row → isRow fs row = true)) (fun i _ => n2 - (intOf i).toNat)
  case atStart => exact ⟨0, _, Nat.zero_le _, rfl, HR1.out, HR2.out, World.ownsRow_nil _ _ _ _, HBW.out, by simp only [size_alloc1]; omega, fun k row h => by omega⟩
  case round =>
    obtain ⟨j, v, hj, rfl, hr0, hr1, hown, hb5, hsz5, hall⟩ := hrel
    obtain ⟨Av, cv, rfl⟩ := owns_slice hown
    have X0 := Lib.hid hr0
    have X1 := Lib.hid hr1
    have HOWN := Lib.hid hown
    have HB5 := Lib.hid hb5
    have HALL := Lib.hid hall
    clear hr0 hr1 hown hall
    by_cases hlt : j < n2
    · obtain ⟨row, hrow⟩ : ∃ row, rows[j]? = some row := ⟨_, List.getElem?_eq_getElem (by omega)⟩
      obtain ⟨b, o, rfl, hbl, hcell, _⟩ := HRA.out.at_ j row hrow
      have hc0 := (bcell hb5 hbl).trans hcell
      have hj0 : (0 : Int) ≤ (j : Int) := Int.natCast_nonneg _
      have hj1 : (j : Int) < (n2 : Int) := by omega
      have HROW := Lib.hid hrow
      have HIS := Lib.hid (isRow19 (HF.out.mono hb5) (HRA.out.inD HFIT.out hb5 hb5.size hrow))
      clear hcell hrow hb5
      by_cases hr : isRow fs row = true
      · rw [hr] at HIS
        have HT := Lib.hid hr
        clear hr
        go_wp2_with fail
        refine HIS.out.mono ?_
        rintro e w5 ⟨rfl, hb6⟩
        have hs5 : wr.heap.size ≤ w5.heap.size := hb6.size
        have m0 : w5.cell? ⟨w.heap.size + 1, 3, none⟩ = some (.slice Av j cv) := (bcell hb6 (by omega)).trans (X1.out.cell 3)
        have HB6 := Lib.hid hb6
        clear hb6
        go_wp2_with fail
        refine Til.region (m := 13) (S := (fun w' => w'.cell? ⟨w.heap.size + 1, 3, none⟩ = some (.slice Av j cv))) (by kernel_rfl) m0 (fun hHeld => ?_)
        refine Til.take (i := 0) (v := ?_) at0 (by kernel_rfl) (by kernel_rfl) (by kernel_rfl) (by kernel_rfl) (by kernel_rfl) (by kernel_rfl) (fun _ _ _ h => h) (by rfl) ?_ hHeld ?_
        rotate_left
        · intro w hSw
          try dsimp only at hSw
          go_simp
          try with_reducible rfl
        try simp only [Act.put, List.setIfInBounds_toArray, List.set_cons_zero, List.set_cons_succ]
        refine Til.take (i := 1) (v := ?_) at1 (by kernel_rfl) (by kernel_rfl) (by kernel_rfl) (by kernel_rfl) (by kernel_rfl) (by kernel_rfl) (fun _ _ _ h => h) (by rfl) ?_ hHeld ?_
        rotate_left
        · intro w hSw
          try dsimp only at hSw
          go_simp
          try with_reducible rfl
        try simp only [Act.put, List.setIfInBounds_toArray, List.set_cons_zero, List.set_cons_succ]
        refine Til.take (i := 2) (v := ?_) at2 (by kernel_rfl) (by kernel_rfl) (by kernel_rfl) (by kernel_rfl) (by kernel_rfl) (by kernel_rfl) (fun _ _ _ h => h) (by rfl) ?_ hHeld ?_
        rotate_left
        · intro w hSw
          try dsimp only at hSw
          go_simp
          try with_reducible rfl
        try simp only [Act.put, List.setIfInBounds_toArray, List.set_cons_zero, List.set_cons_succ]
        refine Til.take (i := 3) (v := ?_) at3 (by kernel_rfl) (by kernel_rfl) (by kernel_rfl) (by kernel_rfl) (by kernel_rfl) (by kernel_rfl) (fun _ _ _ h => h) (by rfl) ?_ hHeld ?_
        rotate_left
        · intro w hSw
          try dsimp only at hSw
          go_simp
          try with_reducible rfl
        try simp only [Act.put, List.setIfInBounds_toArray, List.set_cons_zero, List.set_cons_succ]
        refine Til.take (i := 4) (v := ?_) at4 (by kernel_rfl) (by kernel_rfl) (by kernel_rfl) (by kernel_rfl) (by kernel_rfl) (by kernel_rfl) (fun _ _ _ h => h) (by rfl) ?_ hHeld ?_
        rotate_left
        · intro w hSw
          try dsimp only at hSw
          go_simp
          try with_reducible rfl
        try simp only [Act.put, List.setIfInBounds_toArray, List.set_cons_zero, List.set_cons_succ]
        refine Til.take (i := 5) (v := ?_) at5 (by kernel_rfl) (by kernel_rfl) (by kernel_rfl) (by kernel_rfl) (by kernel_rfl) (by kernel_rfl) (fun _ _ _ h => h) (by rfl) ?_ hHeld ?_
        rotate_left
        · intro w hSw
          try dsimp only at hSw
          go_simp
          try with_reducible rfl
        try simp only [Act.put, List.setIfInBounds_toArray, List.set_cons_zero, List.set_cons_succ]
        refine Til.take (i := 6) (v := ?_) at6 (by kernel_rfl) (by kernel_rfl) (by kernel_rfl) (by kernel_rfl) (by kernel_rfl) (by kernel_rfl) (fun _ _ _ h => h) (by rfl) ?_ hHeld ?_
        rotate_left
        · intro w hSw
          try dsimp only at hSw
          go_simp
          try with_reducible rfl
        try simp only [Act.put, List.setIfInBounds_toArray, List.set_cons_zero, List.set_cons_succ]
        refine Til.step (i := 7) (by kernel_rfl) at7 (fun K' hK => ?_)
        go_simp
        have m1 : (w5.drew.alloc (.cells #[.bool false, .int .i64 0, .string .empty, .slice none 0 0] 43)).cell? ⟨w.heap.size + 1, 3, none⟩ = some (.slice Av j cv) := (cold (w := w5.drew) (by show _ < w5.heap.size; omega)).trans m0
        refine hK.out _ _ (.inr m1) (fun _ => ?_)
        clear hK K'
        replace hHeld := m1
        try simp only [Act.put, List.setIfInBounds_toArray, List.set_cons_zero, List.set_cons_succ]
        refine Til.step (i := 8) (by kernel_rfl) at8 (fun K' hK => ?_)
        have HOWN6 := Lib.hid ((owns_below HOWN.out HB6.out).drew.alloc (.cells #[.bool false, .int .i64 0, .string .empty, .slice none 0 0] 43))
        have hs2 : ∀ o : Obj, w.heap.size + 2 ≤ (w5.drew.alloc o).heap.size := fun o => by rw [size_alloc1]; show _ ≤ w5.heap.size + 1; omega
        refine step_append_lies _ (by rfl) _ _ 23 (by rfl) (w.heap.size + 2) 43 i43 _ 4 56 Tryz.underlying23 J1.out J2.out J3.out J4.out rfl (by decide) (.slice Av j cv) j (itemsFlat Ar cc rows j) (by rfl) HOWN6.out ⟨w5.heap.size, 0, none⟩ 1 1 [.bool false, .int .i64 0, .string .empty, .slice none 0 0] (by rfl) rfl (World.news_of_block (heap_alloc_new w5.drew _)) (by simp [Value.oneCell']) (by decide) (by simp only [maxLen]; omega) (by omega) (hs2 _) _ rfl ?_
        intro g cap w7 hown7 hgrow hat7 hlt7
        have hblk : ∀ b, b < w.heap.size + 2 → w7.heap[b]? = wr.heap[b]? := fun b h1 => (hgrow.block b (Nat.lt_of_lt_of_le h1 (hs2 _)) (fun he => by have := HOWN.out.lt b he.symm; omega)).trans ((Below.heap_alloc w5.drew _ _ (by show _ < w5.heap.size; omega)).trans (HB6.out.block b (by omega)))
        have m2 : w7.cell? ⟨w.heap.size + 1, 3, none⟩ = some (.slice Av j cv) := (World.cell?_of_block (a := ⟨w.heap.size + 1, 3, none⟩) (hblk (w.heap.size + 1) (by omega))).trans (X1.out.cell 3)
        have hgb := hown7.lt g rfl
        have hjj : (j : Int) < (j : Int) + 1 := by omega
        refine hK.out _ _ (.inr m2) (fun _ => ?_)
        clear hK K'
        replace hHeld := m2
        try simp only [Act.put, List.setIfInBounds_toArray, List.set_cons_zero, List.set_cons_succ]
        refine Til.pure (i := 9) (v := ?_) at9 (by kernel_rfl) (by kernel_rfl) (by kernel_rfl) (by kernel_rfl) (fun _ _ _ h => h) (by rfl) ?_ (.inr hHeld) ?_
        rotate_left
        · intro w
          go_simp
          try with_reducible rfl
        try simp only [Act.put, List.setIfInBounds_toArray, List.set_cons_zero, List.set_cons_succ]
        refine Til.pure (i := 11) (v := ?_) at11 (by kernel_rfl) (by kernel_rfl) (by kernel_rfl) (by kernel_rfl) (fun _ _ _ h => h) (by rfl) ?_ (.inr hHeld) ?_
        rotate_left
        · intro w
          go_simp
          try with_reducible rfl
        try simp only [Act.put, List.setIfInBounds_toArray, List.set_cons_zero, List.set_cons_succ]
        refine Til.pure (i := 12) (v := ?_) at12 (by kernel_rfl) (by kernel_rfl) (by kernel_rfl) (by kernel_rfl) (fun _ _ _ h => h) (by rfl) ?_ (.inr hHeld) ?_
        rotate_left
        · intro w
          go_simp
          try with_reducible rfl
        try simp only [Act.put, List.setIfInBounds_toArray, List.set_cons_zero, List.set_cons_succ]
        have hfg : ∀ k, w7.frozen? ⟨g, k, none⟩ = false := fun k => hown7.frozenAt k
        have hfd : w7.frozen? ⟨w.heap.size + 1, 3, none⟩ = false := (World.frozen?_of_block (a := ⟨w.heap.size + 1, 3, none⟩) (hblk (w.heap.size + 1) (by omega))).trans (X1.out.free 3)
        have hxl := itemsFlat_len Ar cc rows j
        obtain ⟨c0, c1, c2', c3⟩ := four_at hown7 hxl
        have hown8 : (w7.setCell ⟨w.heap.size + 1, 3, none⟩ (.slice (some ⟨g, 0, none⟩) (j + 1) cap)).ownsRow (w.heap.size + 2) 43 4 (.slice (some ⟨g, 0, none⟩) (j + 1) cap) (j + 1) (itemsFlat Ar cc rows j ++ [.bool false, .int .i64 0, .string .empty, .slice none 0 0]) :=
          hown7.kept (row := some (w.heap.size + 1)) ⟨rfl, rfl, rfl, by rw [setCell_size]; exact Nat.le_refl _, fun k _ hne => setCell_other _ _ _ fun he => hne (by rw [he])⟩ (.inr fun he => by
            have h1 : g = w.heap.size + 1 := by simpa [Value.ownBlock] using he
            omega)
        obtain ⟨e0, e1, e2, e3⟩ := four_at hown8 hxl
        have hfg8 : ∀ k, (w7.setCell ⟨w.heap.size + 1, 3, none⟩ (.slice (some ⟨g, 0, none⟩) (j + 1) cap)).frozen? ⟨g, k, none⟩ = false := fun k => hown8.frozenAt k
        have HO7 := Lib.hid hown7
        have HO8 := Lib.hid hown8
        have HGR := Lib.hid hgrow
        clear hown7 hown8 hgrow
        have hget : rows.getD j [] = row := by simp [List.getD, HROW.out]
        have hflat1 : itemsFlat Ar cc rows (j + 1) = itemsFlat Ar cc rows j ++ [.bool false, .int .i64 0, .string .empty, .slice (Ar j) row.length (cc j)] := by rw [itemsFlat, hget]
        have hX0 : RowB w7 w.heap.size 41 #[.string ⟨#[120]⟩, .int .i64 2, .int .i64 0, .slice A n c] := X0.out.of_eq (hblk _ (by omega))
        have hX1 : RowB w7 (w.heap.size + 1) 43 #[.bool false, .int .i64 0, .string .empty, .slice Av j cv] := X1.out.of_eq (hblk _ (by omega))
        have hB7 : Below w.heap.size w w7 := ⟨HGR.out.os.trans (HB6.out.os.trans HB5.out.os), HGR.out.tape.trans (HB6.out.tape.trans HB5.out.tape), HGR.out.output.trans (HB6.out.output.trans HB5.out.output), by omega, fun b hb => (hblk b (by omega)).trans (HB5.out.block b hb)⟩
        have hall' : ∀ k r, k < j + 1 → rows[k]? = some r → isRow fs r = true := fun k r hk hr => by
          rcases Nat.lt_or_ge k j with h | h
          · exact HALL.out k r h hr
          · obtain rfl : k = j := by omega
            rw [HROW.out] at hr
            injection hr with hr
            subst hr
            exact HT.out
        have HX0 := Lib.hid hX0
        have HX1 := Lib.hid hX1
        have HB7 := Lib.hid hB7
        have HAL := Lib.hid hall'
        have HFL := Lib.hid hflat1
        clear hX0 hX1 hB7 hall' hflat1 hget
        refine Til.two (i := 10) (k := 13) (by kernel_rfl) at10 at13 (fun K' hK => ?_) (fun K' hK => ?_)
        · go_simp
          have m3 : ((((w7.setCell ⟨g, j * 4, none⟩ (.bool false)).setCell ⟨g, j * 4 + 1, none⟩ (.int .i64 0)).setCell ⟨g, j * 4 + 2, none⟩ (.string .empty)).setCell ⟨g, j * 4 + 3, none⟩ (.slice (Ar j) row.length (cc j))).cell? ⟨w.heap.size + 1, 3, none⟩ = some (.slice Av j cv) := (World.cell?_of_block (a := ⟨w.heap.size + 1, 3, none⟩) (four_other (show w.heap.size + 1 ≠ g by omega) _ _ _ _)).trans m2
          have m4 : ((((w7.setCell ⟨g, j * 4, none⟩ (.bool false)).setCell ⟨g, j * 4 + 1, none⟩ (.int .i64 0)).setCell ⟨g, j * 4 + 2, none⟩ (.string .empty)).setCell ⟨g, j * 4 + 3, none⟩ (.slice (Ar j) row.length (cc j))).frozen? ⟨w.heap.size + 1, 3, none⟩ = false := (World.frozen?_of_block (a := ⟨w.heap.size + 1, 3, none⟩) (four_other (show w.heap.size + 1 ≠ g by omega) _ _ _ _)).trans hfd
          refine hK.out _ _ (.inr m3) (fun _ => ?_)
          clear hK K'
          try simp only [Act.put, List.setIfInBounds_toArray, List.set_cons_zero, List.set_cons_succ]
          refine Til.step (i := 13) (by kernel_rfl) at13 (fun K' hK => ?_)
          go_simp
          refine hK.out _ _ (.inl (by kernel_rfl)) (fun _ => ?_)
          clear hK K'
          try simp only [Act.put, List.setIfInBounds_toArray, List.set_cons_zero, List.set_cons_succ]
          refine Til.done (by kernel_rfl) ?_ _
          go_wp2_with fail
          refine ⟨⟨j + 1, .slice (some ⟨g, 0, none⟩) (j + 1) cap, by omega, by go_num, ?_, ?_, ?_, ?_, ?_, ?_⟩, by simp [intOf]; omega⟩
          · exact (HX0.out.of_eq (four_other (show w.heap.size ≠ g by omega) _ _ _ _)).of_eq (setCell_other _ _ _ (show w.heap.size ≠ w.heap.size + 1 by omega))
          · exact (HX1.out.of_eq (four_other (show w.heap.size + 1 ≠ g by omega) _ _ _ _)).set 3 _
          · rw [HFL.out]
            exact ownsRow_setCell_other (a := ⟨w.heap.size + 1, 3, none⟩) (stored4 HO7.out hxl _ _ _ _) (show (some g) ≠ some (w.heap.size + 1) from fun he => by injection he; omega) _
          · exact below_setCell (below_four HB7.out (show w.heap.size ≤ g by omega) _ _ _ _) (show w.heap.size ≤ w.heap.size + 1 by omega) _
          · simp only [setCell_size]; omega
          · exact HAL.out
        · go_simp
          refine hK.out _ _ (.inl (by kernel_rfl)) (fun _ => ?_)
          clear hK K'
          try simp only [Act.put, List.setIfInBounds_toArray, List.set_cons_zero, List.set_cons_succ]
          refine Til.step (i := 10) (by kernel_rfl) at10 (fun K' hK => ?_)
          go_simp
          refine hK.out _ _ (.inl (by kernel_rfl)) (fun _ => ?_)
          clear hK K'
          try simp only [Act.put, List.setIfInBounds_toArray, List.set_cons_zero, List.set_cons_succ]
          refine Til.done (by kernel_rfl) ?_ _
          go_wp2_with fail
          refine ⟨⟨j + 1, .slice (some ⟨g, 0, none⟩) (j + 1) cap, by omega, by go_num, ?_, ?_, ?_, ?_, ?_, ?_⟩, by simp [intOf]; omega⟩
          · exact (HX0.out.of_eq (setCell_other _ _ _ (show w.heap.size ≠ w.heap.size + 1 by omega))).of_eq (four_other (show w.heap.size ≠ g by omega) _ _ _ _)
          · exact (HX1.out.set 3 _).of_eq (four_other (show w.heap.size + 1 ≠ g by omega) _ _ _ _)
          · rw [HFL.out]
            exact stored4 HO8.out hxl _ _ _ _
          · exact below_four (below_setCell HB7.out (show w.heap.size ≤ w.heap.size + 1 by omega) _) (show w.heap.size ≤ g by omega) _ _ _ _
          · simp only [setCell_size]; omega
          · exact HAL.out
      · have hr' : isRow fs row = false := by simpa using hr
        rw [hr'] at HIS
        clear hr hr'
        go_wp2_with fail
        refine HIS.out.mono ?_
        rintro e w5 ⟨rfl, hb6⟩
        have HB6 := Lib.hid (HB5.out.trans (hb6.mono HB5.out.size))
        clear hb6
        go_wp2_with fail
        refine (works20 w5).mono ?_
        rintro e w6 ⟨rfl, hb7⟩
        have HB7 := Lib.hid (HB6.out.trans (hb7.mono HB6.out.size))
        clear hb7
        go_wp2_with fail
        go_ret
        exact ⟨rfl, HB7.out⟩
    · obtain rfl : j = n2 := by omega
      clear hb5
      have hrows := HRA.out.len.1
      by_cases h0 : j = 0
      · subst h0
        go_wp2_with fail
        refine (works20 wr).mono ?_
        rintro e w6 ⟨rfl, hb7⟩
        have HB7 := Lib.hid (HB5.out.trans (hb7.mono HB5.out.size))
        clear hb7
        go_wp2_with fail
        go_ret
        exact ⟨rfl, HB7.out⟩
      · have hj0 : ¬ (j : Int) = 0 := by omega
        obtain ⟨A', c', hv, hdt⟩ := items_at HRA.out HB5.out HB5.out.size HOWN.out
        obtain ⟨rfl, _, rfl⟩ : Av = A' ∧ j = j ∧ cv = c' := by simpa using hv
        obtain ⟨row0, hrow0⟩ : ∃ row, rows[0]? = some row := ⟨_, List.getElem?_eq_getElem (by omega)⟩
        have hsz := (rowFacts (HALL.out 0 row0 (by omega) hrow0) (HFIT.out.nf _ (List.mem_of_getElem? hrow0))).size
        have HNE := Lib.hid (rowFacts (HALL.out 0 row0 (by omega) hrow0) (HFIT.out.nf _ (List.mem_of_getElem? hrow0))).ne
        have HRF : Hid (∀ k row, rows[k]? = some row → RowFacts fs row) := Lib.hid fun k row hk => rowFacts (HALL.out k row (by have := (List.getElem?_eq_some_iff.1 hk).1; omega) hk) (HFIT.out.nf _ (List.mem_of_getElem? hk))
        have HFG := Lib.hid (inF_gr (way := 2) (HF.out.mono HB5.out) hsz X0.out)
        have hdata : DtsAt wr wr.heap.size (some ⟨w.heap.size + 1, 0, none⟩) 1 1 [.mk false 0 .empty (rows.map rowDt)] := by
          refine .mk _ 0 1 1 _ (fun _ => Av) (fun _ => cv) X1.out.lt rfl (Nat.le_refl _) (fun k d hk => ?_) (fun k d hk => ?_)
          · cases k with
            | zero => simp at hk; subst hk; exact ⟨X1.out.cell 0, X1.out.cell 1, X1.out.cell 2, by show wr.cell? ⟨w.heap.size + 1, 3, none⟩ = some (.slice Av (rows.map rowDt).length cv); rw [List.length_map, hrows]; exact X1.out.cell 3⟩
            | succ k => simp at hk
          · cases k with
            | zero => simp at hk; subst hk; show DtsAt wr _ Av (rows.map rowDt).length cv (rows.map rowDt); rw [List.length_map, hrows]; exact hdt
            | succ k => simp at hk
        have HDG := Lib.hid hdata
        have HIS := Lib.hid (isRow_any [gr 2 fs] [.mk false 0 .empty (rows.map rowDt)] _ 1 1 _ 1 1 wr (by have := HFG.out.sz; omega) HFG.out.at_ HFG.out.nm HDG.out (rowsTexts HFIT.out hrows) (by omega))
        have HFS : Hid (fdsSize fs ≤ 300) := Lib.hid hsz
        clear hv hdt hdata hrow0 hsz
        by_cases hr2 : isRow [gr 2 fs] [.mk false 0 .empty (rows.map rowDt)] = true
        · have HR3 := Lib.hid (rowFacts hr2 (rowsNums HFIT.out))
          rw [hr2] at HIS
          have hne : rows ≠ [] := fun he => by rw [he] at hrows; simp at hrows; omega
          have HRC := Lib.hid (rowCells_repeated HNE.out rows hne)
          have hpl := HR3.out.plen
          rw [HRC.out] at hpl
          have HPL := Lib.hid hpl
          clear hpl
          clear hr2 hne
          go_wp2_with fail
          refine HIS.out.mono ?_
          rintro e w1 ⟨rfl, hb1⟩
          have HFG1 := Lib.hid (HFG.out.mono hb1)
          have HDG1 := Lib.hid (HDG.out.mono hb1 hb1.size)
          have HB1 := Lib.hid (HB5.out.trans (hb1.mono HB5.out.size))
          clear hb1
          go_wp2_with fail
          refine (leaves_all 1000000000 (Nat.le_refl _) fs A n c w1 (by have := HFS.out; omega) (HF.out.mono HB1.out).at_).mono ?_
          rintro e w2 ⟨rfl, hb2⟩
          have HFG2 := Lib.hid (HFG1.out.mono hb2)
          have HDG2 := Lib.hid (HDG1.out.mono hb2 hb2.size)
          have HB2 := Lib.hid (HB1.out.trans (hb2.mono HB1.out.size))
          clear hb2
          go_wp2_with fail
          obtain ⟨i39, q1, q2, q3, q4⟩ := info_parts info39
          have Q1 := Lib.hid q1
          have Q2 := Lib.hid q2
          have Q3 := Lib.hid q3
          have Q4 := Lib.hid q4
          clear q1 q2 q3 q4
          go_loopw [9, 63] (fun v i wq => ∃ (k : Nat), k ≤ leaves fs ∧ i = .int .i64 k ∧ wq.ownsRow w2.heap.size 39 7 v (parts (fun c => ownsFrom fs c 0 rows) k).length (clFlat (parts (fun c => ownsFrom fs c 0 rows) k)) ∧ Below w2.heap.size w2 wq) (fun _ i _ => leaves fs - (intOf i).toNat)
          case atStart => exact ⟨0, Nat.zero_le _, rfl, World.ownsRow_nil _ _ _ _, Below.refl _ _⟩
          case round =>
            obtain ⟨k, hk, rfl, hownk, hbk⟩ := hrel
            have HOK := Lib.hid hownk
            have HBK := Lib.hid hbk
            clear hownk hbk
            by_cases hltk : k < leaves fs
            · have hk0 : (0 : Int) ≤ (k : Int) := Int.natCast_nonneg _
              have hk1 : (k : Int) < (leaves fs : Int) := by omega
              have hlv : leaves fs ≤ 300 := by have := leaves_le fs; have := HFS.out; omega
              go_wp2_with fail
              go_loopw [9, 68] (fun v i wq => ∃ (l : Nat), l ≤ j ∧ i = .int .i64 l ∧ wq.ownsRow w2.heap.size 39 7 v (parts (fun c => ownsFrom fs c 0 rows) k ++ ownsFrom fs k 0 (rows.take l)).length (clFlat (parts (fun c => ownsFrom fs c 0 rows) k ++ ownsFrom fs k 0 (rows.take l))) ∧ Below w2.heap.size w2 wq) (fun _ i _ => j - (intOf i).toNat)
              case atStart => exact ⟨0, Nat.zero_le _, rfl, by simpa [ownsFrom] using HOK.out, HBK.out⟩
              case round =>
                obtain ⟨l, hl, rfl, hownl, hbl⟩ := hrel
                have HOL := Lib.hid hownl
                have HBL := Lib.hid hbl
                have HBW := Lib.hid (HB2.out.trans (hbl.mono HB2.out.size))
                clear hownl hbl
                by_cases hltl : l < j
                · obtain ⟨row, hrow⟩ : ∃ row, rows[l]? = some row := ⟨_, List.getElem?_eq_getElem (by omega)⟩
                  obtain ⟨b, o, rfl, hbb, hcell, _⟩ := HRA.out.at_ l row hrow
                  have hc0 := (bcell HBW.out hbb).trans hcell
                  have HROW := Lib.hid hrow
                  have HRFL := Lib.hid (HRF.out l row hrow)
                  have hl0 : (0 : Int) ≤ (l : Int) := Int.natCast_nonneg _
                  have hl1 : (l : Int) < (j : Int) := by omega
                  clear hcell hrow
                  go_wp2_with fail
                  refine (decon21 fs row A n c (Ar l) row.length (cc l) _ (HF.out.mono HBW.out).at_ (HRA.out.inD HFIT.out HBW.out HBW.out.size HROW.out).at_ HRFL.out).mono ?_
                  rintro e w3 ⟨A4, c4, rfl, hc4, hb3⟩
                  have HC4 := Lib.hid hc4
                  have HB3 := Lib.hid hb3
                  clear hc4 hb3
                  go_wp2_with fail
                  have hpl1 := HRFL.out.plen
                  refine (between27 (rowCells fs row) A4 _ c4 k (k + 1) w3 HC4.out hpl1).mono ?_
                  rintro e w4 ⟨A5, c5, rfl, hc5, hb4⟩
                  have HC5 := Lib.hid hc5
                  have HB4 := Lib.hid (HB3.out.trans (hb4.mono HB3.out.size))
                  have hbl5 : (btw k (k + 1) (rowCells fs row)).length ≤ 1000000000 := Nat.le_trans (List.length_filter_le _ _) hpl1
                  clear hc5 hb4
                  go_wp2_with fail
                  refine (moved26o (btw k (k + 1) (rowCells fs row)) A5 _ c5 0 1 1 w4 HC5.out hbl5 (fun x hx => HRFL.out.small x (List.mem_filter.1 hx).1) (by decide) (by decide) (by decide)).mono ?_
                  rintro e w6 ⟨v6, rfl, hown6, hb6⟩
                  have HB6 := Lib.hid (HB4.out.trans (hb6.mono HB4.out.size))
                  have hsz4 := HB4.out.size
                  clear hb6
                  obtain ⟨L, hL, hLn⟩ : ∃ L, L = (btw k (k + 1) (rowCells fs row)).map (mv 0 1 1) ∧ L.length = (btw k (k + 1) (rowCells fs row)).length := ⟨_, rfl, by rw [List.length_map]⟩
                  have hown : ownOf l fs k row = setRep ((min l 1 : Nat) : Int) L := by rw [hL]; unfold ownOf; push_cast; rfl
                  have hLne : L ≠ [] := fun he => ownOf_ne hltk row l (by rw [hown, he]; rfl)
                  rw [← hL, ← hLn] at hown6
                  have hLp : 0 < L.length := List.length_pos_iff.2 hLne
                  obtain ⟨g6, c6, rfl, hg6, hg6'⟩ := hown6.form hLp
                  rw [← hLn] at hbl5
                  clear hL hLn hLne
                  obtain ⟨x6, t6, rfl⟩ : ∃ x t, L = x :: t := by cases L with | nil => simp at hLp | cons x t => exact ⟨x, t, rfl⟩
                  have y1 : w6.cell? ⟨g6, 1, none⟩ = some (.int .i64 x6.rep) := hown6.cellAt 1 (by simp only [List.length_cons]; omega)
                  have y2 := hown6.frozenAt 1
                  have hi0 : (0 : Int) < ((x6 :: t6).length : Int) := by omega
                  have HO6 := Lib.hid hown6
                  have HOW := Lib.hid hown
                  clear hown6 hown
                  generalize hm6 : (x6 :: t6).length = m6 at *
                  have hrepI : (min (l : Int) 1) = ((min l 1 : Nat) : Int) := by omega
                  have hst := HO6.out.stored 1 (.int .i64 (min (l : Int) 1))
                  have hfl : (clFlat (x6 :: t6)).set 1 (.int .i64 (min (l : Int) 1)) = clFlat (ownOf l fs k row) := by rw [HOW.out, hrepI]; exact setRep_flat _ _ _
                  rw [hfl] at hst
                  have hq6 : Below w.heap.size w w6 := HBW.out.trans (HB6.out.mono HBW.out.size)
                  have hsz6 := HB6.out.size
                  have hszl := HBL.out.size
                  have hlo : (ownOf l fs k row).length = m6 := by rw [HOW.out, setRep_length]; exact hm6
                  have hOU := owns_below HOL.out HB6.out
                  have hltU := HOL.out.lt
                  have hOU2 := ownsRow_setCell_other (a := ⟨g6, 1, none⟩) hOU (fun he => by have h1 := (hltU g6 he).2; omega) (.int .i64 (min (l : Int) 1))
                  have hb8 : Below w2.heap.size w2 (w6.setCell ⟨g6, 1, none⟩ (.int .i64 (min (l : Int) 1))) := below_setCell (HBL.out.trans (HB6.out.mono HBL.out.size)) (show w2.heap.size ≤ g6 by omega) _
                  have hnlen : (parts (fun c => ownsFrom fs c 0 rows) k ++ ownsFrom fs k 0 (rows.take l)).length ≤ 1000000000 := by
                    have h1 := ownsFrom_le fs k rows 0 l
                    have h2 := parts_length_le (fun c => ownsFrom fs c 0 rows) (show k + 1 ≤ leaves fs from hltk)
                    have h3 := HPL.out
                    rw [parts_succ, List.length_append] at h2
                    rw [List.length_append]
                    omega
                  have HST := Lib.hid hst.1
                  have HOU2 := Lib.hid hOU2
                  have HB8 := Lib.hid hb8
                  have HFLL := Lib.hid hlo
                  have HTK := Lib.hid (ownsFrom_take (fs := fs) (c := k) HROW.out)
                  have HNL := Lib.hid hnlen
                  clear hst hfl hOU hOU2 hb8 hlo hq6 hnlen hrepI
                  go_wp2_with (at_builtin; refine wpList_append2 _ rfl _ _ 26 26 rfl w2.heap.size 39 39 i39 _ 7 64 Tryz.underlying26 Tryz.underlying26 Q1.out Q2.out Q3.out Q4.out rfl (by decide) _ _ (clFlat (parts (fun c => ownsFrom fs c 0 rows) k ++ ownsFrom fs k 0 (rows.take l))) (by rfl) HOU2.out ⟨g6, 0, none⟩ m6 c6 (clFlat (ownOf l fs k row)) (by rfl) (by rw [clFlat_length, HFLL.out]) (HST.out.cells rfl) (clFlat_one _) (by have := HNL.out; simp only [maxLen]; omega) (by have := HNL.out; omega) HB8.out.size ?_; intro v' w' hown' hgrow')
                  have hb9 : Below w2.heap.size w2 w' := HB8.out.trans (below_grownRow hgrow' HB8.out.size (fun b hb => (HOL.out.lt b hb).1))
                  go_roundw
                  case rel =>
                    refine ⟨l + 1, by omega, by go_num, ?_, hb9⟩
                    rw [HTK.out, ← List.append_assoc, clFlat_append, List.length_append, HFLL.out]
                    exact hown'
                  case measure => simp [intOf]; omega
                · obtain rfl : l = j := by omega
                  go_wp2_with fail
                  refine ⟨⟨k + 1, by omega, by go_num, ?_, HBL.out⟩, by simp [intOf]; omega⟩
                  have := HOL.out
                  rw [List.take_of_length_le (show rows.length ≤ l by omega)] at this
                  rw [parts_succ]
                  exact this
            · obtain rfl : k = leaves fs := by omega
              obtain ⟨A9, c9, rfl, hcls⟩ := clsAt_owns HOK.out rfl
              rw [← HRC.out] at hcls
              have HCLS := Lib.hid hcls
              have HFG3 := Lib.hid (HFG2.out.mono HBK.out)
              have HDG3 := Lib.hid (HDG2.out.mono HBK.out HBK.out.size)
              have HB3 := Lib.hid (HB2.out.trans (HBK.out.mono HB2.out.size))
              clear hcls
              go_wp2_with fail
              refine (both28 [gr 2 fs] [.mk false 0 .empty (rows.map rowDt)] _ 1 1 _ 1 1 A9 _ c9 wr HFG3.out.at_ HDG3.out (by have := HCLS.out; rw [HRC.out] at this ⊢; exact this) HR3.out (rowsNums HFIT.out) (sh_texts _ (rowsTexts HFIT.out hrows))).mono ?_
              rintro e w4 ⟨rfl, hb4⟩
              have HB4 := Lib.hid (HB3.out.trans (hb4.mono HB3.out.size))
              clear hb4
              go_wp2_with fail
              go_ret
              exact ⟨rfl, HB4.out⟩
        · have hr3 : isRow [gr 2 fs] [.mk false 0 .empty (rows.map rowDt)] = false := by simpa using hr2
          rw [hr3] at HIS
          clear hr2 hr3
          go_wp2_with fail
          refine HIS.out.mono ?_
          rintro e w1 ⟨rfl, hb1⟩
          have HB1 := Lib.hid (HB5.out.trans (hb1.mono HB5.out.size))
          clear hb1
          go_wp2_with fail
          refine (works20 w1).mono ?_
          rintro e w2 ⟨rfl, hb2⟩
          have HB2 := Lib.hid (HB1.out.trans (hb2.mono HB1.out.size))
          clear hb2
          go_wp2_with fail
          go_ret
          exact ⟨rfl, HB2.out⟩
end Go.Proofs.YtglgclkgppomiaaGreat
