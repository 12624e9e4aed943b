/- Plain laws: the cells of a row of fields in a group that stands once, may be missing, or stands often; the first cell of each column; a field alone. Plain laws: a field alone has the cells that it has among others; rows in a group that stands often. The walks of spec.Moved and spec.Between. As moved26: whose the cells are that spec.Moved hands back. -/
import Derived.Test.YtglgclkgppomiaaGreatZ15
set_option linter.unusedVariables false
set_option linter.unusedSimpArgs false
namespace Go.Proofs.YtglgclkgppomiaaGreat
open Go Go.RowKit

/-- A cell moved. -/
def mv (a b c : Int) (x : Cl) : Cl := ⟨x.col + a, x.rep + b, x.de + c, x.null, x.kind, x.num, x.text⟩
theorem nones_mv (n col rep de a b c : Nat) : nonesOf n (col + a) (rep + b) (de + c) = (nonesOf n col rep de).map (mv a b c) := by
  unfold nonesOf
  rw [List.map_map]
  apply List.map_congr_left
  intro i _
  simp only [Function.comp_def, mv, Cl.mk.injEq, and_true]
  omega
def MvOnce (f : Fd) : Prop := ∀ (d : Dt) (col dep rep de a b c : Nat), shOnce f d (col + a) (dep + b) (rep + b) (de + c) = (shOnce f d col dep rep de).map (mv a b c)
theorem shField_mv {f : Fd} (h : MvOnce f) (d : Dt) (col dep rep de a b c : Nat) :
    shField f.way (leavesOf f) (fun d col dep rep de => shOnce f d col dep rep de) d (col + a) (dep + b) (rep + b) (de + c) = (shField f.way (leavesOf f) (fun d col dep rep de => shOnce f d col dep rep de) d col dep rep de).map (mv a b c) := by
  unfold shField
  split
  · split
    · exact nones_mv _ _ _ _ _ _ _
    · rw [show de + c + 1 = de + 1 + c by omega]; exact h d col dep rep (de + 1) a b c
  · split
    · cases d.items with
      | nil => exact nones_mv _ _ _ _ _ _ _
      | cons x xs =>
        show shOnce f x (col + a) (dep + b + 1) (rep + b) (de + c + 1) ++ (xs.map fun y => shOnce f y (col + a) (dep + b + 1) (dep + b + 1) (de + c + 1)).flatten = (shOnce f x col (dep + 1) rep (de + 1) ++ (xs.map fun y => shOnce f y col (dep + 1) (dep + 1) (de + 1)).flatten).map (mv a b c)
        rw [show dep + b + 1 = dep + 1 + b by omega, show de + c + 1 = de + 1 + c by omega, List.map_append, h, List.map_flatten, List.map_map]
        congr 2
        apply List.map_congr_left
        intro y _
        exact h y col (dep + 1) (dep + 1) (de + 1) a b c
    · exact h d col dep rep de a b c
theorem shFields_mvs : ∀ (fs : List Fd) (_ : ∀ f ∈ fs, MvOnce f) (ds : List Dt) (col dep rep de a b c : Nat), shFields fs ds (col + a) (dep + b) (rep + b) (de + c) = (shFields fs ds col dep rep de).map (mv a b c)
  | [], _, ds, col, dep, rep, de, a, b, c => by simp [shFields]
  | f :: r, h, ds, col, dep, rep, de, a, b, c => by
    simp only [shFields, List.map_append]
    rw [shField_mv (h f List.mem_cons_self), show col + a + leavesOf f = col + leavesOf f + a by omega, shFields_mvs r (fun g hg => h g (List.mem_cons_of_mem _ hg))]
theorem shOnce_kl {f : Fd} (hk : f.kids = []) (d : Dt) (col dep rep de : Nat) : shOnce f d col dep rep de = [⟨col, rep, de, false, f.kind, d.num, d.text⟩] := by
  rw [← shOnce_bare, hk]; exact shOnce_leaf _ _ _ _ _ _
theorem shOnce_kg {f : Fd} (hk : f.kids ≠ []) (d : Dt) (col dep rep de : Nat) : shOnce f d col dep rep de = shFields f.kids d.items col dep rep de := by
  rw [← shOnce_bare]; exact shOnce_group _ _ hk d col dep rep de
theorem mvOnce_all : ∀ (N : Nat) (f : Fd), fdSize f ≤ N → MvOnce f
  | 0, f, h => by have := fdSize_pos f; omega
  | N + 1, f, h => fun d col dep rep de a b c => by
    by_cases hk : f.kids = []
    · rw [shOnce_kl hk, shOnce_kl hk]
      simp [mv]
    · rw [shOnce_kg hk, shOnce_kg hk]
      refine shFields_mvs f.kids (fun g hg => ?_) d.items col dep rep de a b c
      obtain ⟨k, hk⟩ := List.mem_iff_getElem?.1 hg
      exact mvOnce_all N g (by have := fdsSize_get _ _ _ hk; have := fdSize_kids f; omega)
theorem shFields_mv (fs : List Fd) (ds : List Dt) (col dep rep de a b c : Nat) : shFields fs ds (col + a) (dep + b) (rep + b) (de + c) = (shFields fs ds col dep rep de).map (mv a b c) := shFields_mvs fs (fun f _ => mvOnce_all _ f (Nat.le_refl _)) ds col dep rep de a b c
theorem colOf_mv (L : List Cl) (a : Nat) (b c : Int) (j : Nat) : colOf (L.map (mv a b c)) (a + j) = (colOf L j).map (mv a b c) := by
  unfold colOf
  rw [List.filter_map]
  congr 1
  apply List.filter_congr
  intro x _
  show decide (x.col + (a : Int) = ((a + j : Nat) : Int)) = decide (x.col = (j : Int))
  by_cases h : x.col = (j : Int)
  · rw [decide_eq_true h, decide_eq_true (by omega)]
  · rw [decide_eq_false h, decide_eq_false (by omega)]
theorem parts_map (X : Nat → List Cl) (g : Cl → Cl) : ∀ n, parts (fun j => (X j).map g) n = (parts X n).map g
  | 0 => rfl
  | n + 1 => by rw [parts_succ, parts_succ, List.map_append, parts_map X g n]

/-! ### A group around the fields -/
/-- The group x of fields. -/
def gr (way : Int) (fs : List Fd) : Fd := .mk ⟨#[120]⟩ way 0 fs
theorem leaves_gr (way : Int) {fs : List Fd} (h : fs ≠ []) : leaves [gr way fs] = leaves fs := by
  simp only [leaves, Nat.add_zero]
  exact leavesOf_group (f := gr way fs) h
theorem shOnce_gr (way : Int) {fs : List Fd} (h : fs ≠ []) (d : Dt) (col dep rep de : Nat) : shOnce (gr way fs) d col dep rep de = shFields fs d.items col dep rep de := by
  rw [← shOnce_bare]; exact shOnce_group _ _ h d col dep rep de
theorem rowCells_group {fs : List Fd} (h : fs ≠ []) (ds : List Dt) : rowCells [gr 0 fs] [.mk false 0 .empty ds] = rowCells fs ds := by
  unfold rowCells
  rw [leaves_gr 0 h]
  congr 2
  simp only [shFields, List.append_nil, headDt]
  show shField 0 _ _ _ _ _ _ _ = _
  unfold shField
  rw [if_neg (by omega), if_neg (by omega)]
  exact shOnce_gr 0 h _ _ _ _ _
theorem rowCells_optional {fs : List Fd} (h : fs ≠ []) (ds : List Dt) : rowCells [gr 1 fs] [.mk false 0 .empty ds] = (rowCells fs ds).map (mv 0 0 1) := by
  unfold rowCells
  rw [leaves_gr 1 h, ← parts_map]
  apply parts_congr
  intro j _
  have e : shFields [gr 1 fs] [.mk false 0 .empty ds] 0 0 0 0 = (shFields fs ds 0 0 0 0).map (mv 0 0 1) := by
    have h1 := shFields_mv fs ds 0 0 0 0 0 0 1
    simp only [Nat.zero_add] at h1
    have h2 : shFields fs ds 0 0 0 1 = (shFields fs ds 0 0 0 0).map (mv 0 0 1) := h1
    rw [← h2]
    simp only [shFields, List.append_nil, headDt]
    show shField 1 _ _ _ _ _ _ _ = _
    unfold shField
    rw [if_pos rfl]
    simp only [Dt.none, Bool.false_eq_true, if_false]
    exact shOnce_gr 1 h _ _ _ _ _
  rw [e]
  have := colOf_mv (shFields fs ds 0 0 0 0) 0 0 1 j
  simpa using this
theorem rowCells_missing {fs : List Fd} (h : fs ≠ []) : rowCells [gr 1 fs] [.mk true 0 .empty []] = (List.range (leaves fs)).map fun (c : Nat) => (⟨(c : Int), 0, 0, true, 0, 0, .empty⟩ : Cl) := by
  unfold rowCells
  rw [leaves_gr 1 h]
  have e : shFields [gr 1 fs] [.mk true 0 .empty []] 0 0 0 0 = nonesOf (leaves fs) 0 0 0 := by
    have hl : leavesOf (gr 1 fs) = leaves fs := leavesOf_group (f := gr 1 fs) h
    simp only [shFields, List.append_nil, headDt]
    show shField 1 _ _ _ _ _ _ _ = _
    unfold shField
    rw [if_pos rfl]
    simp only [Dt.none, if_true]
    rw [hl]
  rw [e]
  have key : ∀ n, n ≤ leaves fs → parts (colOf (nonesOf (leaves fs) 0 0 0)) n = (List.range n).map fun (c : Nat) => (⟨(c : Int), 0, 0, true, 0, 0, .empty⟩ : Cl) := by
    intro n
    induction n with
    | zero => intro _; rfl
    | succ n ih =>
      intro hn
      have hc := colOf_nones (leaves fs) 0 0 0 n (by omega)
      simp only [Nat.zero_add] at hc
      rw [parts_succ, ih (by omega), hc, List.range_succ, List.map_append]
      rfl
  exact key _ (Nat.le_refl _)

/-! ### The first cell of each column -/
/-- What FnRowsFirst looks at, from a column on. -/
def firstOk : Int → List Cl → Int → Prop
  | last, [], l => last = l
  | last, x :: r, l => (x.rep = 0 ↔ x.col = last + 1) ∧ (x.col = last ∨ x.col = last + 1) ∧ firstOk x.col r l
theorem firstOk_append : ∀ (L M : List Cl) (a b c : Int), firstOk a L b → firstOk b M c → firstOk a (L ++ M) c
  | [], M, a, b, c, h1, h2 => by simp only [firstOk] at h1; subst h1; exact h2
  | x :: r, M, a, b, c, ⟨h1, h2, h3⟩, h4 => ⟨h1, h2, firstOk_append r M _ b c h3 h4⟩
theorem firstOk_same : ∀ (L : List Cl) (j : Int), (∀ x ∈ L, x.col = j ∧ x.rep ≠ 0) → firstOk j L j
  | [], j, _ => rfl
  | x :: r, j, h => by
    have hx := h x List.mem_cons_self
    refine ⟨⟨fun h0 => absurd h0 hx.2, fun h0 => by omega⟩, .inl hx.1, ?_⟩
    rw [hx.1]
    exact firstOk_same r j fun y hy => h y (List.mem_cons_of_mem _ hy)
theorem firstOk_row (fs : List Fd) (ds : List Dt) : firstOk (-1) (rowCells fs ds) ((leaves fs : Int) - 1) := by
  have hc := shCols fs ds 0 0 0 0
  have key : ∀ n, n ≤ leaves fs → firstOk (-1) (parts (colOf (shFields fs ds 0 0 0 0)) n) ((n : Int) - 1) := by
    intro n
    induction n with
    | zero => intro _; rfl
    | succ n ih =>
      intro hn
      rw [parts_succ]
      refine firstOk_append _ _ _ _ _ (ih (by omega)) ?_
      obtain ⟨h, t, e, hr, ht⟩ := hc.blk n (by omega)
      rw [Nat.zero_add] at e
      have hcol : ∀ x ∈ colOf (shFields fs ds 0 0 0 0) n, x.col = (n : Int) := fun x hx => by simpa [colOf] using (List.mem_filter.1 hx).2
      rw [e] at hcol ⊢
      have h1 := hcol h List.mem_cons_self
      refine ⟨⟨fun _ => by omega, fun _ => hr⟩, .inr (by omega), ?_⟩
      rw [h1]
      have := firstOk_same t (n : Int) (fun x hx => ⟨hcol x (List.mem_cons_of_mem _ hx), by have := ht x hx; omega⟩)
      rw [show ((n + 1 : Nat) : Int) - 1 = (n : Int) by omega]
      exact this
  exact key _ (Nat.le_refl _)
end Go.Proofs.YtglgclkgppomiaaGreat

namespace Go.Proofs.YtglgclkgppomiaaGreat
open Go Go.RowKit

/-- What spec.Between keeps. -/
def btw (a b : Int) (L : List Cl) : List Cl := L.filter fun x => decide (a ≤ x.col) && decide (x.col < b)
theorem btw_append (a b : Int) (L M : List Cl) : btw a b (L ++ M) = btw a b L ++ btw a b M := by simp [btw]
theorem btw_in {a b : Int} {L : List Cl} (h : ∀ x ∈ L, a ≤ x.col ∧ x.col < b) : btw a b L = L := by
  unfold btw
  rw [List.filter_eq_self]
  intro x hx
  have := h x hx
  simp [this]
theorem btw_out {a b : Int} {L : List Cl} (h : ∀ x ∈ L, x.col < a ∨ b ≤ x.col) : btw a b L = [] := by
  unfold btw
  rw [List.filter_eq_nil_iff]
  intro x hx
  have := h x hx
  simp; omega
theorem colOf_col {S : List Cl} {j : Nat} {x : Cl} (h : x ∈ colOf S j) : x.col = (j : Int) := by simpa [colOf] using (List.mem_filter.1 h).2
theorem btw_parts (S : List Cl) (a b n : Nat) (hab : a ≤ b) (hbn : b ≤ n) : btw a b (parts (colOf S) n) = parts (fun j => colOf S (a + j)) (b - a) := by
  have h1 : ∀ m, m ≤ a → btw a b (parts (colOf S) m) = [] := by
    intro m
    induction m with
    | zero => intro _; rfl
    | succ m ih =>
      intro hm
      rw [parts_succ, btw_append, ih (by omega), btw_out (fun x hx => by have := colOf_col hx; omega)]
      rfl
  have h2 : ∀ m, a + m ≤ b → btw a b (parts (colOf S) (a + m)) = parts (fun j => colOf S (a + j)) m := by
    intro m
    induction m with
    | zero => intro _; exact h1 a (Nat.le_refl _)
    | succ m ih =>
      intro hm
      rw [← Nat.add_assoc, parts_succ, btw_append, ih (by omega), btw_in (fun x hx => by have := colOf_col hx; omega), parts_succ]
  have h3 : ∀ m, btw a b (parts (colOf S) (b + m)) = btw a b (parts (colOf S) b) := by
    intro m
    induction m with
    | zero => rfl
    | succ m ih =>
      rw [← Nat.add_assoc, parts_succ, btw_append, ih, btw_out (L := colOf S (b + m)) (fun x hx => by have := colOf_col hx; omega), List.append_nil]
  have h4 := h3 (n - b)
  rw [show b + (n - b) = n by omega] at h4
  rw [h4]
  have h5 := h2 (b - a) (by omega)
  rw [show a + (b - a) = b by omega] at h5
  exact h5
theorem shFields_split : ∀ (fs : List Fd) (ds : List Dt) (k : Nat) (f : Fd) (d : Dt) (col dep rep de : Nat), fs[k]? = some f → ds[k]? = some d →
    shFields fs ds col dep rep de = shFields (fs.take k) (ds.take k) col dep rep de ++ (shField f.way (leavesOf f) (fun d col dep rep de => shOnce f d col dep rep de) d (col + leaves (fs.take k)) dep rep de ++
      shFields (fs.drop (k + 1)) (ds.drop (k + 1)) (col + leaves (fs.take (k + 1))) dep rep de)
  | [], _, k, f, d, _, _, _, _, h, _ => by simp at h
  | _ :: _, [], k, f, d, _, _, _, _, _, h => by simp at h
  | g :: fs, e :: ds, 0, f, d, col, dep, rep, de, hf, hd => by
    simp at hf hd
    subst hf hd
    simp [shFields, headDt, leaves]
  | g :: fs, e :: ds, k + 1, f, d, col, dep, rep, de, hf, hd => by
    have ih := shFields_split fs ds k f d (col + leavesOf g) dep rep de (by simpa using hf) (by simpa using hd)
    simp only [shFields, headDt, List.tail_cons, List.take_succ_cons, List.drop_succ_cons, leaves]
    rw [ih, List.append_assoc]
    simp only [Nat.add_assoc]
theorem shFields_one (f : Fd) (d : Dt) (col dep rep de : Nat) : shFields [f] [d] col dep rep de = shField f.way (leavesOf f) (fun d col dep rep de => shOnce f d col dep rep de) d col dep rep de := by
  simp [shFields, headDt]
/-- A field alone has the cells that it has among others. -/
theorem field_law {fs : List Fd} {ds : List Dt} {k : Nat} {f : Fd} {d : Dt} (hf : fs[k]? = some f) (hd : ds[k]? = some d) :
    (rowCells [f] [d]).map (mv (leaves (fs.take k)) 0 0) = btw (leaves (fs.take k)) (leaves (fs.take (k + 1))) (rowCells fs ds) := by
  have hs := leaves_snoc _ _ _ hf
  have hle : leaves (fs.take (k + 1)) ≤ leaves fs := by
    have := leaves_append (fs.take (k + 1)) (fs.drop (k + 1))
    rw [List.take_append_drop] at this
    omega
  unfold rowCells
  rw [btw_parts _ _ _ _ (by omega) hle, show leaves (fs.take (k + 1)) - leaves (fs.take k) = leavesOf f by omega, show leaves [f] = leavesOf f by simp [leaves], ← parts_map]
  apply parts_congr
  intro j hj
  have hsp := shFields_split fs ds k f d 0 0 0 0 hf hd
  have c1 := shCols (fs.take k) (ds.take k) 0 0 0 0
  have c2 := shCols (fs.drop (k + 1)) (ds.drop (k + 1)) (0 + leaves (fs.take (k + 1))) 0 0 0
  rw [hsp, colOf_append, colOf_append, colOf_out (L := shFields (fs.take k) (ds.take k) 0 0 0 0) (fun x hx => by have := c1.inc x hx; omega),
    colOf_out (L := shFields (fs.drop (k + 1)) (ds.drop (k + 1)) (0 + leaves (fs.take (k + 1))) 0 0 0) (fun x hx => by have := c2.inc x hx; omega), List.nil_append, List.append_nil, shFields_one]
  have hm := shField_mv (mvOnce_all _ f (Nat.le_refl _)) d 0 0 0 0 (leaves (fs.take k)) 0 0
  simp only [Nat.add_zero, Nat.zero_add] at hm ⊢
  rw [hm]
  exact (colOf_mv _ (leaves (fs.take k)) 0 0 j).symm

/-! ### One row's field alone is a row -/
theorem cntF_pos {f : Fd} {d : Int} {a : Nat} (h : cntF f d = some a) : 1 ≤ a := by
  by_cases hk : f.kids = []
  · rw [cntF_leaf hk] at h
    split at h
    · injection h with h; omega
    · cases h
  · rw [cntF_group hk] at h
    split at h
    · cases h
    · split at h
      · injection h with h; omega
      · cases h
theorem okHead_none {p : Option ByteArray} {f : Fd} {d : Int} (h : okHead p f d = true) : okHead none f d = true := by
  simp only [okHead, Bool.and_eq_true] at h ⊢
  exact ⟨⟨⟨⟨h.1.1.1.1, trivial⟩, h.1.1.2⟩, h.1.2⟩, h.2⟩
theorem isRow_one {fs : List Fd} {ds : List Dt} {k : Nat} {f : Fd} {d : Dt} (hr : isRow fs ds = true) (hf : fs[k]? = some f) (hd : ds[k]? = some d) : isRow [f] [d] = true := by
  simp only [isRow, Bool.and_eq_true, Option.isSome_iff_exists] at hr ⊢
  obtain ⟨ha, m, hm⟩ := hr
  simp only [areFields, Bool.and_eq_true, decide_eq_true_eq] at ha ⊢
  cases hc : cntL none fs 0 with
  | none => rw [hc] at ha; simp [optInt] at ha
  | some N =>
    rw [hc] at ha
    simp only [optInt] at ha
    have h1 : okHead (lastNm none (fs.take k)) f 0 = true := by
      cases hx : okHead (lastNm none (fs.take k)) f 0 with
      | true => rfl
      | false => rw [cntL_bad hf (.inl hx)] at hc; cases hc
    have h2 : cntF f 0 ≠ none := fun hx => by rw [cntL_bad hf (.inr hx)] at hc; cases hc
    cases hcf : cntF f 0 with
    | none => exact absurd hcf h2
    | some a =>
      have hpos := cntF_pos hcf
      have haN : a ≤ N := by
        rw [fs_split fs k f hf, cntL_append] at hc
        cases hp : cntL none (fs.take k) 0 with
        | none => rw [hp] at hc; cases hc
        | some m0 =>
          rw [hp] at hc
          simp only [cntL, h1, if_true, hcf] at hc
          cases hq : cntL (some f.name) (fs.drop (k + 1)) 0 with
          | none => rw [hq] at hc; cases hc
          | some b => rw [hq] at hc; simp at hc; omega
      have hone : cntL none [f] 0 = some a := by simp [cntL, okHead_none h1, hcf]
      rw [hone]
      refine ⟨⟨by simp only [optInt]; omega, by simp only [optInt]; omega⟩, ?_⟩
      rw [rowGo_split fs ds k f d 0 hf hd] at hm
      cases hp : rowGo (fs.take k) (ds.take k) 0 with
      | none => rw [hp] at hm; cases hm
      | some m0 =>
        rw [hp] at hm
        simp only [] at hm
        cases hq : dataC f d with
        | none => rw [hq] at hm; cases hm
        | some c =>
          rw [hq] at hm
          simp only [] at hm
          split at hm
          · cases hm
          · refine ⟨c, ?_⟩
            rw [rowGo_cons, hq]
            simp only [Nat.zero_add]
            rw [if_neg (by omega)]
            rfl

/-! ### Rows in a group that stands often -/
/-- The level of repetition of the first cell is set. -/
def setRep (r : Int) : List Cl → List Cl
  | [] => []
  | x :: t => ⟨x.col, r, x.de, x.null, x.kind, x.num, x.text⟩ :: t
theorem setRep_append (r : Int) {L : List Cl} (M : List Cl) (h : L ≠ []) : setRep r (L ++ M) = setRep r L ++ M := by
  cases L with
  | nil => exact absurd rfl h
  | cons x t => rfl
theorem setRep_blk {dep r : Nat} {L : List Cl} (h : Blk dep r L) : setRep r L = L := by
  obtain ⟨x, t, rfl, hr, _⟩ := h
  show _ :: t = x :: t
  congr 1
  cases x
  simp only [Cl.mk.injEq, and_true, true_and] at hr ⊢
  exact hr.symm
theorem Blk.ne {dep r : Nat} {L : List Cl} (h : Blk dep r L) : L ≠ [] := by
  obtain ⟨x, t, rfl, _⟩ := h
  simp
def RpOnce (f : Fd) : Prop := ∀ (d : Dt) (col dep de r r' j : Nat), j < leavesOf f → setRep r' (colOf (shOnce f d col dep r de) (col + j)) = colOf (shOnce f d col dep r' de) (col + j)
theorem nones_rp (n col de r r' j : Nat) (hj : j < n) : setRep r' (colOf (nonesOf n col r de) (col + j)) = colOf (nonesOf n col r' de) (col + j) := by
  rw [colOf_nones n col r de j hj, colOf_nones n col r' de j hj]; rfl
theorem shField_rp {f : Fd} (h : RpOnce f) (d : Dt) (col dep de r r' j : Nat) (hj : j < leavesOf f) :
    setRep r' (colOf (shField f.way (leavesOf f) (fun d col dep rep de => shOnce f d col dep rep de) d col dep r de) (col + j)) = colOf (shField f.way (leavesOf f) (fun d col dep rep de => shOnce f d col dep rep de) d col dep r' de) (col + j) := by
  unfold shField
  split
  · split
    · exact nones_rp _ _ _ _ _ _ hj
    · exact h d col dep (de + 1) r r' j hj
  · split
    · cases d.items with
      | nil => exact nones_rp _ _ _ _ _ _ hj
      | cons x xs =>
        show setRep r' (colOf (shOnce f x col (dep + 1) r (de + 1) ++ _) (col + j)) = colOf (shOnce f x col (dep + 1) r' (de + 1) ++ _) (col + j)
        rw [colOf_append, colOf_append, setRep_append _ _ ((onceCols f x col (dep + 1) r (de + 1)).blk j hj).ne, h x col (dep + 1) (de + 1) r r' j hj]
    · exact h d col dep de r r' j hj
theorem shFields_rps : ∀ (fs : List Fd) (_ : ∀ f ∈ fs, RpOnce f) (ds : List Dt) (col dep de r r' j : Nat), j < leaves fs → setRep r' (colOf (shFields fs ds col dep r de) (col + j)) = colOf (shFields fs ds col dep r' de) (col + j)
  | [], _, ds, col, dep, de, r, r', j, hj => by simp [leaves] at hj
  | f :: fs, h, ds, col, dep, de, r, r', j, hj => by
    simp only [leaves] at hj
    simp only [shFields]
    have c1 := fun r => shField_cols (onceCols f) (headDt ds) col dep r de
    have c2 := fun r => shCols fs ds.tail (col + leavesOf f) dep r de
    by_cases hjl : j < leavesOf f
    · rw [colOf_append, colOf_append, colOf_out (L := shFields fs ds.tail (col + leavesOf f) dep r de) (fun x hx => by have := (c2 r).inc x hx; omega),
        colOf_out (L := shFields fs ds.tail (col + leavesOf f) dep r' de) (fun x hx => by have := (c2 r').inc x hx; omega), List.append_nil, List.append_nil]
      exact shField_rp (h f List.mem_cons_self) (headDt ds) col dep de r r' j hjl
    · have := shFields_rps fs (fun g hg => h g (List.mem_cons_of_mem _ hg)) ds.tail (col + leavesOf f) dep de r r' (j - leavesOf f) (by omega)
      rw [show col + leavesOf f + (j - leavesOf f) = col + j by omega] at this
      rw [colOf_append, colOf_append, colOf_out (L := shField f.way (leavesOf f) (fun d col dep rep de => shOnce f d col dep rep de) (headDt ds) col dep r de) (fun x hx => by have := (c1 r).inc x hx; omega),
        colOf_out (L := shField f.way (leavesOf f) (fun d col dep rep de => shOnce f d col dep rep de) (headDt ds) col dep r' de) (fun x hx => by have := (c1 r').inc x hx; omega), List.nil_append, List.nil_append]
      exact this
theorem rpOnce_all : ∀ (N : Nat) (f : Fd), fdSize f ≤ N → RpOnce f
  | 0, f, h => by have := fdSize_pos f; omega
  | N + 1, f, h => fun d col dep de r r' j hj => by
    by_cases hk : f.kids = []
    · rw [leavesOf_leaf hk] at hj
      obtain rfl : j = 0 := by omega
      rw [shOnce_kl hk, shOnce_kl hk]
      simp [colOf, setRep]
    · rw [leavesOf_group hk] at hj
      rw [shOnce_kg hk, shOnce_kg hk]
      refine shFields_rps f.kids (fun g hg => ?_) d.items col dep de r r' j hj
      obtain ⟨k, hk⟩ := List.mem_iff_getElem?.1 hg
      exact rpOnce_all N g (by have := fdsSize_get _ _ _ hk; have := fdSize_kids f; omega)
/-- What FnRowsRepeated makes of the cells of one row in a column. -/
def ownOf (i : Nat) (fs : List Fd) (c : Nat) (row : List Dt) : List Cl := setRep ((min i 1 : Nat) : Int) ((btw c (c + 1 : Nat) (rowCells fs row)).map (mv 0 1 1))
def rowDt (row : List Dt) : Dt := .mk false 0 .empty row
theorem own_eq {fs : List Fd} {c : Nat} (hc : c < leaves fs) (row : List Dt) (i : Nat) : ownOf i fs c row = colOf (shFields fs row 0 1 (min i 1) 1) c := by
  unfold ownOf rowCells
  rw [btw_parts _ _ _ _ (by omega) (by omega), show c + 1 - c = 1 by omega, parts_succ, parts_zero, List.nil_append, Nat.add_zero]
  have h1 := shFields_mv fs row 0 0 0 0 0 1 1
  simp only [Nat.zero_add] at h1
  have h2 := colOf_mv (shFields fs row 0 0 0 0) 0 1 1 c
  rw [Nat.zero_add] at h2
  have h3 : (colOf (shFields fs row 0 0 0 0) c).map (mv 0 1 1) = colOf (shFields fs row 0 1 1 1) c := by
    rw [h1]; exact h2.symm
  rw [h3]
  have h4 := shFields_rps fs (fun f _ => rpOnce_all _ f (Nat.le_refl _)) row 0 1 1 1 (min i 1) c hc
  rw [Nat.zero_add] at h4
  exact h4
/-- The cells of rows from a place on, in a column. -/
def ownsFrom (fs : List Fd) (c : Nat) : Nat → List (List Dt) → List Cl
  | _, [] => []
  | i, row :: r => ownOf i fs c row ++ ownsFrom fs c (i + 1) r
theorem ownsFrom_later {fs : List Fd} {c : Nat} (hc : c < leaves fs) : ∀ (rows : List (List Dt)) (i : Nat), 1 ≤ i → ownsFrom fs c i rows = colOf ((rows.map fun row => shFields fs row 0 1 1 1).flatten) c
  | [], i, _ => rfl
  | row :: r, i, hi => by
    rw [ownsFrom, own_eq hc, ownsFrom_later hc r (i + 1) (by omega), List.map_cons, List.flatten_cons, colOf_append, show min i 1 = 1 by omega]
theorem rowCells_repeated {fs : List Fd} (h : fs ≠ []) (rows : List (List Dt)) (hr : rows ≠ []) : rowCells [gr 2 fs] [.mk false 0 .empty (rows.map rowDt)] = parts (fun c => ownsFrom fs c 0 rows) (leaves fs) := by
  unfold rowCells
  rw [leaves_gr 2 h]
  apply parts_congr
  intro c hc
  cases rows with
  | nil => exact absurd rfl hr
  | cons row r =>
    have hl : leavesOf (gr 2 fs) = leaves fs := leavesOf_group (f := gr 2 fs) h
    have e : shFields [gr 2 fs] [.mk false 0 .empty ((row :: r).map rowDt)] 0 0 0 0 = shFields fs row 0 1 0 1 ++ (r.map fun row => shFields fs row 0 1 1 1).flatten := by
      simp only [shFields, List.append_nil, headDt]
      show shField 2 _ _ _ _ _ _ _ = _
      unfold shField
      rw [if_neg (by omega), if_pos rfl]
      show shOnce (gr 2 fs) (rowDt row) 0 1 0 1 ++ (((r.map rowDt).map fun y => shOnce (gr 2 fs) y 0 1 1 1)).flatten = _
      rw [shOnce_gr 2 h, List.map_map]
      congr 2
      apply List.map_congr_left
      intro y _
      exact shOnce_gr 2 h _ _ _ _ _
    rw [e, colOf_append, ownsFrom, own_eq hc, ownsFrom_later hc r 1 (by omega)]
    rfl
end Go.Proofs.YtglgclkgppomiaaGreat

namespace Go.Proofs.YtglgclkgppomiaaGreat
open Go Go.RowKit

theorem new2 (w : World) (o1 o2 : Obj) : ((w.alloc o1).alloc o2).heap[w.heap.size + 1]? = some o2 := by
  have := heap_alloc_new (w.alloc o1) o2
  rwa [size_alloc1] at this
set_option maxRecDepth 100000 in
set_option maxHeartbeats 2000000 in
theorem moved26 (cs : List Cl) (A : Option Addr) (n c : Nat) (a b d : Int) (w : World) (hcl : ClsAt w w.heap.size A n c cs) (hn : n ≤ 1000000000)
    (hx : ∀ x ∈ cs, (0 ≤ x.col ∧ x.col ≤ 1000000) ∧ (0 ≤ x.rep ∧ x.rep ≤ 1000000) ∧ (0 ≤ x.de ∧ x.de ≤ 1000000)) (ha : 0 ≤ a ∧ a ≤ 1000000) (hb : 0 ≤ b ∧ b ≤ 1000000) (hd : 0 ≤ d ∧ d ≤ 1000000) :
    Calls Tryz.prog 26 #[.slice A n c, .int .i64 a, .int .i64 b, .int .i64 d] w (GivesCls (cs.map (mv a b d)) w) := by
  have HCL := Lib.hid hcl
  have HXS := Lib.hid hx
  have HA := Lib.hid ha
  have HBB := Lib.hid hb
  have HD := Lib.hid hd
  obtain ⟨i39, j1, j2, j3, j4⟩ := info_parts info39
  have J1 := Lib.hid j1
  have J2 := Lib.hid j2
  have J3 := Lib.hid j3
  have J4 := Lib.hid j4
  have HLEN := Lib.hid hcl.1
  clear hcl hx ha hb hd j1 j2 j3 j4
  go_enter Tryz.func26, Tryz.ntmps26
  go_wp2_with fail
  go_loopw [9, 14] (fun v i wr => ∃ (j : Nat), j ≤ n ∧ i = .int .i64 j ∧ wr.ownsRow w.heap.size 39 7 v j (clFlat ((cs.take j).map (mv a b d))) ∧ Below w.heap.size w wr) (fun _ i _ => n - (intOf i).toNat)
  case atStart => exact ⟨0, Nat.zero_le _, rfl, World.ownsRow_nil _ _ _ _, Below.refl _ _⟩
  case round =>
    obtain ⟨j, hj, rfl, hown, hb5⟩ := hrel
    have HOWN := Lib.hid hown
    have HB5 := Lib.hid hb5
    clear hown
    by_cases hlt : j < n
    · obtain ⟨b0, o, x, rfl, hb0, hxk, c0, c1, c2, c3, c4, c5, c6⟩ := HCL.out.at_ hlt
      have HX := Lib.hid hxk
      have HXB := Lib.hid (HXS.out x (List.mem_of_getElem? hxk))
      have c0' := (bcell hb5 hb0).trans c0
      have c1' := (bcell hb5 hb0).trans c1
      have c2' := (bcell hb5 hb0).trans c2
      have c3' := (bcell hb5 hb0).trans c3
      have c4' := (bcell hb5 hb0).trans c4
      have c5' := (bcell hb5 hb0).trans c5
      have c6' := (bcell hb5 hb0).trans c6
      have hj0 : (0 : Int) ≤ (j : Int) := Int.natCast_nonneg _
      have hj1 : (j : Int) < (n : Int) := by omega
      have hsz5 := hb5.size
      have HNEW := Lib.hid (new2 wr)
      have HSZF : Hid (∀ o1 o2, w.heap.size ≤ ((wr.alloc o1).alloc o2).heap.size) := Lib.hid fun o1 o2 => by rw [size_alloc1, size_alloc1]; omega
      have e0 : wrap64 (x.col + a) = x.col + a := by have := HXB.out; have := HA.out; unfold wrap64; omega
      have e1 : wrap64 (x.rep + b) = x.rep + b := by have := HXB.out; have := HBB.out; unfold wrap64; omega
      have e2 : wrap64 (x.de + d) = x.de + d := by have := HXB.out; have := HD.out; unfold wrap64; omega
      clear c0 c1 c2 c3 c4 c5 c6 hxk hb5
      go_wp2_with (at_builtin; refine wpList_append_lies _ rfl _ _ 26 rfl w.heap.size 39 i39 _ 7 64 Tryz.underlying26 J1.out J2.out J3.out J4.out rfl (by decide) u9 j (clFlat ((cs.take j).map (mv a b d))) (by rfl) ((HOWN.out.alloc _).alloc _) ⟨wr.heap.size + 1, 0, none⟩ 1 1 [.int .i64 (x.col + a), .int .i64 (x.rep + b), .int .i64 (x.de + d), .bool x.null, .int .i64 x.kind, .int .i64 x.num, .string x.text] (by rfl) rfl (World.news_of_block (HNEW.out _ _)) (by simp [Value.oneCell']) (by decide) (by simp only [maxLen]; omega) (by omega) (HSZF.out _ _) _ rfl ?_; intro g cap w' hown' hgrow hat hlt')
      have hb9 : Below w.heap.size w w' := ((HB5.out.alloc hsz5 _).alloc (by rw [size_alloc1]; omega) _).trans (below_grownRow hgrow (HSZF.out _ _) (fun k hk => (HOWN.out.lt k hk).1))
      refine ⟨⟨j + 1, by omega, by go_num, ?_, hb9⟩, by simp [intOf]; omega⟩
      rw [List.take_add_one, HX.out]
      show World.ownsRow w' _ _ _ _ _ (clFlat ((cs.take j ++ [x]).map (mv a b d)))
      rw [List.map_append, List.map_cons, List.map_nil, clFlat_snoc]
      exact hown'
    · obtain rfl : j = n := by omega
      go_wp2_with fail
      go_ret
      have hcl := HLEN.out
      obtain ⟨A', c', rfl, hcls⟩ := clsAt_owns (cs := cs.map (mv a b d)) (by have := HOWN.out; rwa [List.take_of_length_le (show cs.length ≤ j by omega)] at this) (by rw [List.length_map]; exact hcl)
      exact ⟨A', c', by rw [List.length_map, hcl]; rfl, by rw [List.length_map, hcl]; exact hcls, HB5.out⟩

set_option maxRecDepth 100000 in
set_option maxHeartbeats 2000000 in
theorem between27 (cs : List Cl) (A : Option Addr) (n c : Nat) (a b : Int) (w : World) (hcl : ClsAt w w.heap.size A n c cs) (hn : n ≤ 1000000000) :
    Calls Tryz.prog 27 #[.slice A n c, .int .i64 a, .int .i64 b] w (GivesCls (btw a b cs) w) := by
  have HCL := Lib.hid hcl
  obtain ⟨i39, j1, j2, j3, j4⟩ := info_parts info39
  have J1 := Lib.hid j1
  have J2 := Lib.hid j2
  have J3 := Lib.hid j3
  have J4 := Lib.hid j4
  have HLEN := Lib.hid hcl.1
  clear hcl j1 j2 j3 j4
  go_enter Tryz.func27, Tryz.ntmps27
  go_wp2_with fail
  go_loopw [7, 12] (fun v i wr => ∃ (j k : Nat), j ≤ n ∧ k ≤ j ∧ i = .int .i64 j ∧ wr.ownsRow w.heap.size 39 7 v k (clFlat (btw a b (cs.take j))) ∧ (btw a b (cs.take j)).length = k ∧ Below w.heap.size w wr) (fun _ i _ => n - (intOf i).toNat)
  case atStart => exact ⟨0, 0, Nat.zero_le _, Nat.le_refl _, rfl, World.ownsRow_nil _ _ _ _, rfl, Below.refl _ _⟩
  case round =>
    obtain ⟨j, k, hj, hkj, rfl, hown, hk, hb5⟩ := hrel
    have HOWN := Lib.hid hown
    have HB5 := Lib.hid hb5
    have HK := Lib.hid hk
    clear hown hk
    by_cases hlt : j < n
    · obtain ⟨b0, o, x, rfl, hb0, hxk, c0, c1, c2, c3, c4, c5, c6⟩ := HCL.out.at_ hlt
      have HX := Lib.hid hxk
      have c0' := (bcell hb5 hb0).trans c0
      have c1' := (bcell hb5 hb0).trans c1
      have c2' := (bcell hb5 hb0).trans c2
      have c3' := (bcell hb5 hb0).trans c3
      have c4' := (bcell hb5 hb0).trans c4
      have c5' := (bcell hb5 hb0).trans c5
      have c6' := (bcell hb5 hb0).trans c6
      have hj0 : (0 : Int) ≤ (j : Int) := Int.natCast_nonneg _
      have hj1 : (j : Int) < (n : Int) := by omega
      have hsz5 := hb5.size
      have HNEW := Lib.hid (new2 wr)
      have HSZF : Hid (∀ o1 o2, w.heap.size ≤ ((wr.alloc o1).alloc o2).heap.size) := Lib.hid fun o1 o2 => by rw [size_alloc1, size_alloc1]; omega
      clear c0 c1 c2 c3 c4 c5 c6 hxk hb5
      by_cases hin : a ≤ x.col ∧ x.col < b
      · have hin1 : decide (a ≤ x.col) = true := by simp [hin.1]
        have hin2 : decide (x.col < b) = true := by simp [hin.2]
        have HT : Hid (btw a b (cs.take (j + 1)) = btw a b (cs.take j) ++ [x]) := by
          show _ = _
          rw [List.take_add_one, HX.out, btw_append]
          congr 1
          exact btw_in (fun y hy => by simp at hy; subst hy; exact hin)
        clear hin
        go_wp2_with (at_builtin; refine wpList_append_lies _ rfl _ _ 26 rfl w.heap.size 39 i39 _ 7 64 Tryz.underlying26 J1.out J2.out J3.out J4.out rfl (by decide) u7 k (clFlat (btw a b (cs.take j))) (by rfl) ((HOWN.out.alloc _).alloc _) ⟨wr.heap.size + 1, 0, none⟩ 1 1 [.int .i64 x.col, .int .i64 x.rep, .int .i64 x.de, .bool x.null, .int .i64 x.kind, .int .i64 x.num, .string x.text] (by rfl) rfl (World.news_of_block (HNEW.out _ _)) (by simp [Value.oneCell']) (by decide) (by simp only [maxLen]; omega) (by omega) (HSZF.out _ _) _ rfl ?_; intro g cap w' hown' hgrow hat hlt')
        have hb9 : Below w.heap.size w w' := ((HB5.out.alloc hsz5 _).alloc (by rw [size_alloc1]; omega) _).trans (below_grownRow hgrow (HSZF.out _ _) (fun k hk => (HOWN.out.lt k hk).1))
        go_roundw
        case rel =>
          refine ⟨j + 1, k + 1, by omega, by omega, by go_num, ?_, by rw [HT.out, List.length_append, HK.out]; rfl, hb9⟩
          rw [HT.out, clFlat_snoc]
          exact hown'
        case measure => simp [intOf]; omega
      · have HT : Hid (btw a b (cs.take (j + 1)) = btw a b (cs.take j)) := by
          show _ = _
          rw [List.take_add_one, HX.out, btw_append]
          show _ ++ btw a b [x] = _
          rw [btw_out (L := [x]) (fun y hy => by simp at hy; subst hy; omega), List.append_nil]
        have hb9 : ∀ o1, Below w.heap.size w (wr.alloc o1) := fun o1 => HB5.out.alloc hsz5 _
        have HB9 := Lib.hid hb9
        clear hb9
        by_cases h1 : a ≤ x.col
        · have hin1 : decide (a ≤ x.col) = true := by simp [h1]
          have hin2 : decide (x.col < b) = false := by simp; omega
          clear hin h1
          go_wp2_with fail
          go_roundw
          case rel =>
            refine ⟨j + 1, k, by omega, by omega, by go_num, ?_, by rw [HT.out]; exact HK.out, HB9.out _⟩
            rw [HT.out]
            exact HOWN.out.alloc _
          case measure => simp [intOf]; omega
        · have hin1 : decide (a ≤ x.col) = false := by simp; omega
          clear hin h1
          go_wp2_with fail
          go_roundw
          case rel =>
            refine ⟨j + 1, k, by omega, by omega, by go_num, ?_, by rw [HT.out]; exact HK.out, HB9.out _⟩
            rw [HT.out]
            exact HOWN.out.alloc _
          case measure => simp [intOf]; omega
    · obtain rfl : j = n := by omega
      go_wp2_with fail
      go_ret
      have hcl := HLEN.out
      have hk := HK.out
      rw [List.take_of_length_le (show cs.length ≤ j by omega)] at hk
      obtain ⟨A', c', rfl, hcls⟩ := clsAt_owns (cs := btw a b cs) (by have := HOWN.out; rwa [List.take_of_length_le (show cs.length ≤ j by omega)] at this) hk
      exact ⟨A', c', by rw [hk]; rfl, by rw [hk]; exact hcls, HB5.out⟩
end Go.Proofs.YtglgclkgppomiaaGreat

namespace Go.Proofs.YtglgclkgppomiaaGreat
open Go Go.RowKit

set_option maxRecDepth 100000 in
set_option maxHeartbeats 2000000 in
theorem moved26o (cs : List Cl) (A : Option Addr) (n c : Nat) (a b d : Int) (w : World) (hcl : ClsAt w w.heap.size A n c cs) (hn : n ≤ 1000000000)
    (hx : ∀ x ∈ cs, (0 ≤ x.col ∧ x.col ≤ 1000000) ∧ (0 ≤ x.rep ∧ x.rep ≤ 1000000) ∧ (0 ≤ x.de ∧ x.de ≤ 1000000)) (ha : 0 ≤ a ∧ a ≤ 1000000) (hb : 0 ≤ b ∧ b ≤ 1000000) (hd : 0 ≤ d ∧ d ≤ 1000000) :
    Calls Tryz.prog 26 #[.slice A n c, .int .i64 a, .int .i64 b, .int .i64 d] w fun e w' => ∃ v, e = .returned v ∧ w'.ownsRow w.heap.size 39 7 v n (clFlat (cs.map (mv a b d))) ∧ Below w.heap.size w w' := by
  have HCL := Lib.hid hcl
  have HXS := Lib.hid hx
  have HA := Lib.hid ha
  have HBB := Lib.hid hb
  have HD := Lib.hid hd
  obtain ⟨i39, j1, j2, j3, j4⟩ := info_parts info39
  have J1 := Lib.hid j1
  have J2 := Lib.hid j2
  have J3 := Lib.hid j3
  have J4 := Lib.hid j4
  have HLEN := Lib.hid hcl.1
  clear hcl hx ha hb hd j1 j2 j3 j4
  go_enter Tryz.func26, Tryz.ntmps26
  go_wp2_with fail
  go_loopw [9, 14] (fun v i wr => ∃ (j : Nat), j ≤ n ∧ i = .int .i64 j ∧ wr.ownsRow w.heap.size 39 7 v j (clFlat ((cs.take j).map (mv a b d))) ∧ Below w.heap.size w wr) (fun _ i _ => n - (intOf i).toNat)
  case atStart => exact ⟨0, Nat.zero_le _, rfl, World.ownsRow_nil _ _ _ _, Below.refl _ _⟩
  case round =>
    obtain ⟨j, hj, rfl, hown, hb5⟩ := hrel
    have HOWN := Lib.hid hown
    have HB5 := Lib.hid hb5
    clear hown
    by_cases hlt : j < n
    · obtain ⟨b0, o, x, rfl, hb0, hxk, c0, c1, c2, c3, c4, c5, c6⟩ := HCL.out.at_ hlt
      have HX := Lib.hid hxk
      have HXB := Lib.hid (HXS.out x (List.mem_of_getElem? hxk))
      have c0' := (bcell hb5 hb0).trans c0
      have c1' := (bcell hb5 hb0).trans c1
      have c2' := (bcell hb5 hb0).trans c2
      have c3' := (bcell hb5 hb0).trans c3
      have c4' := (bcell hb5 hb0).trans c4
      have c5' := (bcell hb5 hb0).trans c5
      have c6' := (bcell hb5 hb0).trans c6
      have hj0 : (0 : Int) ≤ (j : Int) := Int.natCast_nonneg _
      have hj1 : (j : Int) < (n : Int) := by omega
      have hsz5 := hb5.size
      have HNEW := Lib.hid (new2 wr)
      have HSZF : Hid (∀ o1 o2, w.heap.size ≤ ((wr.alloc o1).alloc o2).heap.size) := Lib.hid fun o1 o2 => by rw [size_alloc1, size_alloc1]; omega
      have e0 : wrap64 (x.col + a) = x.col + a := by have := HXB.out; have := HA.out; unfold wrap64; omega
      have e1 : wrap64 (x.rep + b) = x.rep + b := by have := HXB.out; have := HBB.out; unfold wrap64; omega
      have e2 : wrap64 (x.de + d) = x.de + d := by have := HXB.out; have := HD.out; unfold wrap64; omega
      clear c0 c1 c2 c3 c4 c5 c6 hxk hb5
      go_wp2_with (at_builtin; refine wpList_append_lies _ rfl _ _ 26 rfl w.heap.size 39 i39 _ 7 64 Tryz.underlying26 J1.out J2.out J3.out J4.out rfl (by decide) u9 j (clFlat ((cs.take j).map (mv a b d))) (by rfl) ((HOWN.out.alloc _).alloc _) ⟨wr.heap.size + 1, 0, none⟩ 1 1 [.int .i64 (x.col + a), .int .i64 (x.rep + b), .int .i64 (x.de + d), .bool x.null, .int .i64 x.kind, .int .i64 x.num, .string x.text] (by rfl) rfl (World.news_of_block (HNEW.out _ _)) (by simp [Value.oneCell']) (by decide) (by simp only [maxLen]; omega) (by omega) (HSZF.out _ _) _ rfl ?_; intro g cap w' hown' hgrow hat hlt')
      have hb9 : Below w.heap.size w w' := ((HB5.out.alloc hsz5 _).alloc (by rw [size_alloc1]; omega) _).trans (below_grownRow hgrow (HSZF.out _ _) (fun k hk => (HOWN.out.lt k hk).1))
      refine ⟨⟨j + 1, by omega, by go_num, ?_, hb9⟩, by simp [intOf]; omega⟩
      rw [List.take_add_one, HX.out]
      show World.ownsRow w' _ _ _ _ _ (clFlat ((cs.take j ++ [x]).map (mv a b d)))
      rw [List.map_append, List.map_cons, List.map_nil, clFlat_snoc]
      exact hown'
    · obtain rfl : j = n := by omega
      go_wp2_with fail
      go_ret
      have hcl := HLEN.out
      exact ⟨_, rfl, by have := HOWN.out; rwa [List.take_of_length_le (show cs.length ≤ j by omega)] at this, HB5.out⟩

/-- The level of repetition of the first cell is written. -/
theorem setRep_flat (r : Int) (x : Cl) (t : List Cl) : (clFlat (x :: t)).set 1 (.int .i64 r) = clFlat (setRep r (x :: t)) := by
  simp [clFlat, setRep, Cl.vals]
theorem setRep_length (r : Int) (L : List Cl) : (setRep r L).length = L.length := by cases L <;> rfl
end Go.Proofs.YtglgclkgppomiaaGreat
