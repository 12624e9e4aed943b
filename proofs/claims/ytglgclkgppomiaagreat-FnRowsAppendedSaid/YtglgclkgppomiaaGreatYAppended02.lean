/- The walks of spec.isNumber and laws.zzFits3. The columns of spec's shredder in memory. -/
import Derived.Test.YtglgclkgppomiaaGreatZ02
import Derived.Test.YtglgclkgppomiaaGreatZ05
import Derived.Test.YtglgclkgppomiaaGreatZ15
set_option linter.unusedVariables false
set_option linter.unusedSimpArgs false
namespace Go.Proofs.YtglgclkgppomiaaGreat
open Go Go.RowKit

/-- A cell by value. -/
abbrev clVal (x : Cl) : Value := .agg #[.int .i64 x.col, .int .i64 x.rep, .int .i64 x.de, .bool x.null, .int .i64 x.kind, .int .i64 x.num, .string x.text]
/-- What spec.isNumber says. -/
def isNum (kind num : Int) : Bool :=
  if kind = 4 then decide (bits .and .i64 num 2147483647 ≤ 2139095040) else if kind = 5 then decide (bits .and .i64 num 9223372036854775807 ≤ 9218868437227405312) else true

set_option maxRecDepth 100000 in
theorem fits41 (x : Cl) (w : World) (hx : x.text.size ≤ 2000000000) : Calls Tryz.prog 41 #[clVal x] w fun e w' => e = .returned (.bool true) ∧ Below w.heap.size w w' := by
  have h1 : decide ((2147483647 : Int) < (x.text.size : Int)) = false := by simp; omega
  have h2 : decide (2147483647 < x.text.size) = false := by simp; omega
  have h3 : ¬ (2147483647 < x.text.size) := by omega
  go_enter Tryz.func41, Tryz.ntmps41
  go_wp2_with fail
  go_ret
  exact ⟨rfl, (Below.refl _ _).alloc (Nat.le_refl _) _⟩
set_option maxRecDepth 100000 in
theorem number66 (x : Cl) (w : World) : Calls Tryz.prog 66 #[clVal x] w fun e w' => e = .returned (.bool (isNum x.kind x.num)) ∧ Below w.heap.size w w' := by
  by_cases h4 : x.kind = 4
  · have hb : (x.kind == 4) = true := by simp [h4]
    have HI : Hid (isNum x.kind x.num = decide (bits .and .i64 x.num 2147483647 ≤ 2139095040)) := by show _ = _; unfold isNum; rw [if_pos h4]
    clear h4
    go_enter Tryz.func66, Tryz.ntmps66
    go_wp2_with fail
    go_ret
    exact ⟨ret_bool (by rw [HI.out]), (Below.refl _ _).alloc (Nat.le_refl _) _⟩
  · have hb : (x.kind == 4) = false := by simpa using h4
    by_cases h5 : x.kind = 5
    · have hc : (x.kind == 5) = true := by simp [h5]
      have HI : Hid (isNum x.kind x.num = decide (bits .and .i64 x.num 9223372036854775807 ≤ 9218868437227405312)) := by show _ = _; unfold isNum; rw [if_neg h4, if_pos h5]
      clear h4 h5
      go_enter Tryz.func66, Tryz.ntmps66
      go_wp2_with fail
      go_ret
      exact ⟨ret_bool (by rw [HI.out]), (Below.refl _ _).alloc (Nat.le_refl _) _⟩
    · have hc : (x.kind == 5) = false := by simpa using h5
      have HI : Hid (isNum x.kind x.num = true) := by show _ = _; unfold isNum; rw [if_neg h4, if_neg h5]
      clear h4 h5
      go_enter Tryz.func66, Tryz.ntmps66
      go_wp2_with fail
      go_ret
      exact ⟨ret_bool (by rw [HI.out]), (Below.refl _ _).alloc (Nat.le_refl _) _⟩
end Go.Proofs.YtglgclkgppomiaaGreat

namespace Go.Proofs.YtglgclkgppomiaaGreat
open Go Go.RowKit

theorem own_slice {w : World} {base n size : Nat} {e : TypeId} {v : Value} {xs : List Value} (h : w.ownsRow base e size v n xs) : ∃ A c, v = .slice A n c := by
  rcases h.2 with ⟨rfl, rfl⟩ | ⟨g, cap, cur, rfl, _⟩
  · exact ⟨none, 0, rfl⟩
  · exact ⟨_, cap, rfl⟩
theorem own_below {w w' : World} {base n size : Nat} {e : TypeId} {v : Value} {xs : List Value} (h : w.ownsRow base e size v n xs) (hb : Below w.heap.size w w') : w'.ownsRow base e size v n xs :=
  h.kept (row := none) ⟨hb.os, hb.tape, hb.output, hb.size, fun k hk _ => hb.block k hk⟩ (by cases v.ownBlock <;> simp)
theorem cls_append (a b : List Cl) : clFlat (a ++ b) = clFlat a ++ clFlat b := by simp [clFlat]
theorem cls_one (L : List Cl) : ∀ u ∈ clFlat L, u.oneCell' = true := fun u hu => by
  simp only [clFlat, List.mem_flatten, List.mem_map] at hu
  obtain ⟨l, ⟨x, _, rfl⟩, hu⟩ := hu
  simp only [Cl.vals, List.mem_cons, List.not_mem_nil, or_false] at hu
  rcases hu with rfl | rfl | rfl | rfl | rfl | rfl | rfl <;> rfl

/-- Each column is a row of its own. -/
structure ColsC (w : World) (B cb n : Nat) (log : List Cl) (vs : Nat → Value) : Prop where
  row : ∃ cs : Array Value, RowB w cb 26 cs ∧ cs.size = n ∧ ∀ j, j < n → cs[j]? = some (vs j)
  cbB : B ≤ cb
  own : ∀ j, j < n → w.ownsRow (cb + 1) 39 7 (vs j) (colOf log j).length (clFlat (colOf log j))
  apart : ∀ i j, i < n → j < n → i ≠ j → ∀ g, (vs i).ownBlock = some g → (vs j).ownBlock ≠ some g
theorem ColsC.lt {w : World} {B cb n : Nat} {log : List Cl} {vs : Nat → Value} (h : ColsC w B cb n log vs) : cb < w.heap.size := by
  obtain ⟨cs, hr, _⟩ := h.row
  exact hr.lt
theorem ColsC.slot {w : World} {B cb n : Nat} {log : List Cl} {vs : Nat → Value} (h : ColsC w B cb n log vs) {j : Nat} (hj : j < n) : w.cell? ⟨cb, j, none⟩ = some (vs j) ∧ w.frozen? ⟨cb, j, none⟩ = false := by
  obtain ⟨cs, hr, _, hc⟩ := h.row
  exact ⟨(hr.cell j).trans (hc j hj), hr.free j⟩
theorem ColsC.keep {w w' : World} {B cb n : Nat} {log : List Cl} {vs : Nat → Value} (h : ColsC w B cb n log vs) (hb : Below w.heap.size w w') : ColsC w' B cb n log vs := by
  obtain ⟨cs, hr, hs, hc⟩ := h.row
  exact ⟨⟨cs, hr.keep hb hr.lt, hs, hc⟩, h.cbB, fun j hj => own_below (h.own j hj) hb, h.apart⟩
theorem ColsC.push {w w1 w' : World} {B cb n : Nat} {log : List Cl} {vs : Nat → Value} (h : ColsC w B cb n log vs) (hb1 : Below w.heap.size w w1) {j : Nat} (hj : j < n) {x : Cl} (hx : x.col = (j : Int)) {g cap : Nat}
    (hown : w'.ownsRow (cb + 1) 39 7 (.slice (some ⟨g, 0, none⟩) ((colOf log j).length + 1) cap) ((colOf log j).length + 1) (clFlat (colOf log j) ++ x.vals)) (hgrow : w1.grownBy w' (vs j).ownBlock) (hat : (vs j).ownBlock = some g ∨ g = w1.heap.size) :
    ColsC (w'.setCell ⟨cb, j, none⟩ (.slice (some ⟨g, 0, none⟩) ((colOf log j).length + 1) cap)) B cb n (log ++ [x]) (fun i => if i = j then .slice (some ⟨g, 0, none⟩) ((colOf log j).length + 1) cap else vs i) ∧
    (∀ b, b < w.heap.size → b ≠ cb → (vs j).ownBlock ≠ some b → (w'.setCell ⟨cb, j, none⟩ (.slice (some ⟨g, 0, none⟩) ((colOf log j).length + 1) cap)).heap[b]? = w.heap[b]?) ∧
    (w'.setCell ⟨cb, j, none⟩ (.slice (some ⟨g, 0, none⟩) ((colOf log j).length + 1) cap)).os = w.os ∧ (w'.setCell ⟨cb, j, none⟩ (.slice (some ⟨g, 0, none⟩) ((colOf log j).length + 1) cap)).tape = w.tape ∧
    (w'.setCell ⟨cb, j, none⟩ (.slice (some ⟨g, 0, none⟩) ((colOf log j).length + 1) cap)).output = w.output ∧ w.heap.size ≤ (w'.setCell ⟨cb, j, none⟩ (.slice (some ⟨g, 0, none⟩) ((colOf log j).length + 1) cap)).heap.size := by
  obtain ⟨cs, hr, hs, hc⟩ := h.row
  have hsz1 := hb1.size
  have hlt := fun i hi => (h.own i hi).lt
  have hgl := hown.lt g rfl
  have hblk : ∀ b, b < w.heap.size → (vs j).ownBlock ≠ some b → w'.heap[b]? = w.heap[b]? := fun b hb hne => (hgrow.block b (by omega) (fun he => hne he.symm)).trans (hb1.block b hb)
  have hcb := hblk cb hr.lt (fun he => by have := (hlt j hj cb he).1; omega)
  generalize hS : Value.slice (some ⟨g, 0, none⟩) ((colOf log j).length + 1) cap = S at *
  have hSo : S.ownBlock = some g := by rw [← hS]; rfl
  have hcol : ∀ i, colOf (log ++ [x]) i = colOf log i ++ (if i = j then [x] else []) := fun i => by
    rw [colOf_snoc, hx]
    by_cases he : i = j
    · subst he; simp
    · rw [if_neg he, if_neg (by omega)]
  refine ⟨⟨⟨cs.setIfInBounds j S, (hr.of_eq hcb).set j S, by rw [Array.size_setIfInBounds]; exact hs, fun i hi => ?_⟩, h.cbB, fun i hi => ?_, fun i k hi hk hik q hq => ?_⟩, fun b hb h1 h2 => (setCell_other (b := b) w' ⟨cb, j, none⟩ _ h1).trans (hblk b hb h2), hgrow.os.trans hb1.os, hgrow.tape.trans hb1.tape, hgrow.output.trans hb1.output, by rw [setCell_size]; exact Nat.le_trans hsz1 hgrow.size⟩
  · by_cases he : i = j
    · subst he
      rw [Array.getElem?_setIfInBounds_self_of_lt (by rw [hs]; exact hi), if_pos rfl]
    · rw [Array.getElem?_setIfInBounds_ne (Ne.symm he), if_neg he]
      exact hc i hi
  · by_cases he : i = j
    · subst he
      rw [hcol, if_pos rfl, if_pos rfl, cls_append, List.length_append]
      have := ownsRow_setCell_below hown (a := ⟨cb, i, none⟩) (show cb < cb + 1 by omega) S
      simpa [clFlat] using this
    · rw [hcol, if_neg he, if_neg he, List.append_nil]
      have h1 : w'.ownsRow (cb + 1) 39 7 (vs i) (colOf log i).length (clFlat (colOf log i)) := (own_below (h.own i hi) hb1).kept hgrow (by
        cases hv : (vs i).ownBlock with
        | none => exact .inl rfl
        | some q => exact .inr fun hq => h.apart i j hi hj he q hv hq.symm)
      exact ownsRow_setCell_below h1 (a := ⟨cb, j, none⟩) (show cb < cb + 1 by omega) S
  · have hnew : ∀ i, i < n → i ≠ j → (vs i).ownBlock ≠ some g := fun i hi hne he => by
      rcases hat with h1 | h1
      · exact h.apart i j hi hj hne g he h1
      · have := (hlt i hi g he).2
        omega
    by_cases h1 : i = j
    · subst h1
      rw [if_pos rfl, hSo] at hq
      injection hq with hq
      subst hq
      rw [if_neg (Ne.symm hik)]
      exact hnew k hk (Ne.symm hik)
    · rw [if_neg h1] at hq
      by_cases h2 : k = j
      · subst h2
        rw [if_pos rfl, hSo]
        intro he
        injection he with he
        subst he
        exact hnew i hi h1 hq
      · rw [if_neg h2]
        exact h.apart i k hi hk hik q hq
/-- Columns that lie in none of the blocks K. -/
def ColsCK (w : World) (B cb n : Nat) (log : List Cl) (K : Nat → Prop) : Prop := ∃ vs, ColsC w B cb n log vs ∧ ¬ K cb ∧ ∀ j, j < n → ∀ g, (vs j).ownBlock = some g → ¬ K g
theorem ColsCK.keep {w w' : World} {B cb n : Nat} {log : List Cl} {K : Nat → Prop} (h : ColsCK w B cb n log K) (hb : Below w.heap.size w w') : ColsCK w' B cb n log K := by
  obtain ⟨vs, h, h1, h2⟩ := h
  exact ⟨vs, h.keep hb, h1, h2⟩
theorem ColsCK.less {w : World} {B cb n : Nat} {log : List Cl} {K K' : Nat → Prop} (h : ColsCK w B cb n log K) (hk : ∀ g, K' g → K g) : ColsCK w B cb n log K' := by
  obtain ⟨vs, h, h1, h2⟩ := h
  exact ⟨vs, h, fun h' => h1 (hk _ h'), fun j hj g hg h' => h2 j hj g hg (hk _ h')⟩
/-- The state of the shredder: its columns, and the block of its own. -/
structure ShW (w : World) (B cb n sb : Nat) (log : List Cl) (K : Nat → Prop) : Prop where
  cols : ColsCK w B cb n log K
  ksb : K sb
  ptr : w.cell? ⟨sb, 0, none⟩ = some (.slice (some ⟨cb, 0, none⟩) n n)
  kk : ∀ g, K g → g < w.heap.size
  bw : B ≤ w.heap.size
/-- The call ends, and the cells of the columns are those of the log. -/
def Shr (B cb n : Nat) (log : List Cl) (K : Nat → Prop) (w : World) (e : Ending) (w' : World) : Prop :=
  e = .returned (.tuple #[]) ∧ ColsCK w' B cb n log K ∧ Below B w w' ∧ ∀ g, K g → w'.heap[g]? = w.heap[g]?
theorem ShW.next {w w' : World} {B cb n sb : Nat} {log log' : List Cl} {K : Nat → Prop} (h : ShW w B cb n sb log K) (hc : ColsCK w' B cb n log' K) (hb : Below B w w') (hk : ∀ g, K g → w'.heap[g]? = w.heap[g]?) : ShW w' B cb n sb log' K :=
  ⟨hc, h.ksb, (World.cell?_of_block (a := ⟨sb, 0, none⟩) (hk sb h.ksb)).trans h.ptr, fun g hg => Nat.lt_of_lt_of_le (h.kk g hg) hb.size, Nat.le_trans h.bw hb.size⟩
/-- Blocks that were made behind are kept, too. -/
theorem ShW.box {w w1 : World} {B cb n sb : Nat} {log : List Cl} {K : Nat → Prop} (h : ShW w B cb n sb log K) (hb : Below w.heap.size w w1) : ShW w1 B cb n sb log (fun g => K g ∨ (w.heap.size ≤ g ∧ g < w1.heap.size)) := by
  have hlt := h.kk
  obtain ⟨vs, hc, h1, h2⟩ := h.cols
  refine ⟨⟨vs, hc.keep hb, fun h' => ?_, fun j hj g hg h' => ?_⟩, .inl h.ksb, (World.cell?_of_block (a := ⟨sb, 0, none⟩) (hb.block sb (hlt sb h.ksb))).trans h.ptr, fun g hg => ?_, Nat.le_trans h.bw hb.size⟩
  · rcases h' with h' | h'
    · exact h1 h'
    · have := hc.lt; omega
  · rcases h' with h' | h'
    · exact h2 j hj g hg h'
    · have := (hc.own j hj).lt g hg; omega
  · rcases hg with hg | hg
    · exact Nat.lt_of_lt_of_le (hlt g hg) hb.size
    · exact hg.2
/-- A call made behind some boxes is a call. -/
theorem Shr.behind {w w1 : World} {B cb n : Nat} {log : List Cl} {K : Nat → Prop} (hkk : ∀ g, K g → g < w.heap.size) (hB : B ≤ w.heap.size) (hb : Below w.heap.size w w1) {e : Ending} {w' : World} (h : Shr B cb n log (fun g => K g ∨ (w.heap.size ≤ g ∧ g < w1.heap.size)) w1 e w') : Shr B cb n log K w e w' := by
  obtain ⟨rfl, h1, h2, h3⟩ := h
  exact ⟨rfl, h1.less fun g hg => .inl hg, (hb.mono hB).trans h2, fun g hg => (h3 g (.inl hg)).trans (hb.block g (hkk g hg))⟩
theorem ShW.push {w w1 w' : World} {B cb n sb : Nat} {log : List Cl} {K : Nat → Prop} {vs : Nat → Value} (h : ShW w B cb n sb log K) (hc : ColsC w B cb n log vs) (hc1 : ¬ K cb) (hc2 : ∀ j, j < n → ∀ g, (vs j).ownBlock = some g → ¬ K g) (hb1 : Below w.heap.size w w1) {j : Nat} (hj : j < n) {x : Cl} (hx : x.col = (j : Int)) {g cap : Nat}
    (hown : w'.ownsRow (cb + 1) 39 7 (.slice (some ⟨g, 0, none⟩) ((colOf log j).length + 1) cap) ((colOf log j).length + 1) (clFlat (colOf log j) ++ x.vals)) (hgrow : w1.grownBy w' (vs j).ownBlock) (hat : (vs j).ownBlock = some g ∨ g = w1.heap.size) :
    ColsCK (w'.setCell ⟨cb, j, none⟩ (.slice (some ⟨g, 0, none⟩) ((colOf log j).length + 1) cap)) B cb n (log ++ [x]) K ∧ Below B w (w'.setCell ⟨cb, j, none⟩ (.slice (some ⟨g, 0, none⟩) ((colOf log j).length + 1) cap)) ∧
    ∀ b, K b → (w'.setCell ⟨cb, j, none⟩ (.slice (some ⟨g, 0, none⟩) ((colOf log j).length + 1) cap)).heap[b]? = w.heap[b]? := by
  obtain ⟨p1, p2, p3, p4, p5, p6⟩ := hc.push hb1 hj hx hown hgrow hat
  refine ⟨⟨_, p1, hc1, fun i hi q hq => ?_⟩, ⟨p3, p4, p5, p6, fun b hb => p2 b (Nat.lt_of_lt_of_le hb h.bw) (fun he => by have := hc.cbB; omega) (fun he => by have := (hc.own j hj).lt b he; have := hc.cbB; omega)⟩, fun b hb => p2 b (h.kk b hb) (fun he => hc1 (he ▸ hb)) (fun he => hc2 j hj b he hb)⟩
  by_cases he : i = j
  · rw [if_pos he] at hq
    injection hq with hq
    have hq' : g = q := hq
    subst hq'
    rcases hat with h1 | h1
    · exact hc2 j hj g h1
    · exact fun hk => by have := h.kk g hk; have := hb1.size; omega
  · rw [if_neg he] at hq
    exact hc2 i hi q hq
theorem nonesOf_succ (k col rep de : Nat) : nonesOf (k + 1) col rep de = nonesOf k col rep de ++ [⟨((col + k : Nat) : Int), rep, de, true, 0, 0, .empty⟩] := by
  simp [nonesOf, List.range_succ]
end Go.Proofs.YtglgclkgppomiaaGreat
