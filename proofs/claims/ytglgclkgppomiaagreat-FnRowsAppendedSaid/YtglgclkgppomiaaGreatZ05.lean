/- What a field's data are taken apart into (plain), trees (plain), and columns, values and trees in memory. A cell is put behind a column. -/
import Derived.Test.YtglgclkgppomiaaGreatZ04
import Derived.Deep.RegionHeld3
import Derived.ArgAppend
set_option linter.unusedVariables false
set_option linter.unusedSimpArgs false
namespace Go.Proofs.YtglgclkgppomiaaGreat
open Go Go.RowKit

/-! ### Plain -/
def nonesOf (n col rep de : Nat) : List Cl := (List.range n).map fun i => ⟨((col + i : Nat) : Int), rep, de, true, 0, 0, .empty⟩
/-- What a field has, out of what it has once. -/
def shField (way : Int) (n : Nat) (once : Dt → Nat → Nat → Nat → Nat → List Cl) (d : Dt) (col dep rep de : Nat) : List Cl :=
  if way = 1 then (if d.none then nonesOf n col rep de else once d col dep rep (de + 1))
  else if way = 2 then (match d.items with
    | [] => nonesOf n col rep de
    | x :: xs => once x col (dep + 1) rep (de + 1) ++ (xs.map fun y => once y col (dep + 1) (dep + 1) (de + 1)).flatten)
  else once d col dep rep de
def headDt : List Dt → Dt
  | [] => .mk false 0 .empty []
  | d :: _ => d
mutual
def shOnce : Fd → Dt → Nat → Nat → Nat → Nat → List Cl
  | .mk _ _ k kids, d, col, dep, rep, de => match kids with
    | [] => [⟨col, rep, de, false, k, d.num, d.text⟩]
    | f :: r => shFields (f :: r) d.items col dep rep de
def shFields : List Fd → List Dt → Nat → Nat → Nat → Nat → List Cl
  | [], _, _, _, _, _ => []
  | f :: r, ds, col, dep, rep, de => shField f.way (leavesOf f) (fun d col dep rep de => shOnce f d col dep rep de) (headDt ds) col dep rep de ++ shFields r ds.tail (col + leavesOf f) dep rep de
end
/-- A tree: what it is (0 nothing, 1 null, 2 a value, 3 a list, 4 fields), the value's kind, number and text, and its items. -/
inductive Tr where
  | mk (k lk num : Int) (text : ByteArray) (items : List Tr)
def Tr.k : Tr → Int | .mk k _ _ _ _ => k
def Tr.lk : Tr → Int | .mk _ k _ _ _ => k
def Tr.num : Tr → Int | .mk _ _ n _ _ => n
def Tr.text : Tr → ByteArray | .mk _ _ _ t _ => t
def Tr.items : Tr → List Tr | .mk _ _ _ _ i => i
/-- The tree of what a field has, out of that of what it has once. -/
def trField (way : Int) (once : Dt → Tr) (d : Dt) : Tr :=
  if way = 1 ∧ d.none = true then .mk 1 0 0 .empty []
  else if way ≠ 2 then once d
  else .mk 3 0 0 .empty (d.items.map once)
mutual
def trOnce : Fd → Dt → Tr
  | .mk _ _ k kids, d => match kids with
    | [] => .mk 2 k d.num d.text []
    | f :: r => .mk 4 0 0 .empty (trFields (f :: r) d.items)
def trFields : List Fd → List Dt → List Tr
  | [], _ => []
  | f :: r, ds => trField f.way (fun d => trOnce f d) (headDt ds) :: trFields r ds.tail
end

/-! ### In memory -/
/-- Bytes behind a slice, in a block from lo on and below B. -/
def BytesAt (w : World) (lo B : Nat) (A : Option Addr) (n c : Nat) (t : ByteArray) : Prop :=
  t.size = n ∧ n ≤ c ∧ (0 < n → ∃ b o, A = some ⟨b, o, none⟩ ∧ (lo ≤ b ∧ b < B) ∧ ∀ j (h : j < t.size), w.cell? ⟨b, o + j, none⟩ = some (.int .u8 (t[j].toNat : Int)))
theorem BytesAt.frame {w w' : World} {lo B lo' B' : Nat} (hf : ∀ b, lo ≤ b → b < B → w'.heap[b]? = w.heap[b]?) (hlo : lo' ≤ lo) (hB : B ≤ B') {A : Option Addr} {n c : Nat} {t : ByteArray} (h : BytesAt w lo B A n c t) : BytesAt w' lo' B' A n c t := by
  obtain ⟨h1, h2, h3⟩ := h
  refine ⟨h1, h2, fun hn => ?_⟩
  obtain ⟨b, o, hA, ⟨hl, hlt⟩, h⟩ := h3 hn
  exact ⟨b, o, hA, ⟨Nat.le_trans hlo hl, Nat.lt_of_lt_of_le hlt hB⟩, fun j hj => (World.cell?_of_block (a := ⟨b, o + j, none⟩) (hf b hl hlt)).trans (h j hj)⟩
/-- The number that a value bears. -/
def encU (num : Int) : Int := num % 18446744073709551616
/-- The cells of a value (its data, its number) of a kind, a number and a text; or of none. -/
inductive VR (w : World) (lo B : Nat) : Bool → Int → Int → ByteArray → Option Addr → Nat → Nat → Int → Prop where
  | null (k num : Int) (t : ByteArray) : VR w lo B true k num t none 0 0 0
  | num (k num : Int) (t : ByteArray) (hk : k ≠ 6) : VR w lo B false k num t none 0 0 (encU num)
  | text (num : Int) (t : ByteArray) (A : Option Addr) (n c : Nat) (h : BytesAt w lo B A n c t) : VR w lo B false 6 num t A n c n
theorem VR.frame {w w' : World} {lo B lo' B' : Nat} (hf : ∀ b, lo ≤ b → b < B → w'.heap[b]? = w.heap[b]?) (hlo : lo' ≤ lo) (hB : B ≤ B') {nl : Bool} {k num : Int} {t : ByteArray} {A : Option Addr} {n c : Nat} {u : Int} (h : VR w lo B nl k num t A n c u) : VR w' lo' B' nl k num t A n c u := by
  cases h with
  | null => exact .null ..
  | num _ _ _ hk => exact .num _ _ _ hk
  | text _ _ _ _ _ h => exact .text _ _ _ _ _ (h.frame hf hlo hB)
theorem VR.mono {w w' : World} {lo B B' : Nat} (hb : Below B w w') (hB : B ≤ B') {nl : Bool} {k num : Int} {t : ByteArray} {A : Option Addr} {n c : Nat} {u : Int} (h : VR w lo B nl k num t A n c u) : VR w' lo B' nl k num t A n c u :=
  h.frame (fun b _ hlt => hb.block b hlt) (Nat.le_refl _) hB
def kdOf (nl : Bool) (k : Int) : Int := if nl then 0 else -(k + 1)
/-- The value of a cell, in memory. -/
def VlAt (w : World) (B b o : Nat) (x : Cl) : Prop :=
  ∃ A n c u, VR w 0 B x.null x.kind x.num x.text A n c u ∧ w.cell? ⟨b, o, none⟩ = some (.slice A n c) ∧ w.cell? ⟨b, o + 1, none⟩ = some (.int .u64 u) ∧ w.cell? ⟨b, o + 2, none⟩ = some (.int .i8 (kdOf x.null x.kind)) ∧
    w.cell? ⟨b, o + 3, none⟩ = some (.int .u8 x.de) ∧ w.cell? ⟨b, o + 4, none⟩ = some (.int .u8 x.rep) ∧ w.cell? ⟨b, o + 5, none⟩ = some (.int .u16 (65535 - x.col))
theorem VlAt.frame {w w' : World} {B b o b' o' : Nat} {x : Cl} (hb : Below B w w') (hf : ∀ i, i < 6 → w'.cell? ⟨b', o' + i, none⟩ = w.cell? ⟨b, o + i, none⟩) (h : VlAt w B b o x) : VlAt w' B b' o' x := by
  obtain ⟨A, n, c, u, hv, h0, h1, h2, h3, h4, h5⟩ := h
  exact ⟨A, n, c, u, hv.mono hb (Nat.le_refl _), (hf 0 (by omega)).trans h0, (hf 1 (by omega)).trans h1, (hf 2 (by omega)).trans h2, (hf 3 (by omega)).trans h3, (hf 4 (by omega)).trans h4, (hf 5 (by omega)).trans h5⟩

/-- Trees behind a slice. -/
inductive TrsAt (w : World) (lo B : Nat) : Option Addr → Nat → Nat → List Tr → Prop where
  | nil (A : Option Addr) (c : Nat) : TrsAt w lo B A 0 c []
  | mk (b o n c : Nat) (ts : List Tr) (D : Nat → Option Addr) (dn dc : Nat → Nat) (u : Nat → Int) (A : Nat → Option Addr) (c' : Nat → Nat) (hb : lo ≤ b ∧ b < B) (hn : ts.length = n) (hnc : n ≤ c)
      (hv : ∀ i t, ts[i]? = some t → VR w lo B (t.k != 2) t.lk t.num t.text (D i) (dn i) (dc i) (u i))
      (h : ∀ i t, ts[i]? = some t → w.cell? ⟨b, o + i * 8, none⟩ = some (.int .i8 t.k) ∧ w.cell? ⟨b, o + i * 8 + 1, none⟩ = some (.slice (D i) (dn i) (dc i)) ∧ w.cell? ⟨b, o + i * 8 + 2, none⟩ = some (.int .u64 (u i)) ∧
        w.cell? ⟨b, o + i * 8 + 3, none⟩ = some (.int .i8 (kdOf (t.k != 2) t.lk)) ∧ w.cell? ⟨b, o + i * 8 + 4, none⟩ = some (.int .u8 0) ∧ w.cell? ⟨b, o + i * 8 + 5, none⟩ = some (.int .u8 0) ∧ w.cell? ⟨b, o + i * 8 + 6, none⟩ = some (.int .u16 0) ∧
        w.cell? ⟨b, o + i * 8 + 7, none⟩ = some (.slice (A i) t.items.length (c' i)))
      (hr : ∀ i t, ts[i]? = some t → TrsAt w lo B (A i) t.items.length (c' i) t.items) : TrsAt w lo B (some ⟨b, o, none⟩) n c ts
theorem TrsAt.len {w : World} {lo B : Nat} {A : Option Addr} {n c : Nat} {ts : List Tr} (h : TrsAt w lo B A n c ts) : ts.length = n ∧ n ≤ c := by
  cases h with
  | nil => simp
  | mk b o n c fs D dn dc u A c' hb hn hnc hv h hr => exact ⟨hn, hnc⟩
theorem TrsAt.frame {w w' : World} {lo B lo' B' : Nat} (hf : ∀ b, lo ≤ b → b < B → w'.heap[b]? = w.heap[b]?) (hlo : lo' ≤ lo) (hB : B ≤ B') {A : Option Addr} {n c : Nat} {ts : List Tr} (h : TrsAt w lo B A n c ts) : TrsAt w' lo' B' A n c ts := by
  have hcell : ∀ {b : Nat} (off : Nat), lo ≤ b ∧ b < B → w'.cell? ⟨b, off, none⟩ = w.cell? ⟨b, off, none⟩ := fun {b} off hb => World.cell?_of_block (a := ⟨b, off, none⟩) (hf b hb.1 hb.2)
  induction h with
  | nil A c => exact .nil A c
  | mk b o n c fs D dn dc u A c' hb hn hnc hv h hr ih =>
    refine .mk b o n c fs D dn dc u A c' ⟨Nat.le_trans hlo hb.1, Nat.lt_of_lt_of_le hb.2 hB⟩ hn hnc (fun i t hi => (hv i t hi).frame hf hlo hB) (fun i t hi => ?_) ih
    obtain ⟨h0, h1, h2, h3, h4, h5, h6, h7⟩ := h i t hi
    exact ⟨(hcell _ hb).trans h0, (hcell _ hb).trans h1, (hcell _ hb).trans h2, (hcell _ hb).trans h3, (hcell _ hb).trans h4, (hcell _ hb).trans h5, (hcell _ hb).trans h6, (hcell _ hb).trans h7⟩
theorem TrsAt.mono {w w' : World} {lo B B' : Nat} (hb : Below B w w') (hB : B ≤ B') {A : Option Addr} {n c : Nat} {ts : List Tr} (h : TrsAt w lo B A n c ts) : TrsAt w' lo B' A n c ts :=
  h.frame (fun b _ hlt => hb.block b hlt) (Nat.le_refl _) hB
/-- A tree by value. -/
abbrev trVal (k : Int) (D : Option Addr) (dn dc : Nat) (u kd : Int) (A : Option Addr) (n c : Nat) : Value :=
  .agg #[.int .i8 k, .slice D dn dc, .int .u64 u, .int .i8 kd, .int .u8 0, .int .u8 0, .int .u16 0, .slice A n c]
/-- That value is a tree. -/
def TrAt (w : World) (lo B : Nat) (t : Tr) (D : Option Addr) (dn dc : Nat) (u : Int) (A : Option Addr) (c : Nat) : Prop :=
  VR w lo B (t.k != 2) t.lk t.num t.text D dn dc u ∧ TrsAt w lo B A t.items.length c t.items
theorem TrAt.frame {w w' : World} {lo B lo' B' : Nat} (hf : ∀ b, lo ≤ b → b < B → w'.heap[b]? = w.heap[b]?) (hlo : lo' ≤ lo) (hB : B ≤ B') {t : Tr} {D : Option Addr} {dn dc : Nat} {u : Int} {A : Option Addr} {c : Nat} (h : TrAt w lo B t D dn dc u A c) : TrAt w' lo' B' t D dn dc u A c :=
  ⟨h.1.frame hf hlo hB, h.2.frame hf hlo hB⟩
theorem TrAt.mono {w w' : World} {lo B B' : Nat} (hb : Below B w w') (hB : B ≤ B') {t : Tr} {D : Option Addr} {dn dc : Nat} {u : Int} {A : Option Addr} {c : Nat} (h : TrAt w lo B t D dn dc u A c) : TrAt w' lo B' t D dn dc u A c :=
  ⟨h.1.mono hb hB, h.2.mono hb hB⟩

/-! ### append of one element -/
/-- There is room behind the slice, or a new array is made. -/
def AppOne (w : World) (e : TypeId) (size b o len cap : Nat) (olds news : List Value) (b' o' cap' : Nat) (w' : World) : Prop :=
  (len < cap ∧ b' = b ∧ o' = o ∧ cap' = cap ∧ w' = w.setCells b (o + len * size) news) ∨
  (cap ≤ len ∧ o' = 0 ∧ len + 1 ≤ cap' ∧ w.heap.size ≤ b' ∧ b' < w'.heap.size ∧ w.grownBy w' none ∧ ∃ cur, w'.heap[b']? = some (.cells cur e (0, 0)) ∧ cur.size = cap' * size ∧ cur.toList.take ((len + 1) * size) = olds ++ news)
theorem run_append_one {P : Program} (w : World) (t ty e : TypeId) (i : TypeInfo) (z : Value) (size bytes : Nat) (ht : P.underlying t = some (.slice e)) (hi : P.info? e = some i) (hz : i.zero = some z)
    (hsize : i.size = size) (hby : i.bytes = bytes) (hzs : z.cells.size = size) (hsz : 0 < size)
    (b off n cap : Nat) (olds : List Value) (hlo : olds.length = n * size) (holds : ∀ j u, olds[j]? = some u → w.cell? ⟨b, off + j, none⟩ = some u)
    (ad : Addr) (c : Nat) (news : List Value) (hn : news.length = 1 * size) (hc : ∀ j u, news[j]? = some u → w.cell? (ad.add j) = some u) (h1c : ∀ u ∈ news, u.oneCell' = true)
    (hspare : n + 1 ≤ cap → ∀ j, j < news.length → (w.cell? ⟨b, off + n * size + j, none⟩).isSome = true ∧ w.frozen? ⟨b, off + n * size + j, none⟩ = false)
    (b1 : n + 1 ≤ maxLen) (b2 : (n + 1) * bytes ≤ 140737488355328) :
    ∃ b' o' cap' w', (Builtin.append_ #[t, t] ty #[.slice (some ⟨b, off, none⟩) n cap, .slice (some ad) 1 c]).run P w = .ok (.slice (some ⟨b', o', none⟩) (n + 1) cap') w' ∧ AppOne w e size b off n cap olds news b' o' cap' w' := by
  by_cases hr : n + 1 ≤ cap
  · subst hsize
    exact ⟨b, off, cap, _, run_append_room_cells (P := P) w t ty e i ht hi b off n cap ad 1 c news hn hc h1c hr (fun j hj => (hspare hr j hj).1) (fun j hj => (hspare hr j hj).2), .inl ⟨by omega, rfl, rfl, rfl, rfl⟩⟩
  · obtain ⟨v', w', hrun, ⟨_, r1⟩, r2⟩ := run_append_arg_grows (P := P) w t ty e i z size bytes ht hi hz hsize hby hzs hsz ⟨b, off, none⟩ n cap olds hlo (fun j u hj => by rw [Addr.add_lit]; exact holds j u hj) ad 1 c news hn hc (by omega) b1 b2
    rcases r1 with ⟨_, h0⟩ | ⟨g, cap', cur, rfl, hg, hcur, hle, hmax, hcs, htk⟩
    · omega
    · exact ⟨g, 0, cap', w', hrun, .inr ⟨by omega, rfl, hle, hg, (Array.getElem?_eq_some_iff.1 hcur).1, r2, cur, hcur, hcs, htk⟩⟩
/-- At a step of a region that draws its order. -/
theorem step_append_one {P : Program} {ops : Array Oper} {o : Oper} {a : Act} {w : World} {K : Act → World → Prop} {Q : Exit → Act → World → Prop} {E : Prop}
    (hgd : o.guard = none) (s x : Operand) (t : TypeId) (hop : o.op = Op.call { callee := Callee.builtin Builtin.append, args := #[s, x], argTypes := #[t, t] })
    (e : TypeId) (i : TypeInfo) (z : Value) (size bytes : Nat) (ht : P.underlying t = some (.slice e)) (hi : P.info? e = some i) (hz : i.zero = some z)
    (hsize : i.size = size) (hby : i.bytes = bytes) (hzs : z.cells.size = size) (hsz : 0 < size)
    (b off n cap : Nat) (olds : List Value) (hs : a.eval s = .slice (some ⟨b, off, none⟩) n cap) (hlo : olds.length = n * size) (holds : ∀ j u, olds[j]? = some u → w.cell? ⟨b, off + j, none⟩ = some u)
    (ad : Addr) (c : Nat) (news : List Value) (hx : a.eval x = .slice (some ad) 1 c) (hn : news.length = 1 * size) (hc : ∀ j u, news[j]? = some u → w.cell? (ad.add j) = some u) (h1c : ∀ u ∈ news, u.oneCell' = true)
    (hspare : n + 1 ≤ cap → ∀ j, j < news.length → (w.cell? ⟨b, off + n * size + j, none⟩).isSome = true ∧ w.frozen? ⟨b, off + n * size + j, none⟩ = false)
    (b1 : n + 1 ≤ maxLen) (b2 : (n + 1) * bytes ≤ 140737488355328)
    (hK : ∀ b' o' cap' w', AppOne w e size b off n cap olds news b' o' cap' w' → K (a.put o.dst (.slice (some ⟨b', o', none⟩) (n + 1) cap')) w') :
    if Region.wanted o (yielded ops a.tmps) = true then Oper.wp P o a w K Q else E := by
  have hw : Region.wanted o (yielded ops a.tmps) = true := by simp [Region.wanted, hgd]
  rw [if_pos hw]
  obtain ⟨b', o', cap', w', hrun, hap⟩ := run_append_one w t o.type e i z size bytes ht hi hz hsize hby hzs hsz b off n cap olds hlo holds ad c news hn hc h1c hspare b1 b2
  unfold Oper.wp
  simp [execOp, hop, resolve, invoke, builtin, hs, hx, hrun, Result.andThen]
  exact hK b' o' cap' w' hap

/-! ### Columns -/
structure ColPl where
  b : Nat
  o : Nat
  cap : Nat
/-- The cells of a column. -/
def colOf (log : List Cl) (j : Nat) : List Cl := log.filter fun x => decide (x.col = (j : Int))
structure ColsAt (w : World) (B cb n : Nat) (log : List Cl) (cs : Array Value) (R : Nat → ColPl) : Prop where
  row : RowB w cb 62 cs
  size : cs.size = n
  cbB : B ≤ cb
  slot : ∀ j, j < n → cs[j]? = some (.slice (some ⟨(R j).b, (R j).o, none⟩) (colOf log j).length (R j).cap)
  fit : ∀ j, j < n → (colOf log j).length ≤ (R j).cap
  blk : ∀ j, j < n → B ≤ (R j).b ∧ (R j).b ≠ cb ∧ (R j).b < w.heap.size
  room : ∀ j, j < n → ∀ i, i < (R j).cap * 6 → (w.cell? ⟨(R j).b, (R j).o + i, none⟩).isSome = true ∧ w.frozen? ⟨(R j).b, (R j).o + i, none⟩ = false
  vals : ∀ j i x, j < n → (colOf log j)[i]? = some x → VlAt w B (R j).b ((R j).o + i * 6) x
  apart : ∀ i j, i < n → j < n → i ≠ j → (R i).b = (R j).b → (R i).o + (R i).cap * 6 ≤ (R j).o ∨ (R j).o + (R j).cap * 6 ≤ (R i).o
def SomeCols (w : World) (B cb n : Nat) (log : List Cl) : Prop := ∃ cs R, ColsAt w B cb n log cs R
/-- Columns among which nothing was written. -/
theorem ColsAt.keep {w w' : World} {B cb n : Nat} {log : List Cl} {cs : Array Value} {R : Nat → ColPl} (h : ColsAt w B cb n log cs R) (hb : Below w.heap.size w w') : ColsAt w' B cb n log cs R where
  row := h.row.keep hb h.row.lt
  size := h.size
  cbB := h.cbB
  slot := h.slot
  fit := h.fit
  blk := fun j hj => ⟨(h.blk j hj).1, (h.blk j hj).2.1, Nat.lt_of_lt_of_le (h.blk j hj).2.2 hb.size⟩
  room := fun j hj i hi => by
    have := h.room j hj i hi
    rw [bcell hb (h.blk j hj).2.2, hb.frozen (p := ⟨(R j).b, (R j).o + i, none⟩) (h.blk j hj).2.2]
    exact this
  vals := fun j i x hj hx => (h.vals j i x hj hx).frame (hb.mono (Nat.le_of_lt (Nat.lt_of_le_of_lt (h.blk j hj).1 (h.blk j hj).2.2))) fun i' _ => bcell hb (h.blk j hj).2.2
  apart := h.apart
theorem SomeCols.keep {w w' : World} {B cb n : Nat} {log : List Cl} (h : SomeCols w B cb n log) (hb : Below w.heap.size w w') : SomeCols w' B cb n log := by
  obtain ⟨cs, R, h⟩ := h
  exact ⟨cs, R, h.keep hb⟩
end Go.Proofs.YtglgclkgppomiaaGreat

namespace Go.Proofs.YtglgclkgppomiaaGreat
open Go Go.RowKit

theorem colOf_snoc (log : List Cl) (x : Cl) (i : Nat) : colOf (log ++ [x]) i = colOf log i ++ (if x.col = (i : Int) then [x] else []) := by
  unfold colOf
  rw [List.filter_append]
  congr 1
  by_cases h : x.col = (i : Int) <;> simp [h]
theorem setCells_other (b : Nat) : ∀ (vs : List Value) (o : Nat) (w : World) {g : Nat}, g ≠ b → (w.setCells b o vs).heap[g]? = w.heap[g]?
  | [], _, _, _, _ => rfl
  | v :: r, o, w, g, h => by rw [World.setCells, setCells_other b r _ _ h, setCell_other _ _ _ (by exact h)]
theorem setCells_size (b : Nat) : ∀ (vs : List Value) (o : Nat) (w : World), (w.setCells b o vs).heap.size = w.heap.size
  | [], _, _ => rfl
  | v :: r, o, w => by rw [World.setCells, setCells_size b r, setCell_size]
theorem below_setCells {B b : Nat} (hb : B ≤ b) : ∀ (vs : List Value) (o : Nat) (w : World), Below B w (w.setCells b o vs)
  | [], _, _ => Below.refl _ _
  | v :: r, o, w => by
    rw [World.setCells]
    exact (below_setCell (Below.refl _ _) (p := ⟨b, o, none⟩) hb v).trans (below_setCells hb r _ _)
theorem below_grown {B : Nat} {w w' : World} (h : w.grownBy w' none) (hB : B ≤ w.heap.size) : Below B w w' :=
  ⟨h.os, h.tape, h.output, h.size, fun b hb => h.block b (by omega) (by simp)⟩

/-- What an append leaves: the old cells and the new ones lie at the new place, all others are as they were. -/
theorem appOne_place {w w' : World} {b o len cap b' o' cap' : Nat} {olds news : List Value} (h : AppOne w 76 6 b o len cap olds news b' o' cap' w') (hl : olds.length = len * 6) (hnl : news.length = 6)
    (holds : ∀ i u, olds[i]? = some u → w.cell? ⟨b, o + i, none⟩ = some u) (hroom : ∀ i, i < cap * 6 → (w.cell? ⟨b, o + i, none⟩).isSome = true ∧ w.frozen? ⟨b, o + i, none⟩ = false) :
    len + 1 ≤ cap' ∧ (∀ i, i < len * 6 → w'.cell? ⟨b', o' + i, none⟩ = w.cell? ⟨b, o + i, none⟩) ∧ (∀ i u, news[i]? = some u → w'.cell? ⟨b', o' + (len * 6 + i), none⟩ = some u) ∧
    (∀ i, i < cap' * 6 → (w'.cell? ⟨b', o' + i, none⟩).isSome = true ∧ w'.frozen? ⟨b', o' + i, none⟩ = false) := by
  rcases h with ⟨hlt, rfl, rfl, rfl, rfl⟩ | ⟨hle, rfl, hle', hge, hlt', hg, cur, hcur, hcs, htk⟩
  · have hin : ∀ i, i < news.length → (w.cell? ⟨b', o' + len * 6 + i, none⟩).isSome = true := fun i hi => by
      rw [Nat.add_assoc]
      exact (hroom (len * 6 + i) (by omega)).1
    refine ⟨hlt, fun i hi => World.cell?_setCells_out _ _ _ _ _ (fun _ _ => .inl (by show o' + i < _; omega)), fun i u hu => ?_, fun i hi => ?_⟩
    · have hi : i < news.length := (List.getElem?_eq_some_iff.1 hu).1
      rw [← Nat.add_assoc, World.cell?_setCells_in _ _ _ _ hin i hi, ← hu, List.getElem?_eq_getElem hi]
    · rw [World.frozen?_setCells]
      refine ⟨?_, (hroom i hi).2⟩
      by_cases h : len * 6 ≤ i ∧ i < len * 6 + 6
      · have := World.cell?_setCells_in b' news (o' + len * 6) w hin (i - len * 6) (by omega)
        rw [show o' + len * 6 + (i - len * 6) = o' + i by omega] at this
        rw [this]; rfl
      · rw [World.cell?_setCells_out _ _ _ _ _ (fun _ _ => by show o' + i < _ ∨ _ ≤ o' + i; omega)]
        exact (hroom i hi).1
  · have hcell : ∀ i, w'.cell? ⟨b', i, none⟩ = cur[i]? := fun i => by simp [World.cell?, hcur]
    have hall : ∀ i, i < (len + 1) * 6 → cur[i]? = (olds ++ news)[i]? := fun i hi => by
      rw [← htk, List.getElem?_take_of_lt hi]; simp
    refine ⟨hle', fun i hi => ?_, fun i u hu => ?_, fun i hi => ⟨?_, by simp [World.frozen?, hcur]⟩⟩
    · rw [Nat.zero_add, hcell, hall i (by omega), List.getElem?_append_left (by omega)]
      have : ∃ u, olds[i]? = some u := ⟨_, List.getElem?_eq_getElem (by omega)⟩
      obtain ⟨u, hu⟩ := this
      rw [hu, holds i u hu]
    · have hi : i < news.length := (List.getElem?_eq_some_iff.1 hu).1
      rw [Nat.zero_add, hcell, hall _ (by omega), List.getElem?_append_right (by omega), ← hu]
      congr 1
      omega
    · rw [Nat.zero_add, hcell, Array.getElem?_eq_getElem (by omega)]; rfl
/-- The cells of another column are as they were. -/
theorem appOne_apart {w w' : World} {b o len cap b' o' cap' : Nat} {olds news : List Value} (h : AppOne w 76 6 b o len cap olds news b' o' cap' w') (hnl : news.length = 6) {g i : Nat} (hg : g < w.heap.size)
    (ha : g = b → i < o ∨ o + cap * 6 ≤ i) : w'.cell? ⟨g, i, none⟩ = w.cell? ⟨g, i, none⟩ ∧ w'.frozen? ⟨g, i, none⟩ = w.frozen? ⟨g, i, none⟩ := by
  rcases h with ⟨hlt, rfl, rfl, rfl, rfl⟩ | ⟨hle, rfl, hle', hge, hlt', hgr, cur, hcur, hcs, htk⟩
  · refine ⟨World.cell?_setCells_out _ _ _ _ _ (fun h1 _ => ?_), World.frozen?_setCells _ _ _ _ _⟩
    have := ha h1
    show i < _ ∨ _ ≤ i
    omega
  · exact ⟨World.cell?_of_block (a := ⟨g, i, none⟩) (hgr.block g hg (by simp)), World.frozen?_of_block (a := ⟨g, i, none⟩) (hgr.block g hg (by simp))⟩
theorem appOne_below {w w' : World} {B b o len cap b' o' cap' : Nat} {olds news : List Value} (h : AppOne w 76 6 b o len cap olds news b' o' cap' w') (hB : B ≤ b) (hB2 : B ≤ w.heap.size) : Below B w w' := by
  rcases h with ⟨hlt, rfl, rfl, rfl, rfl⟩ | ⟨hle, rfl, hle', hge, hlt', hgr, cur, hcur, hcs, htk⟩
  · exact below_setCells hB _ _ _
  · exact below_grown hgr hB2
theorem appOne_block {w w' : World} {b o len cap b' o' cap' : Nat} {olds news : List Value} (h : AppOne w 76 6 b o len cap olds news b' o' cap' w') {g : Nat} (hg : g < w.heap.size) (hne : g ≠ b) : w'.heap[g]? = w.heap[g]? := by
  rcases h with ⟨hlt, rfl, rfl, rfl, rfl⟩ | ⟨hle, rfl, hle', hge, hlt', hgr, cur, hcur, hcs, htk⟩
  · exact setCells_other _ _ _ _ hne
  · exact hgr.block g hg (by simp)
theorem appOne_where {w w' : World} {b o len cap b' o' cap' : Nat} {olds news : List Value} (h : AppOne w 76 6 b o len cap olds news b' o' cap' w') (hb : b < w.heap.size) :
    w.heap.size ≤ w'.heap.size ∧ b' < w'.heap.size ∧ ((b' = b ∧ o' = o ∧ cap' = cap) ∨ w.heap.size ≤ b') := by
  rcases h with ⟨hlt, rfl, rfl, rfl, rfl⟩ | ⟨hle, rfl, hle', hge, hlt', hgr, cur, hcur, hcs, htk⟩
  · rw [setCells_size]; exact ⟨Nat.le_refl _, hb, .inl ⟨rfl, rfl, rfl⟩⟩
  · exact ⟨hgr.size, hlt', .inr hge⟩

/-- The cells of a value. -/
abbrev vlCells (A : Option Addr) (nn c : Nat) (u : Int) (x : Cl) : List Value := [.slice A nn c, .int .u64 u, .int .i8 (kdOf x.null x.kind), .int .u8 x.de, .int .u8 x.rep, .int .u16 (65535 - x.col)]
/-- The cells of a column are known. -/
def ColsAt.olds {w : World} {B cb n : Nat} {log : List Cl} {cs : Array Value} {R : Nat → ColPl} (_ : ColsAt w B cb n log cs R) (j : Nat) : List Value :=
  (List.range ((colOf log j).length * 6)).map fun i => (w.cell? ⟨(R j).b, (R j).o + i, none⟩).getD .nilFunc
theorem ColsAt.olds_length {w : World} {B cb n : Nat} {log : List Cl} {cs : Array Value} {R : Nat → ColPl} (h : ColsAt w B cb n log cs R) (j : Nat) : (h.olds j).length = (colOf log j).length * 6 := by
  simp [ColsAt.olds]
theorem ColsAt.olds_get {w : World} {B cb n : Nat} {log : List Cl} {cs : Array Value} {R : Nat → ColPl} (h : ColsAt w B cb n log cs R) {j : Nat} (hj : j < n) (i : Nat) (u : Value) (hu : (h.olds j)[i]? = some u) :
    w.cell? ⟨(R j).b, (R j).o + i, none⟩ = some u := by
  have hi : i < (colOf log j).length * 6 := by rw [← h.olds_length j]; exact (List.getElem?_eq_some_iff.1 hu).1
  have hs := (h.room j hj i (by have := h.fit j hj; omega)).1
  simp only [ColsAt.olds, List.getElem?_map, List.getElem?_range hi, Option.map_some, Option.some.injEq] at hu
  rw [← hu]
  cases hc : w.cell? ⟨(R j).b, (R j).o + i, none⟩ with
  | none => rw [hc] at hs; simp at hs
  | some v => rfl

theorem ColsAt.push {w w' : World} {B cb n : Nat} {log : List Cl} {cs : Array Value} {R : Nat → ColPl} (h : ColsAt w B cb n log cs R) {j : Nat} (hj : j < n) {x : Cl} (hx : x.col = (j : Int)) {A : Option Addr} {nn c : Nat} {u : Int}
    (hv : VR w 0 B x.null x.kind x.num x.text A nn c u) {b' o' cap' : Nat} (hap : AppOne w 76 6 (R j).b (R j).o (colOf log j).length (R j).cap (h.olds j) (vlCells A nn c u x) b' o' cap' w') :
    ColsAt (w'.setCell ⟨cb, j, none⟩ (.slice (some ⟨b', o', none⟩) ((colOf log j).length + 1) cap')) B cb n (log ++ [x]) (cs.setIfInBounds j (.slice (some ⟨b', o', none⟩) ((colOf log j).length + 1) cap')) (fun i => if i = j then ⟨b', o', cap'⟩ else R i) ∧
    Below B w (w'.setCell ⟨cb, j, none⟩ (.slice (some ⟨b', o', none⟩) ((colOf log j).length + 1) cap')) := by
  obtain ⟨hjB, hjc, hjs⟩ := h.blk j hj
  obtain ⟨p1, p2, p3, p4⟩ := appOne_place hap (h.olds_length j) rfl (h.olds_get hj) (h.room j hj)
  obtain ⟨q1, q2, q3⟩ := appOne_where hap hjs
  have hcbs := h.row.lt
  have hbel : Below B w w' := appOne_below hap hjB (by omega)
  have hne : b' ≠ cb := by rcases q3 with ⟨rfl, _⟩ | q3 <;> omega
  have hBb : B ≤ b' := by rcases q3 with ⟨rfl, _⟩ | q3 <;> omega
  have hrow := h.row.of_eq (appOne_block hap hcbs (Ne.symm hjc))
  generalize hS : Value.slice (some ⟨b', o', none⟩) ((colOf log j).length + 1) cap' = S
  have hoc : ∀ g i, g ≠ cb → (w'.setCell ⟨cb, j, none⟩ S).cell? ⟨g, i, none⟩ = w'.cell? ⟨g, i, none⟩ := fun g i hg => World.cell?_of_block (a := ⟨g, i, none⟩) (setCell_other _ _ _ hg)
  have hof : ∀ g i, g ≠ cb → (w'.setCell ⟨cb, j, none⟩ S).frozen? ⟨g, i, none⟩ = w'.frozen? ⟨g, i, none⟩ := fun g i hg => World.frozen?_of_block (a := ⟨g, i, none⟩) (setCell_other _ _ _ hg)
  have hbel2 : Below B w (w'.setCell ⟨cb, j, none⟩ S) := below_setCell hbel (p := ⟨cb, j, none⟩) h.cbB S
  have hother : ∀ i, i < n → i ≠ j → ∀ k, k < (R i).cap * 6 → (w'.setCell ⟨cb, j, none⟩ S).cell? ⟨(R i).b, (R i).o + k, none⟩ = w.cell? ⟨(R i).b, (R i).o + k, none⟩ ∧
      (w'.setCell ⟨cb, j, none⟩ S).frozen? ⟨(R i).b, (R i).o + k, none⟩ = w.frozen? ⟨(R i).b, (R i).o + k, none⟩ := fun i hi hij k hk => by
    obtain ⟨_, hic, his⟩ := h.blk i hi
    rw [hoc _ _ hic, hof _ _ hic]
    exact appOne_apart hap rfl his (fun he => by have := h.apart i j hi hj hij he; omega)
  have hcol : ∀ i, colOf (log ++ [x]) i = colOf log i ++ (if i = j then [x] else []) := fun i => by
    rw [colOf_snoc, hx]
    by_cases he : i = j
    · subst he; simp
    · rw [if_neg he, if_neg (by omega)]
  refine ⟨⟨hrow.set j S, by rw [Array.size_setIfInBounds]; exact h.size, h.cbB, fun i hi => ?_, fun i hi => ?_, fun i hi => ?_, fun i hi k hk => ?_, fun i k y hi hy => ?_, fun i k hi hk hik he => ?_⟩, hbel2⟩
  · by_cases he : i = j
    · subst he
      rw [Array.getElem?_setIfInBounds_self_of_lt (by rw [h.size]; exact hi), if_pos rfl, hcol, if_pos rfl, List.length_append, ← hS]
      rfl
    · rw [Array.getElem?_setIfInBounds_ne (Ne.symm he), if_neg he, hcol, if_neg he, List.append_nil]
      exact h.slot i hi
  · by_cases he : i = j
    · subst he; rw [hcol, if_pos rfl, if_pos rfl, List.length_append]; exact p1
    · rw [hcol, if_neg he, if_neg he, List.append_nil]; exact h.fit i hi
  · by_cases he : i = j
    · subst he; rw [if_pos rfl, setCell_size]; exact ⟨hBb, hne, q2⟩
    · rw [if_neg he, setCell_size]; exact ⟨(h.blk i hi).1, (h.blk i hi).2.1, by have := (h.blk i hi).2.2; omega⟩
  · by_cases he : i = j
    · subst he
      rw [if_pos rfl] at hk ⊢
      rw [hoc _ _ hne, hof _ _ hne]
      exact p4 k hk
    · rw [if_neg he] at hk ⊢
      rw [(hother i hi he k hk).1, (hother i hi he k hk).2]
      exact h.room i hi k hk
  · by_cases he : i = j
    · subst he
      rw [if_pos rfl]
      rw [hcol, if_pos rfl] at hy
      by_cases hlt : k < (colOf log i).length
      · rw [List.getElem?_append_left hlt] at hy
        refine (h.vals i k y hi hy).frame hbel2 (fun r hr => ?_)
        rw [hoc _ _ hne]
        show w'.cell? ⟨b', o' + k * 6 + r, none⟩ = _
        rw [Nat.add_assoc, Nat.add_assoc]
        exact p2 (k * 6 + r) (by omega)
      · have hk : k = (colOf log i).length := by
          have := (List.getElem?_eq_some_iff.1 hy).1
          simp at this; omega
        subst hk
        rw [List.getElem?_append_right (Nat.le_refl _)] at hy
        simp at hy
        subst hy
        have hp := fun r v hv' => p3 r v hv'
        refine ⟨A, nn, c, u, hv.mono hbel2 (Nat.le_refl _), ?_, ?_, ?_, ?_, ?_, ?_⟩ <;> rw [hoc _ _ hne]
        · exact p3 0 _ rfl
        · exact p3 1 _ rfl
        · exact p3 2 _ rfl
        · exact p3 3 _ rfl
        · exact p3 4 _ rfl
        · exact p3 5 _ rfl
    · rw [if_neg he]
      rw [hcol, if_neg he, List.append_nil] at hy
      have hk : k < (colOf log i).length := (List.getElem?_eq_some_iff.1 hy).1
      have hf := h.fit i hi
      refine (h.vals i k y hi hy).frame hbel2 (fun r hr => ?_)
      rw [Nat.add_assoc]
      exact (hother i hi he (k * 6 + r) (by omega)).1
  · by_cases h1 : i = j
    · subst h1
      rw [if_pos rfl] at he ⊢
      rw [if_neg (Ne.symm hik)] at he ⊢
      rcases q3 with ⟨rfl, rfl, rfl⟩ | q3
      · exact h.apart i k hi hk hik he
      · have := (h.blk k hk).2.2
        have he' : b' = (R k).b := he
        omega
    · rw [if_neg h1] at he ⊢
      by_cases h2 : k = j
      · subst h2
        rw [if_pos rfl] at he ⊢
        rcases q3 with ⟨rfl, rfl, rfl⟩ | q3
        · exact h.apart i k hi hk hik he
        · have := (h.blk i hi).2.2
          have he' : (R i).b = b' := he
          omega
      · rw [if_neg h2] at he ⊢
        exact h.apart i k hi hk hik he
/-- Columns that lie in none of the blocks K. -/
def ColsK (w : World) (B cb n : Nat) (log : List Cl) (K : Nat → Prop) : Prop := ∃ cs R, ColsAt w B cb n log cs R ∧ ¬ K cb ∧ ∀ j, j < n → ¬ K (R j).b
theorem ColsK.keep {w w' : World} {B cb n : Nat} {log : List Cl} {K : Nat → Prop} (h : ColsK w B cb n log K) (hb : Below w.heap.size w w') : ColsK w' B cb n log K := by
  obtain ⟨cs, R, h, h1, h2⟩ := h
  exact ⟨cs, R, h.keep hb, h1, h2⟩
theorem ColsK.less {w : World} {B cb n : Nat} {log : List Cl} {K K' : Nat → Prop} (h : ColsK w B cb n log K) (hk : ∀ g, K' g → K g) : ColsK w B cb n log K' := by
  obtain ⟨cs, R, h, h1, h2⟩ := h
  exact ⟨cs, R, h, fun h' => h1 (hk _ h'), fun j hj h' => h2 j hj (hk _ h')⟩
/-- Blocks that were made behind the columns may be kept, too. -/
theorem ColsK.more {w w0 : World} {B cb n : Nat} {log : List Cl} {K K' : Nat → Prop} (h : ColsK w0 B cb n log K) (hb : Below w0.heap.size w0 w) (hk : ∀ g, K' g → K g ∨ w0.heap.size ≤ g) : ColsK w B cb n log K' := by
  obtain ⟨cs, R, h, h1, h2⟩ := h
  refine ⟨cs, R, h.keep hb, fun h' => ?_, fun j hj h' => ?_⟩
  · have := h.row.lt
    rcases hk _ h' with h3 | h3
    · exact h1 h3
    · omega
  · have := (h.blk j hj).2.2
    rcases hk _ h' with h3 | h3
    · exact h2 j hj h3
    · omega
/-- A cell of a block that is kept may be written. -/
theorem ColsK.poke {w : World} {B cb n : Nat} {log : List Cl} {K : Nat → Prop} (h : ColsK w B cb n log K) {g : Nat} (hg : K g) (hB : B ≤ g) (i : Nat) (v : Value) : ColsK (w.setCell ⟨g, i, none⟩ v) B cb n log K := by
  obtain ⟨cs, R, h, h1, h2⟩ := h
  have hoc : ∀ b k, b ≠ g → (w.setCell ⟨g, i, none⟩ v).cell? ⟨b, k, none⟩ = w.cell? ⟨b, k, none⟩ := fun b k hb => World.cell?_of_block (a := ⟨b, k, none⟩) (setCell_other _ _ _ hb)
  have hof : ∀ b k, b ≠ g → (w.setCell ⟨g, i, none⟩ v).frozen? ⟨b, k, none⟩ = w.frozen? ⟨b, k, none⟩ := fun b k hb => World.frozen?_of_block (a := ⟨b, k, none⟩) (setCell_other _ _ _ hb)
  have hne : ∀ j, j < n → (R j).b ≠ g := fun j hj he => h2 j hj (he ▸ hg)
  refine ⟨cs, R, ⟨h.row.of_eq (setCell_other _ _ _ (fun he => h1 ((show cb = g from he) ▸ hg))), h.size, h.cbB, h.slot, h.fit, fun j hj => by rw [setCell_size]; exact h.blk j hj, fun j hj k hk => ?_, fun j k x hj hx => ?_, h.apart⟩, h1, h2⟩
  · rw [hoc _ _ (hne j hj), hof _ _ (hne j hj)]
    exact h.room j hj k hk
  · exact (h.vals j k x hj hx).frame (below_setCell (Below.refl B w) (p := ⟨g, i, none⟩) hB v) (fun r _ => hoc _ _ (hne j hj))
theorem ColsAt.pushK {w w' : World} {B cb n : Nat} {log : List Cl} {cs : Array Value} {R : Nat → ColPl} (h : ColsAt w B cb n log cs R) {K : Nat → Prop} (hKc : ¬ K cb) (hKR : ∀ j, j < n → ¬ K (R j).b) (hK : ∀ g, K g → g < w.heap.size)
    {j : Nat} (hj : j < n) {x : Cl} (hx : x.col = (j : Int)) {A : Option Addr} {nn c : Nat} {u : Int}
    (hv : VR w 0 B x.null x.kind x.num x.text A nn c u) {b' o' cap' : Nat} (hap : AppOne w 76 6 (R j).b (R j).o (colOf log j).length (R j).cap (h.olds j) (vlCells A nn c u x) b' o' cap' w') :
    ColsK (w'.setCell ⟨cb, j, none⟩ (.slice (some ⟨b', o', none⟩) ((colOf log j).length + 1) cap')) B cb n (log ++ [x]) K ∧
    Below B w (w'.setCell ⟨cb, j, none⟩ (.slice (some ⟨b', o', none⟩) ((colOf log j).length + 1) cap')) ∧
    ∀ g, K g → (w'.setCell ⟨cb, j, none⟩ (.slice (some ⟨b', o', none⟩) ((colOf log j).length + 1) cap')).heap[g]? = w.heap[g]? := by
  obtain ⟨hp, hbl⟩ := h.push hj hx hv hap
  refine ⟨⟨_, _, hp, hKc, fun i hi hk => ?_⟩, hbl, fun g hg => ?_⟩
  · by_cases he : i = j
    · rw [if_pos he] at hk
      have hk' : K b' := hk
      rcases (appOne_where hap (h.blk j hj).2.2).2.2 with ⟨rfl, _⟩ | h3
      · exact hKR j hj hk'
      · have := hK _ hk'
        omega
    · rw [if_neg he] at hk
      exact hKR i hi hk
  · rw [setCell_other (b := g) w' ⟨cb, j, none⟩ _ (fun he => hKc ((show g = cb from he) ▸ hg))]
    exact appOne_block hap (hK g hg) (fun he => hKR j hj (he ▸ hg))
end Go.Proofs.YtglgclkgppomiaaGreat
