/- Rows of values whose data lie between two blocks; cells that are those of values, each made by a call of its own. The walk of impl.row. -/
import Derived.Test.YtglgclkgppomiaaGreatZ11
import Derived.Test.YtglgclkgppomiaaGreatZ15
set_option linter.unusedVariables false
set_option linter.unusedSimpArgs false
namespace Go.Proofs.YtglgclkgppomiaaGreat
open Go Go.RowKit

/-- The value of a cell, in memory, its data in the blocks from lo on and below B. -/
def VlIn (w : World) (lo B b o : Nat) (x : Cl) : Prop :=
  ∃ A n c u, VR w lo B x.null x.kind x.num x.text A n c u ∧ w.cell? ⟨b, o, none⟩ = some (.slice A n c) ∧ w.cell? ⟨b, o + 1, none⟩ = some (.int .u64 u) ∧ w.cell? ⟨b, o + 2, none⟩ = some (.int .i8 (kdOf x.null x.kind)) ∧
    w.cell? ⟨b, o + 3, none⟩ = some (.int .u8 x.de) ∧ w.cell? ⟨b, o + 4, none⟩ = some (.int .u8 x.rep) ∧ w.cell? ⟨b, o + 5, none⟩ = some (.int .u16 (65535 - x.col))
theorem VlIn.frame {w w' : World} {lo B lo' B' b o : Nat} (hf : ∀ b, lo ≤ b → b < B → w'.heap[b]? = w.heap[b]?) (hlo : lo' ≤ lo) (hB : B ≤ B') (hb : lo ≤ b ∧ b < B) {x : Cl} (h : VlIn w lo B b o x) : VlIn w' lo' B' b o x := by
  have hc : ∀ i, w'.cell? ⟨b, i, none⟩ = w.cell? ⟨b, i, none⟩ := fun i => World.cell?_of_block (a := ⟨b, i, none⟩) (hf b hb.1 hb.2)
  obtain ⟨A, n, c, u, hv, h0, h1, h2, h3, h4, h5⟩ := h
  exact ⟨A, n, c, u, hv.frame hf hlo hB, (hc _).trans h0, (hc _).trans h1, (hc _).trans h2, (hc _).trans h3, (hc _).trans h4, (hc _).trans h5⟩
/-- A row of values behind a slice. -/
def RowIn (w : World) (lo B : Nat) (A : Option Addr) (n c : Nat) (cs : List Cl) : Prop :=
  cs.length = n ∧ n ≤ c ∧ (0 < n → ∃ b o, A = some ⟨b, o, none⟩ ∧ (lo ≤ b ∧ b < B) ∧ ∀ i x, cs[i]? = some x → VlIn w lo B b (o + i * 6) x)
theorem RowIn.frame {w w' : World} {lo B lo' B' : Nat} (hf : ∀ b, lo ≤ b → b < B → w'.heap[b]? = w.heap[b]?) (hlo : lo' ≤ lo) (hB : B ≤ B') {A : Option Addr} {n c : Nat} {cs : List Cl} (h : RowIn w lo B A n c cs) : RowIn w' lo' B' A n c cs := by
  obtain ⟨h1, h2, h3⟩ := h
  refine ⟨h1, h2, fun hn => ?_⟩
  obtain ⟨b, o, hA, hb, h⟩ := h3 hn
  exact ⟨b, o, hA, ⟨Nat.le_trans hlo hb.1, Nat.lt_of_lt_of_le hb.2 hB⟩, fun i x hx => (h i x hx).frame hf hlo hB hb⟩
structure FlatVw (w : World) (lo B : Nat) (row : Value) (xs : List Value) (cs : List Cl) (A : Nat → Option Addr) (n c : Nat → Nat) (u : Nat → Int) (l e : Nat → Nat) : Prop where
  len : xs.length = cs.length * 6
  at_ : ∀ i x, cs[i]? = some x → VR w (l i) (e i) x.null x.kind x.num x.text (A i) (n i) (c i) (u i)
  bnd : ∀ i x, cs[i]? = some x → lo ≤ l i ∧ e i ≤ B ∧ ∀ g, row.ownBlock = some g → g < l i ∨ e i ≤ g
  get : ∀ i x, cs[i]? = some x → ∀ r v, (vCells (A i) (n i) (c i) (u i) (kdOf x.null x.kind) x.de x.rep (65535 - x.col))[r]? = some v → xs[i * 6 + r]? = some v
/-- The cells of values, each made by a call of its own, none of which wrote in the row's block. -/
def FlatV (w : World) (lo B : Nat) (row : Value) (xs : List Value) (cs : List Cl) : Prop := ∃ A n c u l e, FlatVw w lo B row xs cs A n c u l e
theorem FlatV.nil (w : World) (lo B : Nat) (row : Value) : FlatV w lo B row [] [] := ⟨fun _ => none, fun _ => 0, fun _ => 0, fun _ => 0, fun _ => 0, fun _ => 0, ⟨rfl, fun i t h => by simp at h, fun i t h => by simp at h, fun i t h => by simp at h⟩⟩
theorem FlatV.frame {w w' : World} {lo B lo' B' : Nat} {row row' : Value} (hf : ∀ b, lo ≤ b → b < B → row.ownBlock ≠ some b → w'.heap[b]? = w.heap[b]?) (hr : ∀ g, row'.ownBlock = some g → row.ownBlock = some g ∨ B ≤ g) (hlo : lo' ≤ lo) (hB : B ≤ B') {xs : List Value} {cs : List Cl} (h : FlatV w lo B row xs cs) : FlatV w' lo' B' row' xs cs := by
  obtain ⟨A, n, c, u, l, e, h⟩ := h
  refine ⟨A, n, c, u, l, e, ⟨h.len, fun i t ht => ?_, fun i t ht => ?_, h.get⟩⟩
  · obtain ⟨b1, b2, b3⟩ := h.bnd i t ht
    refine (h.at_ i t ht).frame (fun b k1 k2 => hf b (Nat.le_trans b1 k1) (Nat.lt_of_lt_of_le k2 b2) fun hb => ?_) (Nat.le_refl _) (Nat.le_refl _)
    have := b3 b hb
    omega
  · obtain ⟨b1, b2, b3⟩ := h.bnd i t ht
    refine ⟨Nat.le_trans hlo b1, Nat.le_trans b2 hB, fun g hg => ?_⟩
    rcases hr g hg with h1 | h1
    · exact b3 g h1
    · exact .inr (Nat.le_trans b2 h1)
theorem FlatV.snoc {w : World} {lo B l0 e0 : Nat} {row : Value} {xs : List Value} {cs : List Cl} (h : FlatV w lo B row xs cs) {x0 : Cl} {A0 : Option Addr} {n0 c0 : Nat} {u0 : Int} (ht : VR w l0 e0 x0.null x0.kind x0.num x0.text A0 n0 c0 u0)
    (hl : lo ≤ l0) (he : e0 ≤ B) (hg : ∀ g, row.ownBlock = some g → g < l0 ∨ e0 ≤ g) :
    FlatV w lo B row (xs ++ (vCells A0 n0 c0 u0 (kdOf x0.null x0.kind) x0.de x0.rep (65535 - x0.col)).toList) (cs ++ [x0]) := by
  obtain ⟨A, n, c, u, l, e, h⟩ := h
  refine ⟨fun i => if i = cs.length then A0 else A i, fun i => if i = cs.length then n0 else n i, fun i => if i = cs.length then c0 else c i, fun i => if i = cs.length then u0 else u i, fun i => if i = cs.length then l0 else l i, fun i => if i = cs.length then e0 else e i, ⟨?_, fun i x hx => ?_, fun i x hx => ?_, fun i x hx r v hv => ?_⟩⟩
  · rw [List.length_append, List.length_append, h.len]
    simp
    omega
  · by_cases hi : i = cs.length
    · subst hi
      simp at hx
      subst hx
      simp only [if_pos]
      exact ht
    · have hlt : i < cs.length := by
        have := (List.getElem?_eq_some_iff.1 hx).1
        simp at this; omega
      rw [List.getElem?_append_left hlt] at hx
      simp only [hi, if_false]
      exact h.at_ i x hx
  · by_cases hi : i = cs.length
    · subst hi
      simp only [if_pos]
      exact ⟨hl, he, hg⟩
    · have hlt : i < cs.length := by
        have := (List.getElem?_eq_some_iff.1 hx).1
        simp at this; omega
      rw [List.getElem?_append_left hlt] at hx
      simp only [hi, if_false]
      exact h.bnd i x hx
  · by_cases hi : i = cs.length
    · subst hi
      simp at hx
      subst hx
      simp only [if_pos] at hv
      rw [List.getElem?_append_right (by rw [h.len]; omega), h.len, show cs.length * 6 + r - cs.length * 6 = r by omega]
      simpa using hv
    · have hlt : i < cs.length := by
        have := (List.getElem?_eq_some_iff.1 hx).1
        simp at this; omega
      rw [List.getElem?_append_left hlt] at hx
      simp only [hi, if_false] at hv
      have hr : r < 6 := by
        have := (Array.getElem?_eq_some_iff.1 hv).1
        simpa using this
      rw [List.getElem?_append_left (by rw [h.len]; omega)]
      exact h.get i x hx r v hv
theorem rowIn_owns {w : World} {lo B base : Nat} {v : Value} {N : Nat} {xs : List Value} {cs : List Cl} (h : w.ownsRow base 76 6 v N xs) (hN : cs.length = N) (hf : FlatV w lo B v xs cs) (hlo : lo ≤ base) (hB : B ≤ w.heap.size) : ∃ A c, v = .slice A N c ∧ RowIn w lo w.heap.size A N c cs := by
  have hcells := fun g hg => h.cells (g := g) hg
  have hlt := h.lt
  rcases h.2 with ⟨rfl, rfl⟩ | ⟨g, cap, cur, rfl, hb, hcur, hle, hmax, hsz, htk⟩
  · exact ⟨none, 0, rfl, hN, Nat.le_refl _, fun h0 => absurd h0 (by omega)⟩
  · obtain ⟨A, n, c, u, l, e, hF⟩ := hf
    have hg : ∀ k u, xs[k]? = some u → w.cell? ⟨g, k, none⟩ = some u := fun k u hu => by
      have := hcells g rfl k u hu
      rw [Addr.add_lit, Nat.zero_add] at this
      exact this
    refine ⟨_, cap, rfl, hN, hle, fun _ => ⟨g, 0, rfl, ⟨Nat.le_trans hlo (hlt g rfl).1, (hlt g rfl).2⟩, fun i x hx => ?_⟩⟩
    have hv := (hF.at_ i x hx).frame (w' := w) (fun _ _ _ => rfl) (hF.bnd i x hx).1 (Nat.le_trans (hF.bnd i x hx).2.1 hB)
    refine ⟨A i, n i, c i, u i, hv, ?_, ?_, ?_, ?_, ?_, ?_⟩ <;> rw [Nat.zero_add]
    · exact hg _ _ (hF.get i x hx 0 _ rfl)
    · exact hg _ _ (hF.get i x hx 1 _ rfl)
    · exact hg _ _ (hF.get i x hx 2 _ rfl)
    · exact hg _ _ (hF.get i x hx 3 _ rfl)
    · exact hg _ _ (hF.get i x hx 4 _ rfl)
    · exact hg _ _ (hF.get i x hx 5 _ rfl)
/-- The call hands back a row of these values, all in blocks of its own. -/
def MakesRow (cs : List Cl) (w : World) (e : Ending) (w' : World) : Prop := ∃ A c, e = .returned (.slice A cs.length c) ∧ RowIn w' w.heap.size w'.heap.size A cs.length c cs ∧ Below w.heap.size w w'
/-- A round: a value was made in blocks [l0, e0), its cells were laid in a block, and appended to the row. -/
theorem step_flatV {w5 w6 w7 : World} {base l0 e0 : Nat} {v : Value} {j g cap : Nat} {xs : List Value} {cs : List Cl} {B0 : Nat} {x : Cl} {A : Option Addr} {n c : Nat} {u : Int} {o : Obj}
    (hown : w5.ownsRow base 76 6 v j xs) (hflat : FlatV w5 base B0 v xs cs) (hB0 : B0 ≤ w5.heap.size) (hbase : base ≤ w5.heap.size) (hbA : Below w5.heap.size w5 w6) (hat : VR w6 l0 e0 x.null x.kind x.num x.text A n c u) (hl0 : w5.heap.size ≤ l0) (he0 : e0 ≤ w6.heap.size)
    (hgrow : (w6.alloc o).grownBy w7 v.ownBlock) (hat7 : v.ownBlock = some g ∨ g = w6.heap.size + 1) :
    FlatV w7 base w7.heap.size (.slice (some ⟨g, 0, none⟩) (j + 1) cap) (xs ++ (vCells A n c u (kdOf x.null x.kind) x.de x.rep (65535 - x.col)).toList) (cs ++ [x]) := by
  have hlt := hown.lt
  have hszA := hbA.size
  have hsz7 : w6.heap.size + 1 ≤ w7.heap.size := by have := hgrow.size; rwa [size_alloc1] at this
  have hblk : ∀ b, b < w6.heap.size → v.ownBlock ≠ some b → w7.heap[b]? = w6.heap[b]? := fun b h2 h3 =>
    (hgrow.block b (by rw [size_alloc1]; omega) (fun he => h3 he.symm)).trans (Below.heap_alloc w6 _ b h2)
  refine FlatV.snoc (l0 := l0) (e0 := e0) (hflat.frame (fun b h1 h2 h3 => (hblk b (by omega) h3).trans (hbA.block b (by omega))) (fun g' hg' => ?_) (Nat.le_refl _) (by omega)) (hat.frame (fun b h1 h2 => hblk b (by omega) fun he => ?_) (Nat.le_refl _) (Nat.le_refl _)) (by omega) (by omega) (fun g' hg' => ?_)
  · have : g = g' := by simpa [Value.ownBlock] using hg'
    subst this
    rcases hat7 with h | h
    · exact .inl h
    · exact .inr (by omega)
  · have := hlt b he
    omega
  · have : g = g' := by simpa [Value.ownBlock] using hg'
    subst this
    rcases hat7 with h | h
    · exact .inl (by have := (hlt g h).2; omega)
    · exact .inr (by omega)
end Go.Proofs.YtglgclkgppomiaaGreat

namespace Go.Proofs.YtglgclkgppomiaaGreat
open Go Go.RowKit

theorem set6_frame (w : World) (g : Nat) (b0 b1 b2 b3 b4 b5 : Value) {b : Nat} (hne : b ≠ g) :
    ((((((w.setCell ⟨g, 0, none⟩ b0).setCell ⟨g, 1, none⟩ b1).setCell ⟨g, 2, none⟩ b2).setCell ⟨g, 3, none⟩ b3).setCell ⟨g, 4, none⟩ b4).setCell ⟨g, 5, none⟩ b5).heap[b]? = w.heap[b]? := by
  rw [setCell_other (b := b) _ ⟨g, 5, none⟩ _ hne, setCell_other (b := b) _ ⟨g, 4, none⟩ _ hne, setCell_other (b := b) _ ⟨g, 3, none⟩ _ hne, setCell_other (b := b) _ ⟨g, 2, none⟩ _ hne, setCell_other (b := b) _ ⟨g, 1, none⟩ _ hne, setCell_other (b := b) _ ⟨g, 0, none⟩ _ hne]
theorem level86i (D : Option Addr) (dn dc : Nat) (u kd d0 r0 c0 : Int) (x : Cl) (hx : ClOk x) (w : World) :
    Calls Tryz.prog 86 #[vlV D dn dc u kd d0 r0 c0, .int .i64 x.rep, .int .i64 x.de, .int .i64 x.col] w fun e w' => e = .returned (vlV D dn dc u kd x.de x.rep (65535 - x.col)) ∧ Below w.heap.size w w' := by
  obtain ⟨r, hr⟩ := Int.eq_ofNat_of_zero_le hx.rep.1
  obtain ⟨d, hd⟩ := Int.eq_ofNat_of_zero_le hx.de.1
  obtain ⟨c, hc⟩ := Int.eq_ofNat_of_zero_le hx.col.1
  rw [hr, hd, hc]
  exact level86 D dn dc u kd d0 r0 c0 r d c (by have := hx.rep; omega) (by have := hx.de; omega) (by have := hx.col; omega) w
theorem value85k (k num : Int) (t : ByteArray) (hk : isKd k = true) (hn : numOk k num) (ht : t.size ≤ 1000000000000) (w : World) : Calls Tryz.prog 85 #[.int .i64 k, .int .i64 num, .string t] w fun e w' => ∃ A n c u, e = .returned (vlV A n c u (kdOf false k) 0 0 0) ∧ VR w' w.heap.size w'.heap.size false k num t A n c u ∧ Below w.heap.size w w' := by
  exact value85 k num t hk hn ht w

/-- The call hands back a row of these values, in an array of its own. -/
def MakesOwn (cs : List Cl) (w : World) (e : Ending) (w' : World) : Prop := ∃ v xs, e = .returned v ∧ w'.ownsRow w.heap.size 76 6 v cs.length xs ∧ FlatV w' w.heap.size w'.heap.size v xs cs ∧ Below w.heap.size w w'
set_option maxRecDepth 100000 in
set_option maxHeartbeats 1000000 in
theorem row53o (cs : List Cl) (A : Option Addr) (n c : Nat) (w : World) (hcs : ClsAt w w.heap.size A n c cs) (hok : ∀ x ∈ cs, ClOk x ∧ x.text.size ≤ 1000000000000) (hn : n ≤ 1000000000) :
    Calls Tryz.prog 53 #[.slice A n c] w (MakesOwn cs w) := by
  have HCS := Lib.hid hcs
  have HOK := Lib.hid hok
  obtain ⟨i76, j1, j2, j3, j4⟩ := info_parts info76
  have J1 := Lib.hid j1
  have J2 := Lib.hid j2
  have J3 := Lib.hid j3
  have J4 := Lib.hid j4
  have hlen := hcs.1
  have HLEN := Lib.hid hlen
  clear hcs hok j1 j2 j3 j4 hlen
  go_enter Tryz.func53, Tryz.ntmps53
  go_wp2_with fail
  go_loopw [3, 9] (fun v i wr => ∃ (j : Nat) (xs : List Value), j ≤ n ∧ i = .int .i64 j ∧ wr.ownsRow w.heap.size 76 6 v j xs ∧ FlatV wr w.heap.size wr.heap.size v xs (cs.take j) ∧ Below w.heap.size w wr) (fun _ i _ => n - (intOf i).toNat)
  case atStart => exact ⟨0, [], Nat.zero_le _, rfl, World.ownsRow_nil _ _ _ _, FlatV.nil _ _ _ _, Below.refl _ _⟩
  case round =>
    obtain ⟨j, xs, hj, rfl, hown, hflat, hb5⟩ := hrel
    have HOWN := Lib.hid hown
    have HFLAT := Lib.hid hflat
    have HB5 := Lib.hid hb5
    clear hown hflat
    by_cases hlt : j < n
    · obtain ⟨b, o, x, rfl, hb, hx, c0, c1, c2, c3, c4, c5, c6⟩ := HCS.out.at_ hlt
      have HX := Lib.hid hx
      have hxok := HOK.out x (List.mem_of_getElem? hx)
      have HXO := Lib.hid hxok
      have c0' := (bcell hb5 hb).trans c0
      have c1' := (bcell hb5 hb).trans c1
      have c2' := (bcell hb5 hb).trans c2
      have c3' := (bcell hb5 hb).trans c3
      have c4' := (bcell hb5 hb).trans c4
      have c5' := (bcell hb5 hb).trans c5
      have c6' := (bcell hb5 hb).trans c6
      have hj0 : (0 : Int) ≤ (j : Int) := Int.natCast_nonneg _
      have hj1 : (j : Int) < (n : Int) := by omega
      have hsz5 := hb5.size
      clear c0 c1 c2 c3 c4 c5 c6 hx hxok hb5
      go_wp2_with fail
      refine (null84 _).mono ?_
      rintro e w1 ⟨rfl, hb1⟩
      have rB : RowB w1 wr.heap.size 39 #[.int .i64 x.col, .int .i64 x.rep, .int .i64 x.de, .bool x.null, .int .i64 x.kind, .int .i64 x.num, .string x.text] := (RowB.new _ _ _).keep hb1 (by simp)
      have hbR : Below wr.heap.size wr w1 := ((Below.refl _ _).alloc (Nat.le_refl _) _).trans (hb1.mono (by simp))
      have hw1 := hbR.size
      have hr1 := rB.lt
      obtain ⟨b0, b1, b2, b3, b4, b5, b6⟩ := rB.c7
      have RB := Lib.hid rB
      have HBR := Lib.hid hbR
      obtain ⟨nl, hnl⟩ : ∃ nl, x.null = nl := ⟨_, rfl⟩
      rw [hnl] at b3
      have HNL := Lib.hid hnl
      clear hnl rB hbR hb1 c0' c1' c2' c3' c4' c5' c6'
      cases nl with
      | true =>
          go_wp2_with fail
          refine (level86i none 0 0 0 0 0 0 0 x HXO.out.1 _).mono ?_
          rintro e w2 ⟨rfl, hb2⟩
          have HBW2 := Lib.hid ((HBR.out.alloc hw1 _).trans (hb2.mono (by rw [size_alloc1]; omega)))
          have HOWN2 := Lib.hid (HOWN.out.kept (row := none) ⟨HBW2.out.os, HBW2.out.tape, HBW2.out.output, HBW2.out.size, fun k hk _ => HBW2.out.block k hk⟩ (by cases u3.ownBlock <;> simp))
          have HAT : Hid (VR w2 wr.heap.size w2.heap.size x.null x.kind x.num x.text none 0 0 0) := Lib.hid (by rw [HNL.out]; exact .null _ _ _)
          have HLE : Hid (wr.heap.size ≤ wr.heap.size ∧ w2.heap.size ≤ w2.heap.size) := Lib.hid ⟨Nat.le_refl _, Nat.le_refl _⟩
          clear hb2
          go_wp2_with (at_builtin; refine wpList_append_lies _ rfl _ _ 63 rfl w.heap.size 76 i76 _ 6 40 Tryz.underlying63 J1.out J2.out J3.out J4.out rfl (by decide) u3 j xs (by rfl) (HOWN2.out.alloc _) ⟨w2.heap.size, 0, none⟩ 1 1 (vCells none 0 0 0 0 x.de x.rep (65535 - x.col)).toList (by rfl) rfl (World.news_of_block (heap_alloc_new w2 _)) (by simp [Value.oneCell']) (by decide) (by simp only [maxLen]; omega) (by omega) (by have := HBW2.out.size; rw [size_alloc1]; omega) _ rfl ?_; intro g cap w' hown' hgrow hat hlt')
          have hgr' := hat.imp_right (fun h => h.trans (size_alloc1 _ _))
          have hflat := step_flatV (x := x) (cap := cap) HOWN.out HFLAT.out (Nat.le_refl _) hsz5 HBW2.out HAT.out HLE.out.1 HLE.out.2 hgrow hgr'
          have hb9 : Below w.heap.size w w' := (HB5.out.trans (HBW2.out.mono hsz5)).trans (below_grownRow_alloc hgrow (Nat.le_trans hsz5 HBW2.out.size) (fun k hk => (HOWN.out.lt k hk).1))
          rw [HNL.out] at hflat
          refine ⟨⟨j + 1, _, by omega, by go_num, hown', ?_, hb9⟩, by simp [intOf]; omega⟩
          rw [List.take_add_one, HX.out]
          exact hflat
      | false =>
          have hcan := HXO.out.1.there HNL.out
          have HCAN := Lib.hid hcan
          clear hcan
          go_wp2_with fail
          refine (value85k x.kind x.num x.text HCAN.out.kd HCAN.out.ok HXO.out.2 _).mono ?_
          rintro e w3 ⟨D, dn, dc, u, rfl, hv3, hb3⟩
          have rV : RowB w3 w1.heap.size 76 (vCells none 0 0 0 0 0 0 0) := (RowB.new _ _ _).keep hb3 (by simp)
          have rC := (RB.out.alloc (.cells (vCells none 0 0 0 0 0 0 0) 76)).keep hb3 (by rw [size_alloc1]; omega)
          have hbW3 := (HBR.out.alloc hw1 (.cells (vCells none 0 0 0 0 0 0 0) 76)).trans (hb3.mono (by rw [size_alloc1]; omega))
          have hsz3 : w1.heap.size + 1 ≤ w3.heap.size := by have := hb3.size; rwa [size_alloc1] at this
          obtain ⟨b0, b1, b2, b3, b4, b5, b6⟩ := rC.c7
          obtain ⟨z0, z1, z2, z3, z4, z5⟩ := rV.c6
          have y0 := rV.free 0
          have y1 := rV.free 1
          have y2 := rV.free 2
          have y3 := rV.free 3
          have y4 := rV.free 4
          have y5 := rV.free 5
          have RV := Lib.hid rV
          have HBW3 := Lib.hid hbW3
          have HV3 := Lib.hid hv3
          clear hb3 rV rC hbW3 hv3
          go_wp2_with fail
          refine (level86i D dn dc u (kdOf false x.kind) 0 0 0 x HXO.out.1 _).mono ?_
          rintro e w2 ⟨rfl, hb2⟩
          have hb4 := below_set6 HBW3.out (g := w1.heap.size) hw1 (.slice D dn dc) (.int .u64 u) (.int .i8 (kdOf false x.kind)) (.int .u8 0) (.int .u8 0) (.int .u16 0)
          have HBW2 := Lib.hid (hb4.trans (hb2.mono hb4.size))
          have hsz2 := hb2.size
          simp only [setCell_size] at hsz2
          have HOWN2 := Lib.hid (HOWN.out.kept (row := none) ⟨HBW2.out.os, HBW2.out.tape, HBW2.out.output, HBW2.out.size, fun k hk _ => HBW2.out.block k hk⟩ (by cases u3.ownBlock <;> simp))
          have HAT : Hid (VR w2 (w1.heap.size + 1) w3.heap.size x.null x.kind x.num x.text D dn dc u) := Lib.hid (by
            rw [HNL.out]
            refine HV3.out.frame (fun b h1 h2 => ?_) (by rw [size_alloc1]; exact Nat.le_refl _) (Nat.le_refl _)
            rw [size_alloc1] at h1
            exact (hb2.block b (by simp only [setCell_size]; omega)).trans (set6_frame _ _ _ _ _ _ _ _ (by omega)))
          have HLE : Hid (wr.heap.size ≤ w1.heap.size + 1 ∧ w3.heap.size ≤ w2.heap.size) := Lib.hid ⟨by omega, hsz2⟩
          clear hb2 hb4
          go_wp2_with (at_builtin; refine wpList_append_lies _ rfl _ _ 63 rfl w.heap.size 76 i76 _ 6 40 Tryz.underlying63 J1.out J2.out J3.out J4.out rfl (by decide) u3 j xs (by rfl) (HOWN2.out.alloc _) ⟨w2.heap.size, 0, none⟩ 1 1 (vCells D dn dc u (kdOf false x.kind) x.de x.rep (65535 - x.col)).toList (by rfl) rfl (World.news_of_block (heap_alloc_new w2 _)) (by simp [Value.oneCell']) (by decide) (by simp only [maxLen]; omega) (by omega) (by have := HBW2.out.size; rw [size_alloc1]; omega) _ rfl ?_; intro g cap w' hown' hgrow hat hlt')
          have hgr' := hat.imp_right (fun h => h.trans (size_alloc1 _ _))
          have hflat := step_flatV (x := x) (cap := cap) HOWN.out HFLAT.out (Nat.le_refl _) hsz5 HBW2.out HAT.out HLE.out.1 HLE.out.2 hgrow hgr'
          have hb9 : Below w.heap.size w w' := (HB5.out.trans (HBW2.out.mono hsz5)).trans (below_grownRow_alloc hgrow (Nat.le_trans hsz5 HBW2.out.size) (fun k hk => (HOWN.out.lt k hk).1))
          rw [HNL.out] at hflat
          refine ⟨⟨j + 1, _, by omega, by go_num, hown', ?_, hb9⟩, by simp [intOf]; omega⟩
          rw [List.take_add_one, HX.out]
          exact hflat
    · obtain rfl : j = n := by omega
      go_wp2_with fail
      go_ret
      have hcl := HLEN.out
      exact ⟨_, xs, rfl, by rw [hcl]; exact HOWN.out, by have := HFLAT.out; rwa [List.take_of_length_le (show cs.length ≤ j by omega)] at this, HB5.out⟩
theorem row53 (cs : List Cl) (A : Option Addr) (n c : Nat) (w : World) (hcs : ClsAt w w.heap.size A n c cs) (hok : ∀ x ∈ cs, ClOk x ∧ x.text.size ≤ 1000000000000) (hn : n ≤ 1000000000) :
    Calls Tryz.prog 53 #[.slice A n c] w (MakesRow cs w) :=
  (row53o cs A n c w hcs hok hn).mono fun e w' ⟨v, xs, he, hown, hflat, hb⟩ => by
    obtain ⟨A', c', rfl, hrow⟩ := rowIn_owns hown rfl hflat (Nat.le_refl _) (Nat.le_refl _)
    exact ⟨A', c', he, hrow, hb⟩
end Go.Proofs.YtglgclkgppomiaaGreat
