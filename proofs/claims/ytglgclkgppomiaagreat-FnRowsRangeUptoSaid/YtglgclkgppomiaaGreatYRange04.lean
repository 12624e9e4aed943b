/- The walk of impl.RangeRow. -/
import Derived.Test.YtglgclkgppomiaaGreatYRange03
import Derived.Test.YtglgclkgppomiaaGreatZ18
import Derived.BigQuiet
set_option linter.unusedVariables false
set_option linter.unusedSimpArgs false
namespace Go.Proofs.YtglgclkgppomiaaGreat
open Go Go.RowKit

theorem own_of_eq {w w' : World} {B : Nat} {e : TypeId} {size : Nat} {v : Value} {n : Nat} {xs : List Value} (h : w.ownsRow B e size v n xs) (hq : ∀ g, v.ownBlock = some g → w'.heap[g]? = w.heap[g]?) : w'.ownsRow B e size v n xs := by
  refine ⟨h.1, ?_⟩
  rcases h.2 with h' | ⟨g, cap, cur, rfl, hg, hgg, rest⟩
  · exact .inl h'
  · exact .inr ⟨g, cap, cur, rfl, hg, (hq g rfl).trans hgg, rest⟩
def ints (j : Nat) : List Value := (List.range j).map fun i => .int .i64 ((i : Nat) : Int)
theorem ints_succ (j : Nat) : ints (j + 1) = ints j ++ [.int .i64 (j : Int)] := by simp [ints, List.range_succ]
/-- Numbers and columns: what RangeRow hands back. -/
def RangeOwn (w : World) (B : Nat) (X : Nat → List Cl) (v1 v2 : Value) (j : Nat) : Prop :=
  ∃ xs2, w.ownsRow B 3 1 v1 j (ints j) ∧ w.ownsRow B 26 1 v2 j xs2 ∧ ∀ i, i < j → ∃ v, xs2[i]? = some v ∧ w.ownsRow B 39 7 v (X i).length (clFlat (X i))
structure RInv (W W' : World) (p1 p2 : Nat) (X : Nat → List Cl) (j : Nat) : Prop where
  own : ∃ v1 v2, RowB W' p1 48 #[v1] ∧ RowB W' p2 49 #[v2] ∧ RangeOwn W' W.heap.size X v1 v2 j
  os : W'.os = W.os ∧ W'.tape = W.tape ∧ W'.output = W.output ∧ W.heap.size ≤ W'.heap.size
  blk : ∀ q, q < W.heap.size → q ≠ p1 → q ≠ p2 → W'.heap[q]? = W.heap[q]?
theorem rangeOwn_step {w w' : World} {B p1 p2 j : Nat} {X : Nat → List Cl} {v1 v2 v1' v2' v : Value} {xs2 : List Value} (hp : p1 < B ∧ p2 < B) (h1 : w.ownsRow B 3 1 v1 j (ints j)) (h2 : w.ownsRow B 26 1 v2 j xs2) (h3 : ∀ i, i < j → ∃ v, xs2[i]? = some v ∧ w.ownsRow B 39 7 v (X i).length (clFlat (X i)))
    (k1 : w'.ownsRow B 3 1 v1' (j + 1) (ints j ++ [.int .i64 (j : Int)])) (k2 : w'.ownsRow B 26 1 v2' (j + 1) (xs2 ++ [v])) (k3 : w'.ownsRow B 39 7 v (X j).length (clFlat (X j)))
    (hb : ∀ q, q < w.heap.size → q ≠ p1 → q ≠ p2 → v1.ownBlock ≠ some q → v2.ownBlock ≠ some q → w'.heap[q]? = w.heap[q]?) : RangeOwn w' B X v1' v2' (j + 1) := by
  refine ⟨_, by rw [ints_succ]; exact k1, k2, fun i hi => ?_⟩
  have hl : xs2.length = j := by have := h2.1; omega
  rcases Nat.lt_or_ge i j with hlt | hge
  · obtain ⟨u, hu, ho⟩ := h3 i hlt
    refine ⟨u, by rw [List.getElem?_append_left (by omega)]; exact hu, own_of_eq ho fun g hg => ?_⟩
    have hgl := ho.lt g hg
    obtain ⟨x, kx⟩ := own_kind ho g hg
    refine hb g hgl.2 (by omega) (by omega) (fun he => ?_) (fun he => ?_)
    · obtain ⟨y, ky⟩ := own_kind h1 g he
      rw [kx] at ky
      simp at ky
    · obtain ⟨y, ky⟩ := own_kind h2 g he
      rw [kx] at ky
      simp at ky
  · obtain rfl : i = j := by omega
    exact ⟨v, by rw [List.getElem?_append_right (by omega), hl]; simp, k3⟩
theorem ent59 : Enters 59 := fun args W => by kernel_rfl
def GivesRange (X : Nat → List Cl) (nl : Nat) (w : World) (e : Ending) (w' : World) : Prop :=
  ∃ v1 v2 B, e = .returned (.tuple #[v1, v2]) ∧ w.heap.size ≤ B ∧ RangeOwn w' B X v1 v2 nl ∧ Below w.heap.size w w'

set_option maxRecDepth 100000 in
set_option maxHeartbeats 4000000 in
theorem range32 (nl : Nat) (X : Nat → List Cl) (A : Option Addr) (n c : Nat) (w : World) (hcs : ClsAt w w.heap.size A n c (parts X nl)) (hok : ∀ x ∈ parts X nl, ClOk x ∧ x.text.size ≤ 1000000000000) (hn : n ≤ 1000000000)
    (hcol : ∀ j, j < nl → ∀ x ∈ X j, x.col = (j : Int)) (hpos : ∀ j, j < nl → 1 ≤ (X j).length) (hnl : nl ≤ 1000) (h1 : 1 ≤ nl) :
    Calls Tryz.prog 32 #[.slice A n c] w (GivesRange X nl w) := by
  have HCS := Lib.hid hcs
  have HOK := Lib.hid hok
  have HCOL := Lib.hid hcol
  have HPOS := Lib.hid hpos
  have hlen := hcs.1
  have hbx := below_two w (.cells #[.slice none 0 0] 48) (.cells #[.slice none 0 0] 49)
  obtain ⟨w1, hw1⟩ : ∃ w1, w1 = (w.alloc (.cells #[.slice none 0 0] 48)).alloc (.cells #[.slice none 0 0] 49) := ⟨_, rfl⟩
  have hr1 : RowB w1 w.heap.size 48 #[.slice none 0 0] := by rw [hw1]; exact (RowB.new w 48 _).alloc _
  have hr2 : RowB w1 (w.heap.size + 1) 49 #[.slice none 0 0] := by rw [hw1]; exact rowB_new (by rw [size_alloc1])
  rw [← hw1] at hbx
  have hs1 : w1.heap.size = w.heap.size + 2 := by rw [hw1, size_alloc1, size_alloc1]
  have HR1 := Lib.hid hr1
  have HR2 := Lib.hid hr2
  have HW1 := Lib.hid hw1
  have HBX := Lib.hid hbx
  have HS1 := Lib.hid hs1
  have HLEN := Lib.hid hlen
  clear hcs hok hcol hpos hr1 hr2 hw1 hbx hs1 hlen
  go_enter Tryz.func32, Tryz.ntmps32
  go_wp2_with fail
  rw [← HW1.out]
  refine (row53 (parts X nl) A n c w1 (HCS.out.mono HBX.out HBX.out.size) HOK.out hn).mono ?_
  rintro e w2 ⟨A2, c2, rfl, hrow, hb2⟩
  have hple := parts_length_le X h1
  have hp1 : 1 ≤ (parts X 1).length := by rw [parts_succ, parts_zero, List.nil_append]; exact HPOS.out 0 (by omega)
  have hs1 := HS1.out
  have hlen := HLEN.out
  clear HS1 HLEN
  obtain ⟨hq1, hq2, hq3⟩ := hrow
  obtain ⟨b, o, rfl, hbo, hvl⟩ := hq3 (by omega)
  have HVL := Lib.hid hvl
  have HB2 := Lib.hid hb2
  have hsz2 := hb2.size
  have hI0 : RInv w2 w2 w.heap.size (w.heap.size + 1) X 0 := ⟨⟨_, _, HR1.out.keep hb2 (by omega), HR2.out.keep hb2 (by omega), [], World.ownsRow_nil _ _ _ _, World.ownsRow_nil _ _ _ _, fun i hi => by omega⟩, ⟨rfl, rfl, rfl, Nat.le_refl _⟩, fun _ _ _ _ => rfl⟩
  have HI0 := Lib.hid hI0
  have HS1 := Lib.hid hs1
  have HLEN := Lib.hid hlen
  have HQ2 := Lib.hid hq2
  have HBO := Lib.hid hbo
  have HP1 := Lib.hid hp1
  have HPLE := Lib.hid hple
  clear hvl hb2 hI0 hq3 hq1 hs1 hlen hq2 hbo hp1 hple
  go_wp2_with fail
  have hs1 := HS1.out
  have hlen := HLEN.out
  have hq2 := HQ2.out
  have hbo := HBO.out
  refine (range58 nl X b o c2 w1.heap.size w2.heap.size (parts X nl).length 59 #[.pointer (some ⟨w.heap.size, 0, none⟩), .pointer (some ⟨w.heap.size + 1, 0, none⟩)] w2 (fun j W' => RInv w2 W' w.heap.size (w.heap.size + 1) X j) rfl HVL.out hbo HCOL.out HPOS.out (by omega) (by omega) hq2 ent59 HI0.out (fun j W' h q h1 h2 => h.blk q h2 (by omega) (by omega)) (fun j W' hj h => ?_)).mono ?_
  · obtain ⟨v1, v2, k1, k2, xs2, k3, k4, k5⟩ := h.own
    have hrow : RowIn W' w1.heap.size w2.heap.size (some ⟨b, o + (parts X j).length * 6, none⟩) (X j).length (X j).length (X j) := ⟨rfl, Nat.le_refl _, fun _ => ⟨b, _, rfl, hbo, fun r x hx => by
      have := (HVL.out _ x (parts_get X hx nl hj)).frame (w' := W') (fun q h1 h2 => h.blk q h2 (by omega) (by omega)) (Nat.le_refl _) (Nat.le_refl _) hbo
      rw [show o + (parts X j).length * 6 + r * 6 = o + ((parts X j).length + r) * 6 by omega]
      exact this⟩⟩
    have hmem : ∀ x ∈ X j, ClOk x := fun x hx => by
      obtain ⟨r, hr⟩ := List.mem_iff_getElem?.1 hx
      exact (HOK.out x (List.mem_of_getElem? (parts_get X hr nl hj))).1
    have hXl : (X j).length ≤ (parts X nl).length := by
      have := parts_length_le X (show j + 1 ≤ nl from hj)
      rw [parts_succ, List.length_append] at this
      omega
    have hlast := h.os.2.2.2
    refine (clos59 j (X j).length b (o + (parts X j).length * 6) w.heap.size (w.heap.size + 1) w1.heap.size w2.heap.size w2.heap.size (X j) v1 v2 (ints j) xs2 W' k1 k2 k3 k4 (by omega) (by omega) hrow hmem (by omega) hlast (by omega)).mono ?_
    rintro e w' ⟨rfl, v1', v2', v, m1, m2, m3, m4, m5, ⟨o1, o2, o3, o4⟩, m6⟩
    refine ⟨rfl, ⟨v1', v2', m1, m2, rangeOwn_step (p1 := w.heap.size) (p2 := w.heap.size + 1) (by omega) k3 k4 k5 m3 m4 m5 m6⟩, ⟨o1.trans h.os.1, o2.trans h.os.2.1, o3.trans h.os.2.2.1, by omega⟩, fun q g1 g2 g3 => (m6 q (by omega) g2 g3 (fun he => by have := (k3.lt q he).1; omega) (fun he => by have := (k4.lt q he).1; omega)).trans (h.blk q g1 g2 g3)⟩
  rintro e w3 ⟨rfl, hI⟩
  obtain ⟨v1, v2, k1, k2, hown⟩ := hI.own
  have n1 : w3.cell? ⟨w.heap.size, 0, none⟩ = some v1 := k1.cell 0
  have n2 : w3.cell? ⟨w.heap.size + 1, 0, none⟩ = some v2 := k2.cell 0
  have hbel : Below w.heap.size w w3 := by
    have h2 : Below w.heap.size w w2 := HBX.out.trans (HB2.out.mono HBX.out.size)
    refine ⟨hI.os.1.trans h2.os, hI.os.2.1.trans h2.tape, hI.os.2.2.1.trans h2.output, Nat.le_trans h2.size hI.os.2.2.2, fun q hq => (hI.blk q (by omega) (by omega) (by omega)).trans (h2.block q hq)⟩
  have HOWN := Lib.hid hown
  have HBEL := Lib.hid hbel
  have hge : w.heap.size ≤ w2.heap.size := by omega
  clear hI k1 k2 hown hbel hq2 hs1 hlen hbo
  go_wp2_with fail
  go_quiet (fail)
  go_wp2_with fail
  go_ret2
  have hb3 := HBEL.out
  exact ⟨v1, v2, w2.heap.size, rfl, hge, HOWN.out, ⟨hb3.os, hb3.tape, hb3.output, hb3.size, hb3.block⟩⟩
end Go.Proofs.YtglgclkgppomiaaGreat
