/- The walk of the closure that puts a repeated field together: with items. What the closures that put a row together do: by induction. The walk of Row.Range over a closure. The walk of Schema.Reconstruct. Data in memory between two blocks; data that are made one by one. -/
import Derived.Test.YtglgclkgppomiaaGreatZ17
import Derived.Test.YtglgclkgppomiaaGreatZ19
import Derived.BigQuiet
set_option linter.unusedVariables false
set_option linter.unusedSimpArgs false
namespace Go.Proofs.YtglgclkgppomiaaGreat
open Go Go.RowKit

theorem below_drewN {B : Nat} {w w' : World} (h : Below B w w') (n : Nat) : Below B w (w'.drewN n) := ⟨h.os, h.tape, h.output, h.size, h.block⟩
/-- What stays as it is while the items are put together, i of them done. -/
structure RepW (W wq : World) (pb : Nat) (csP csG : Array Value) (i : Nat) (ts : List Tr) (rd rlx dl : Nat) : Prop where
  box : RowB wq W.heap.size 124 #[.int .u8 ((rd : Int) + 1), .int .u8 (rlx : Int), .int .u8 ((dl : Int) + 1)]
  prow : RowB wq pb 79 csP
  grow : RowB wq (W.heap.size + 2) 79 csG
  put : ∀ i' t, i' < i → ts[i']? = some t → TrPut wq (W.heap.size + 3) wq.heap.size csG (i' * 8) t
  gr : W.grownBy wq (some pb)
  sz : W.heap.size + 3 ≤ wq.heap.size
theorem RepW.setV {W wq : World} {pb : Nat} {csP csG : Array Value} {i : Nat} {ts : List Tr} {rd rlx dl : Nat} (h : RepW W wq pb csP csG i ts rd rlx dl) (hpb : pb < W.heap.size) (j : Nat) (v : Value) : RepW W (wq.setCell ⟨W.heap.size + 1, j, none⟩ v) pb csP csG i ts rd rlx dl where
  box := h.box.of_eq (setCell_other _ _ _ (show W.heap.size ≠ W.heap.size + 1 by omega))
  prow := h.prow.of_eq (setCell_other _ _ _ (show pb ≠ W.heap.size + 1 by omega))
  grow := h.grow.of_eq (setCell_other _ _ _ (show W.heap.size + 2 ≠ W.heap.size + 1 by omega))
  put := fun i' t hi ht => (h.put i' t hi ht).frame (fun b h1 _ => setCell_other _ _ _ (show b ≠ W.heap.size + 1 by omega)) (Nat.le_refl _) (by rw [setCell_size]; exact Nat.le_refl _) (fun _ _ => rfl)
  gr := ⟨h.gr.os, h.gr.tape, h.gr.output, by rw [setCell_size]; exact h.gr.size, fun k hk hne => (setCell_other _ _ _ (show k ≠ W.heap.size + 1 by omega)).trans (h.gr.block k hk hne)⟩
  sz := by rw [setCell_size]; exact h.sz
theorem RepW.drewN {W wq : World} {pb : Nat} {csP csG : Array Value} {i : Nat} {ts : List Tr} {rd rlx dl : Nat} (h : RepW W wq pb csP csG i ts rd rlx dl) (n : Nat) : RepW W (wq.drewN n) pb csP csG i ts rd rlx dl where
  box := h.box
  prow := h.prow
  grow := h.grow
  put := fun i' t hi ht => TrPut.frame (w := wq) (w' := wq.drewN n) (fun _ _ _ => rfl) (Nat.le_refl _) (Nat.le_refl _) (h.put i' t hi ht) (fun _ _ => rfl)
  gr := ⟨h.gr.os, h.gr.tape, h.gr.output, h.gr.size, h.gr.block⟩
  sz := h.sz
theorem RepW.setBox {W wq : World} {pb : Nat} {csP csG : Array Value} {i : Nat} {ts : List Tr} {rd rlx dl : Nat} (h : RepW W wq pb csP csG i ts rd rlx dl) (hpb : pb < W.heap.size) : RepW W (wq.setCell ⟨W.heap.size, 1, none⟩ (.int .u8 ((rd : Int) + 1))) pb csP csG i ts rd (rd + 1) dl where
  box := by
    have := h.box.set 1 (.int .u8 ((rd : Int) + 1))
    rw [show ((rd + 1 : Nat) : Int) = (rd : Int) + 1 from rfl]
    exact this
  prow := h.prow.of_eq (setCell_other _ _ _ (show pb ≠ W.heap.size by omega))
  grow := h.grow.of_eq (setCell_other _ _ _ (show W.heap.size + 2 ≠ W.heap.size by omega))
  put := fun i' t hi ht => (h.put i' t hi ht).frame (fun b h1 _ => setCell_other _ _ _ (show b ≠ W.heap.size by omega)) (Nat.le_refl _) (by rw [setCell_size]; exact Nat.le_refl _) (fun _ _ => rfl)
  gr := ⟨h.gr.os, h.gr.tape, h.gr.output, by rw [setCell_size]; exact h.gr.size, fun k hk hne => (setCell_other _ _ _ (show k ≠ W.heap.size by omega)).trans (h.gr.block k hk hne)⟩
  sz := by rw [setCell_size]; exact h.sz
theorem RowB.drewN {wq : World} {g : Nat} {t : TypeId} {cs : Array Value} (h : RowB wq g t cs) (n : Nat) : RowB (wq.drewN n) g t cs := h
/-- A column's slot: from item i on, of which L cells are handed on. -/
abbrev colSlot (b o : Nat → Nat) (bl : Nat → Nat → List Cl) (X : Nat → List Cl) (i L q : Nat) : Value := .slice (some ⟨b q, o q + upTo bl i q * 6, none⟩) L ((X q).length - upTo bl i q)
theorem meas_succ {k m : Nat} (h : k < m) : m - (intOf (.int .i64 ((k + 1 : Nat) : Int))).toNat < m - (intOf (.int .i64 (k : Int))).toNat := by
  show m - ((k + 1 : Nat) : Int).toNat < m - (k : Int).toNat
  rw [Int.toNat_natCast, Int.toNat_natCast]; omega
set_option maxRecDepth 100000 in
set_option maxHeartbeats 4000000 in
theorem rep143_some (a pb po : Nat) (cs : Array Value) (lo B cb co nl cc m : Nat) (X : Nat → List Cl) (bl : Nat → Nat → List Cl) (rd rl dl : Nat) (hdl : dl ≤ 253) (hrd : rd ≤ 253) (ts : List Tr) (cap0 : Array Value) (f : FuncId) (W : World) (hc : W.cell? ⟨a, 0, none⟩ = some (.func (.func f) #[] cap0)) (ha : a < W.heap.size ∧ a ≠ pb) (hent : Enters f)
    (hp : RecPre W pb po cs lo B cb co nl X) (hnl : 1 ≤ nl) (hcc : nl ≤ cc) (hcc2 : cc ≤ 100000) (hI : Items rd m nl bl X) (hts : ts.length = m) (hm : 1 ≤ m) (hlen : ∀ j, j < nl → (X j).length ≤ 1000000000) (hde : ∀ x, (X 0)[0]? = some x → ((dl + 1 : Nat) : Int) ≤ x.de ∧ x.de ≤ 255)
    (hin : ∀ (i : Nat) (t : Tr) (W' : World) (g vb rl' : Nat) (csG : Array Value), i < m → ts[i]? = some t → W.grownBy W' (some pb) → W.heap.size ≤ g → W.heap.size ≤ vb → RecPre W' g (i * 8) csG lo B vb 0 nl (bl i) →
      Calls Tryz.prog f (recArgs g (i * 8) (rd + 1) rl' (dl + 1) vb 0 nl nl ++ cap0) W' (Rebuilt g (i * 8) csG t W')) :
    Calls Tryz.prog 143 (recArgs pb po rd rl dl cb co nl cc ++ #[.pointer (some ⟨a, 0, none⟩)]) W (Rebuilt pb po cs (.mk 3 0 0 .empty ts) W) := by
  obtain ⟨ha, hane⟩ := ha
  obtain ⟨b, o, c, hcols⟩ := hp.cols.places
  have hx0 : ∃ x, (X 0)[0]? = some x ∧ 0 < (X 0).length := by
    have h1 := hI.all (j := 0) (by omega)
    have h2 := hI.pos (i := 0) (j := 0) (by omega) (by omega)
    have h3 := upTo_le bl (show 1 ≤ m from hm) 0
    rw [upTo_succ, upTo_zero] at h3
    exact ⟨(X 0)[0]'(by omega), List.getElem?_eq_getElem _, by omega⟩
  obtain ⟨x, hx, hN⟩ := hx0
  have HIN := Lib.hid hin
  have HP := Lib.hid hp
  have HI := Lib.hid hI
  have HTS := Lib.hid hts
  have HCOLS := Lib.hid hcols
  have HLEN := Lib.hid hlen
  obtain ⟨h1, h2, h3, h4⟩ := hcols 0 (by omega)
  obtain ⟨D, dn, dc, u, hv, g0, g1, g2, g3, g4, g5⟩ := h4 0 x hx
  have hdx := hde x hx
  obtain ⟨de, hde'⟩ := Int.eq_ofNat_of_zero_le (show 0 ≤ x.de by have := hdx.1; omega)
  rw [hde'] at hdx g3
  simp only [Nat.zero_mul, Nat.add_zero] at h1 h2 g0 g1 g2 g3 g4 g5
  have hlt : b 0 < W.heap.size := Nat.lt_of_lt_of_le h3.2 hp.BW
  have hcb := hp.cblt
  have hpl := hp.row.lt
  have hlt1 : ¬ ((de : Int) < ((dl : Int) + 1)) := by have := hdx.1; omega
  have hl6 := hlen 0 (by omega)
  generalize hNN : (X 0).length = N at *
  have HNN := Lib.hid hNN
  have hn0 : (0 : Int) < (nl : Int) := by omega
  have hn1 : ¬ ((nl : Int) = 0) := by omega
  have hl0 : (0 : Int) < (N : Int) := by omega
  have hb1 : ((nl : Int) == 0) = false := by simp; omega
  have hb2 : ((N : Int) == 0) = false := by simp; omega
  have hnat : 0 < nl := by omega
  have hmk := make_n Tryz.underlying97 info62 nl (by omega) (by omega)
  obtain ⟨M, hM⟩ : ∃ M, M = madeCells (Value.slice none 0 0).cells (nl * 1) := ⟨_, rfl⟩
  have hMs : M.size = nl := by rw [hM]; simp [madeCells]
  rw [← hM] at hmk
  have HMS := Lib.hid hMs
  clear hp hI hts hcols hlen hin hv h4 h3 hdx hde hM hMs hNN hx
  show Calls Tryz.prog 143 #[.pointer (some ⟨pb, po, none⟩), .agg #[.int .u8 (rd : Int), .int .u8 (rl : Int), .int .u8 (dl : Int)], .slice (some ⟨cb, co, none⟩) nl cc, .pointer (some ⟨a, 0, none⟩)] W _
  go_enter Tryz.func143, Tryz.ntmps143
  go_wp2_with fail
  refine still_tail 8 (by kernel_rfl) (by kernel_rfl) ?_
  simp only [List.take_succ_cons, List.take_zero, List.drop_succ_cons, List.drop_zero]
  repeat still_step
  refine wpStill_nil ?_
  go_wp2_with fail
  have hboxA : RowB ((W.alloc (.cells #[.int .u8 ((rd : Int) + 1), .int .u8 (rl : Int), .int .u8 ((dl : Int) + 1)] 124)).alloc (.cells M 62)).drew W.heap.size 124 #[.int .u8 ((rd : Int) + 1), .int .u8 (rl : Int), .int .u8 ((dl : Int) + 1)] := (RowB.new W 124 _).alloc _
  have hVA : RowB ((W.alloc (.cells #[.int .u8 ((rd : Int) + 1), .int .u8 (rl : Int), .int .u8 ((dl : Int) + 1)] 124)).alloc (.cells M 62)).drew (W.heap.size + 1) 62 M := rowB_new (by simp)
  have hBA : Below W.heap.size W ((W.alloc (.cells #[.int .u8 ((rd : Int) + 1), .int .u8 (rl : Int), .int .u8 ((dl : Int) + 1)] 124)).alloc (.cells M 62)).drew := (((Below.refl _ _).alloc (Nat.le_refl _) _).alloc (by simp) _).drew
  have hsA : ((W.alloc (.cells #[.int .u8 ((rd : Int) + 1), .int .u8 (rl : Int), .int .u8 ((dl : Int) + 1)] 124)).alloc (.cells M 62)).drew.heap.size = W.heap.size + 2 := by show ((W.alloc _).alloc _).heap.size = _; simp only [size_alloc1]
  generalize ((W.alloc (.cells #[.int .u8 ((rd : Int) + 1), .int .u8 (rl : Int), .int .u8 ((dl : Int) + 1)] 124)).alloc (.cells M 62)).drew = WA at *
  go_loopw [60] (fun i wr => ∃ (j : Nat) (csV : Array Value), j ≤ nl ∧ i = .int .i64 j ∧ RowB wr W.heap.size 124 #[.int .u8 ((rd : Int) + 1), .int .u8 (rl : Int), .int .u8 ((dl : Int) + 1)] ∧ RowB wr (W.heap.size + 1) 62 csV ∧ csV.size = nl ∧
      (∀ q, q < j → csV[q]? = some (.slice (some ⟨b q, o q, none⟩) 0 (X q).length)) ∧ Below W.heap.size W wr ∧ wr.heap.size = W.heap.size + 2) (fun i _ => nl - (intOf i).toNat)
  case atStart => exact ⟨0, M, Nat.zero_le _, rfl, hboxA, hVA, HMS.out, fun q h => absurd h (by omega), hBA, hsA⟩
  case round =>
    obtain ⟨j, csV, hj, rfl, hr1, hr2, hvs, hslot, hbl, hsz⟩ := hrel
    have HR1 := Lib.hid hr1
    have HR2 := Lib.hid hr2
    have HVS := Lib.hid hvs
    have HSL := Lib.hid hslot
    have HBL := Lib.hid hbl
    by_cases hlt2 : j < nl
    · obtain ⟨q1, q2, q3, q4⟩ := HCOLS.out j hlt2
      have q1' := (bcell hbl hcb).trans q1
      obtain ⟨vj, hv⟩ : ∃ vj, csV[j]? = some vj := ⟨_, Array.getElem?_eq_getElem (by omega)⟩
      have hvj := (hr2.cell j).trans hv
      have hfj := hr2.free j
      have hj0 : (0 : Int) ≤ (j : Int) := Int.natCast_nonneg _
      have hj1 : (j : Int) < (nl : Int) := by omega
      have hlj := HLEN.out j hlt2
      generalize hL : (X j).length = L at *
      have HL := Lib.hid hL
      have q2i : (L : Int) ≤ (c j : Int) := by omega
      have HV := Lib.hid hv
      clear hr1 hr2 hv hvs hslot hbl q1 q3 q4 hL
      go_wp2_with fail
      refine ⟨⟨j + 1, csV.setIfInBounds j (.slice (some ⟨b j, o j, none⟩) 0 L), by omega, by go_num, HR1.out.of_eq (setCell_other _ _ _ (show W.heap.size ≠ W.heap.size + 1 by omega)), HR2.out.set j _, by rw [Array.size_setIfInBounds]; exact HVS.out, fun q hq => ?_, below_setCell HBL.out (show W.heap.size ≤ W.heap.size + 1 by omega) _, by rw [setCell_size]; exact hsz⟩, by simp [intOf]; omega⟩
      rw [Array.getElem?_setIfInBounds]
      by_cases hqj : j = q
      · subst hqj
        rw [if_pos rfl, if_pos (by rw [HVS.out]; exact hlt2), HL.out]
      · rw [if_neg hqj]
        exact HSL.out q (by omega)
    · obtain rfl : j = nl := by omega
      clear hr1 hr2 hvs hslot hbl
      have hpos0 : ∀ k, k < m → upTo bl k 0 < upTo bl (k + 1) 0 := fun k hk => by
        have := HI.out.pos (i := k) (j := 0) hk (by omega)
        rw [upTo_succ]; omega
      have hNm : N = upTo bl m 0 := by rw [← HNN.out]; exact HI.out.all (by omega)
      have HPOS := Lib.hid hpos0
      have HNM := Lib.hid hNm
      have hmm : ∀ k, k ≤ m → k ≤ upTo bl k 0 := fun k => by
        induction k with
        | zero => intro _; exact Nat.zero_le _
        | succ k ih => intro hk; have := ih (by omega); have := hpos0 k (by omega); omega
      have HMM : Hid (m ≤ 1000000000) := Lib.hid (by have := hmm m (Nat.le_refl _); omega)
      clear hmm
      clear hpos0 hNm hn1 hb1 hb2
      go_wp2_with fail
      go_loopw [10, 13] (fun nn i wq => ∃ k : Nat, k ≤ m ∧ nn = .int .i64 k ∧ i = .int .i64 ((upTo bl k 0 : Nat) : Int) ∧ RowB wq W.heap.size 124 #[.int .u8 ((rd : Int) + 1), .int .u8 (rl : Int), .int .u8 ((dl : Int) + 1)] ∧ RowB wq (W.heap.size + 1) 62 csV ∧ Below W.heap.size W wq ∧ wq.heap.size = W.heap.size + 2) (fun nn _ _ => m - (intOf nn).toNat)
      case atStart => exact ⟨0, Nat.zero_le _, rfl, rfl, HR1.out, HR2.out, HBL.out, hsz⟩
      case round =>
        obtain ⟨k, hk, rfl, rfl, hr1, hr2, hbl, hszq⟩ := hrel
        have GR1 := Lib.hid hr1
        have GR2 := Lib.hid hr2
        have GBL := Lib.hid hbl
        by_cases hkm : k < m
        · have hup := upTo_le bl (show k + 1 ≤ m from hkm) 0
          have hps := HPOS.out k hkm
          have hnm := HNM.out
          obtain ⟨u0, hu0⟩ : ∃ u0, u0 = upTo bl k 0 := ⟨_, rfl⟩
          obtain ⟨u1, hu1⟩ : ∃ u1, u1 = upTo bl (k + 1) 0 := ⟨_, rfl⟩
          rw [← hu0, ← hu1] at hps
          rw [← hu1] at hup
          have hlt3 : (u0 : Int) < (N : Int) := by omega
          rw [← hu0]
          have HU0 := Lib.hid hu0
          have HU1 := Lib.hid hu1
          have hnN : u1 ≤ N := by omega
          clear hr1 hr2 hbl hup hnm hu0 hu1
          go_wp2_with fail
          go_loopw [13] (fun i wq => ∃ r : Nat, u0 < r ∧ r ≤ u1 ∧ i = .int .i64 (r : Int) ∧ RowB wq W.heap.size 124 #[.int .u8 ((rd : Int) + 1), .int .u8 (rl : Int), .int .u8 ((dl : Int) + 1)] ∧ RowB wq (W.heap.size + 1) 62 csV ∧ Below W.heap.size W wq ∧ wq.heap.size = W.heap.size + 2) (fun i _ => N - (intOf i).toNat)
          case atStart => exact ⟨u0 + 1, by omega, by omega, by go_num, GR1.out, GR2.out, GBL.out, hszq⟩
          case round =>
            obtain ⟨r, hur, hru, rfl, hr1, hr2, hbl, hszr⟩ := hrel
            have LR1 := Lib.hid hr1
            have LR2 := Lib.hid hr2
            have LBL := Lib.hid hbl
            obtain ⟨l0, l1, l2⟩ := hr1.c3
            have hr0 : (0 : Int) ≤ (r : Int) := Int.natCast_nonneg _
            obtain ⟨q1, q2, q3, q4⟩ := HCOLS.out 0 (by omega)
            by_cases hrN : r < N
            · have hxr : ∃ y rp : Nat, ∃ z, (X 0)[r]? = some z ∧ z.rep = (rp : Int) ∧ ((r < u1 ∧ rd + 1 < rp) ∨ (r = u1 ∧ rp = rd + 1)) ∧ y = 0 := by
                have hu0 := HU0.out
                have hu1 := HU1.out
                by_cases hlt4 : r < u1
                · obtain ⟨z, hz, hzr⟩ := HI.out.inside (i := k) (j := 0) hkm (by omega) (by omega : upTo bl k 0 < r) (by omega)
                  exact ⟨0, z.rep.toNat, z, hz, by omega, .inl ⟨hlt4, by omega⟩, rfl⟩
                · have hnm := HNM.out
                  have hk1 : k + 1 < m := by
                    by_cases h : k + 1 = m
                    · rw [h] at hu1; omega
                    · omega
                  obtain ⟨z, hz, hzr⟩ := HI.out.edge (i := k) (j := 0) hk1 (by omega)
                  have e : upTo bl (k + 1) 0 = r := by omega
                  rw [e] at hz
                  exact ⟨0, rd + 1, z, hz, hzr, .inr ⟨by omega, rfl⟩, rfl⟩
              obtain ⟨_, rp, z, hz, hzr, hcase, _⟩ := hxr
              obtain ⟨D', dn', dc', u', hv', e0, e1, e2, e3, e4, e5⟩ := q4 r z hz
              rw [hzr] at e4
              have e4' := (bcell hbl hlt).trans e4
              have hrN' : (r : Int) < (N : Int) := by omega
              have HZ := Lib.hid hz
              clear hr1 hr2 hbl q1 q2 q3 q4 e0 e1 e2 e3 e4 e5 hv' hz hzr
              rcases hcase with ⟨hc1, hc2⟩ | ⟨hc1, hc2⟩
              · have hgt : ((rd : Int) + 1) < (rp : Int) := by omega
                go_wp2_with fail
                go_quiet (fail)
                go_wp2_with fail
                go_roundw
                case rel => exact ⟨r + 1, by omega, by omega, by go_num, LR1.out, LR2.out, below_drewN LBL.out _, hszr⟩
                case measure => simp [intOf]; omega
              · have hgt : ¬ (((rd : Int) + 1) < (rp : Int)) := by omega
                have HC1 := Lib.hid hc1
                clear hc1 hc2
                go_wp2_with fail
                go_quiet (fail)
                go_wp2_with fail
                have hkw : wrap64 ((k : Int) + 1) = ((k + 1 : Nat) : Int) := by have := HMM.out; unfold wrap64; omega
                rw [hkw]
                exact ⟨⟨k + 1, hkm, rfl, by rw [HC1.out, HU1.out], LR1.out, LR2.out, below_drewN LBL.out _, hszr⟩, meas_succ hkm⟩
            · have hrN' : ¬ ((r : Int) < (N : Int)) := by omega
              have HRU : Hid (r = u1) := Lib.hid (by omega)
              clear hr1 hr2 hbl q1 q2 q3 q4 hru hur hnN
              go_wp2_with fail
              go_quiet (fail)
              go_wp2_with fail
              have hkw : wrap64 ((k : Int) + 1) = ((k + 1 : Nat) : Int) := by have := HMM.out; unfold wrap64; omega
              rw [hkw]
              exact ⟨⟨k + 1, hkm, rfl, by rw [HRU.out, HU1.out], LR1.out, LR2.out, below_drewN LBL.out _, hszr⟩, meas_succ hkm⟩
        · obtain rfl : k = m := by omega
          clear hr1 hr2 hbl
          have hnm := HNM.out
          rw [← hnm]
          clear hnm
          go_wp2_with fail
          have hpw : RowB wr pb 79 cs := HP.out.row.of_eq (GBL.out.block pb hpl)
          refine (make144 pb po k cs wr hpw HP.out.fit (by have := HMM.out; omega)).mono ?_
          rintro e w2 ⟨rfl, hr2, ⟨csG, hg1, hg2⟩, hgr2, hsz2⟩
          rw [hszq] at hr2 hg1
          obtain ⟨csP, hP⟩ : ∃ csP, csP = set8a cs po (.int .i8 3) (.slice none 0 0) (.int .u64 0) (.int .i8 0) (.int .u8 0) (.int .u8 0) (.int .u16 0) (.slice (some ⟨W.heap.size + 2, 0, none⟩) k k) := ⟨_, rfl⟩
          rw [← hP] at hr2
          have HPP := Lib.hid hP
          have hgW : W.grownBy w2 (some pb) := grown_trans ⟨GBL.out.os, GBL.out.tape, GBL.out.output, GBL.out.size, fun k hk _ => GBL.out.block k hk⟩ hgr2 (fun k hk => .inl hk)
          have hk2 : ∀ b, b < wr.heap.size → b ≠ pb → w2.heap[b]? = wr.heap[b]? := fun b h1 h2 => hgr2.block b h1 (fun he => h2 (by injection he))
          have hbox2 : RowB w2 W.heap.size 124 #[.int .u8 ((rd : Int) + 1), .int .u8 (rl : Int), .int .u8 ((dl : Int) + 1)] := GR1.out.of_eq (hk2 _ (by omega) (by omega))
          have hV2 : RowB w2 (W.heap.size + 1) 62 csV := GR2.out.of_eq (hk2 _ (by omega) (by omega))
          have hrep : RepW W w2 pb csP csG 0 ts rd rl dl := ⟨hbox2, hr2, hg1, fun i' t h _ => absurd h (by omega), hgW, by omega⟩
          have HREP := Lib.hid hrep
          have HV2 := Lib.hid hV2
          have HG2 := Lib.hid hg2
          clear hr2 hg1 hgr2 hgW hk2 hbox2 hV2 hrep hP hpw hg2
          go_wp2_with fail
          go_loopw [101] (fun ii wq => ∃ (i rlx : Nat) (cG cV : Array Value), i ≤ k ∧ ii = .int .i64 (i : Int) ∧ RepW W wq pb csP cG i ts rd rlx dl ∧ cG.size = k * 8 ∧ RowB wq (W.heap.size + 1) 62 cV ∧ cV.size = j ∧ (i < k → ∀ q, q < j → cV[q]? = some (colSlot b o bl X i 0 q))) (fun ii _ => k - (intOf ii).toNat)
          case atStart => exact ⟨0, rl, csG, csV, Nat.zero_le _, rfl, HREP.out, HG2.out, HV2.out, HVS.out, fun _ q hq => by rw [HSL.out q hq]; simp [upTo_zero]⟩
          case round =>
            obtain ⟨i, rlx, cG, cV, hi, rfl, hrep, hgs, hV, hvs2, hsl⟩ := hrel
            have KREP := Lib.hid hrep
            have KGS := Lib.hid hgs
            have KV := Lib.hid hV
            have KVS := Lib.hid hvs2
            have KSL := Lib.hid hsl
            clear hrep hgs hV hvs2 hsl
            by_cases hik : i < k
            · have hik' : (i : Int) < (k : Int) := by omega
              go_wp2_with fail
              go_loopw [106] (fun pp wq => ∃ (p : Nat) (cV : Array Value), p ≤ j ∧ pp = .int .i64 (p : Int) ∧ RepW W wq pb csP cG i ts rd rlx dl ∧ RowB wq (W.heap.size + 1) 62 cV ∧ cV.size = j ∧ (∀ q, q < p → cV[q]? = some (colSlot b o bl X i (bl i q).length q)) ∧ (∀ q, p ≤ q → q < j → cV[q]? = some (colSlot b o bl X i 0 q))) (fun pp _ => j - (intOf pp).toNat)
              case atStart => exact ⟨0, cV, Nat.zero_le _, rfl, KREP.out, KV.out, KVS.out, fun q h => absurd h (by omega), fun q _ hq => KSL.out hik q hq⟩
              case round =>
                obtain ⟨p, cV2, hp2, rfl, hrep, hV, hvs2, hs1, hs2⟩ := hrel
                have MREP := Lib.hid hrep
                have MV := Lib.hid hV
                have MVS := Lib.hid hvs2
                have MS1 := Lib.hid hs1
                have MS2 := Lib.hid hs2
                by_cases hpj : p < j
                · obtain ⟨q1, q2, q3, q4⟩ := HCOLS.out p hpj
                  have hv := hs2 p (Nat.le_refl _) hpj
                  have hvp := (hV.cell p).trans hv
                  have hfp := hV.free p
                  have hup := upTo_le bl (show i + 1 ≤ k from hik) p
                  have hall := HI.out.all (j := p) hpj
                  have hpos := HI.out.pos (i := i) (j := p) hik hpj
                  have hsc := upTo_succ bl i p
                  have hlp := HLEN.out p hpj
                  have hbp : b p < W.heap.size ∧ b p ≠ pb := by
                    have := HP.out.BW
                    have := HP.out.pout
                    omega
                  obtain ⟨u, hu⟩ : ∃ u, u = upTo bl i p := ⟨_, rfl⟩
                  obtain ⟨L, hL⟩ : ∃ L, L = (bl i p).length := ⟨_, rfl⟩
                  obtain ⟨cp, hcp⟩ : ∃ cp, cp = (X p).length - u := ⟨_, rfl⟩
                  simp only [colSlot] at hvp
                  rw [← hu, ← hcp] at hvp
                  have HU := Lib.hid hu
                  have HLL := Lib.hid hL
                  have HCP := Lib.hid hcp
                  have HQ4 := Lib.hid q4
                  have hLc : 1 ≤ L ∧ L ≤ cp := by omega
                  obtain ⟨hL1, hL2⟩ := hLc
                  have hXl : (X p).length = u + cp := by omega
                  have HXL := Lib.hid hXl
                  have hcp0 : ¬ ((cp : Int) = 0) := by omega
                  have hcpb : ((cp : Int) == 0) = false := by simp; omega
                  have hpi : (p : Int) < (j : Int) := by omega
                  have hp0 : (0 : Int) ≤ (p : Int) := Int.natCast_nonneg _
                  have hcps : cp ≤ 1000000000 := by omega
                  clear hrep hV hvs2 hs1 hs2 q1 q2 q3 q4 hv hup hall hpos hsc hlp hu hL hcp hXl
                  go_wp2_with fail
                  go_loopw [17] (fun kk wq => ∃ r : Nat, 1 ≤ r ∧ r ≤ L ∧ kk = .int .i64 (r : Int) ∧ RepW W wq pb csP cG i ts rd rlx dl ∧ RowB wq (W.heap.size + 1) 62 cV2) (fun kk _ => L - (intOf kk).toNat)
                  case atStart => exact ⟨1, Nat.le_refl _, hL1, rfl, MREP.out, MV.out⟩
                  case round =>
                    obtain ⟨r, hr1, hr2, rfl, hrep, hV⟩ := hrel
                    have FREP := Lib.hid hrep
                    have FV := Lib.hid hV
                    obtain ⟨l0, l1, l2⟩ := hrep.box.c3
                    have hvp2 := (hV.cell p).trans (MS2.out p (Nat.le_refl _) hpj)
                    simp only [colSlot] at hvp2
                    rw [← HU.out, ← HCP.out] at hvp2
                    have hfp2 := hV.free p
                    have hr0 : (0 : Int) ≤ (r : Int) := Int.natCast_nonneg _
                    have hri : (r : Int) ≤ (cp : Int) := by omega
                    by_cases hrc : r < cp
                    · have hxr : ∃ rp : Nat, ∃ z, (X p)[u + r]? = some z ∧ z.rep = (rp : Int) ∧ ((r < L ∧ rd + 1 < rp) ∨ (r = L ∧ rp = rd + 1)) := by
                        have hu := HU.out
                        have hL := HLL.out
                        have hsc := upTo_succ bl i p
                        by_cases hlt4 : r < L
                        · obtain ⟨z, hz, hzr⟩ := HI.out.inside (i := i) (j := p) (k := u + r) hik hpj (by omega) (by omega)
                          exact ⟨z.rep.toNat, z, hz, by omega, .inl ⟨hlt4, by omega⟩⟩
                        · have hall := HI.out.all (j := p) hpj
                          have hk1 : i + 1 < k := by
                            by_cases h : i + 1 = k
                            · rw [← h] at hall
                              have := HXL.out
                              omega
                            · omega
                          obtain ⟨z, hz, hzr⟩ := HI.out.edge (i := i) (j := p) hk1 hpj
                          have e : upTo bl (i + 1) p = u + r := by omega
                          rw [e] at hz
                          exact ⟨rd + 1, z, hz, hzr, .inr ⟨by omega, rfl⟩⟩
                      obtain ⟨rp, z, hz, hzr, hcase⟩ := hxr
                      obtain ⟨D', dn', dc', u', hv', e0, e1, e2, e3, e4, e5⟩ := HQ4.out (u + r) z hz
                      rw [hzr] at e4
                      have ea : o p + (u + r) * 6 + 4 = o p + u * 6 + r * 6 + 4 := by omega
                      rw [ea] at e4
                      have e4' := (hrep.gr.cell_far ⟨b p, o p + u * 6 + r * 6 + 4, none⟩ hbp.1 (fun he => hbp.2 (by injection he))).trans e4
                      have hrc' : (r : Int) < (cp : Int) := by omega
                      clear hrep hV e0 e1 e2 e3 e4 e5 hv' hz hzr ea
                      rcases hcase with ⟨hc1, hc2⟩ | ⟨hc1, hc2⟩
                      · have hgt : ((rd : Int) + 1) < (rp : Int) := by omega
                        go_wp2_with fail
                        go_quiet (fail)
                        go_wp2_with fail
                        go_roundw
                        case rel => exact ⟨r + 1, by omega, by omega, by go_num, FREP.out.drewN _, FV.out.drewN _⟩
                        case measure => simp [intOf]; omega
                      · have hgt : ¬ (((rd : Int) + 1) < (rp : Int)) := by omega
                        have HC1 := Lib.hid hc1
                        clear hc1 hc2
                        go_wp2_with fail
                        go_quiet (fail)
                        go_wp2_with fail
                        have hc1 := HC1.out
                        obtain rfl : r = L := by omega
                        have hvals : (Value.slice (some ⟨b p, o p + u * 6, none⟩) r cp) = colSlot b o bl X i (bl i p).length p := by rw [HU.out, HCP.out, HLL.out, HU.out]
                        rw [hvals]
                        refine ⟨⟨p + 1, cV2.setIfInBounds p (colSlot b o bl X i (bl i p).length p), hpj, by go_num, (FREP.out.drewN _).setV hpl _ _, (FV.out.drewN _).set p _, by rw [Array.size_setIfInBounds]; exact MVS.out, fun q hq => ?_, fun q hq hqj => ?_⟩, by simp [intOf]; omega⟩
                        · rw [Array.getElem?_setIfInBounds]
                          by_cases hqp : p = q
                          · subst hqp
                            rw [if_pos rfl, if_pos (by rw [MVS.out]; exact hpj)]
                          · rw [if_neg hqp]
                            exact MS1.out q (by omega)
                        · rw [Array.getElem?_setIfInBounds, if_neg (by omega)]
                          exact MS2.out q (by omega) hqj
                    · have hrc' : ¬ ((r : Int) < (cp : Int)) := by omega
                      clear hrep hV
                      go_wp2_with fail
                      go_quiet (fail)
                      go_wp2_with fail
                      obtain rfl : r = L := by omega
                      have hvals : (Value.slice (some ⟨b p, o p + u * 6, none⟩) r cp) = colSlot b o bl X i (bl i p).length p := by rw [HU.out, HCP.out, HLL.out, HU.out]
                      rw [hvals]
                      refine ⟨⟨p + 1, cV2.setIfInBounds p (colSlot b o bl X i (bl i p).length p), hpj, by go_num, (FREP.out.drewN _).setV hpl _ _, (FV.out.drewN _).set p _, by rw [Array.size_setIfInBounds]; exact MVS.out, fun q hq => ?_, fun q hq hqj => ?_⟩, by simp [intOf]; omega⟩
                      · rw [Array.getElem?_setIfInBounds]
                        by_cases hqp : p = q
                        · subst hqp
                          rw [if_pos rfl, if_pos (by rw [MVS.out]; exact hpj)]
                        · rw [if_neg hqp]
                          exact MS1.out q (by omega)
                      · rw [Array.getElem?_setIfInBounds, if_neg (by omega)]
                        exact MS2.out q (by omega) hqj
                · obtain rfl : p = j := by omega
                  clear hrep hV hvs2 hs1 hs2
                  have htn := HTS.out
                  have htf : ts[i]? = some (ts[i]'(by omega)) := List.getElem?_eq_getElem _
                  obtain ⟨t, ht⟩ : ∃ t, ts[i]? = some t := ⟨_, htf⟩
                  clear htf
                  have HT := Lib.hid ht
                  have hszw := MREP.out.sz
                  have hcap := (MREP.out.gr.cell_far ⟨a, 0, none⟩ ha (fun he => hane (by injection he))).trans hc
                  have h7 : wr.cell? ⟨pb, po + 7, none⟩ = some (.slice (some ⟨W.heap.size + 2, 0, none⟩) k k) := (MREP.out.prow.cell _).trans (by rw [HPP.out]; exact set8a_get cs po _ _ _ _ _ _ _ _ HP.out.fit 7 _ rfl)
                  obtain ⟨l0, l1, l2⟩ := MREP.out.box.c3
                  have hpre : RecPre wr.drew (W.heap.size + 2) (i * 8) cG lo B (W.heap.size + 1) 0 p (bl i) := by
                    have hBW := HP.out.BW
                    have hpo := HP.out.pout
                    have hgs := KGS.out
                    have hb2 : ∀ b, lo ≤ b → b < B → wr.drew.heap[b]? = W.heap[b]? := fun b h1 h2 => MREP.out.gr.block b (by omega) (fun he => by injection he; omega)
                    refine ⟨MREP.out.grow, by omega, fun q hq => ?_, by omega, show W.heap.size + 1 < wr.heap.size by omega, .inr (by omega), show B ≤ wr.heap.size by omega⟩
                    obtain ⟨q1, q2, q3, q4⟩ := HCOLS.out q hq
                    have hall := HI.out.all (j := q) hq
                    have hup := upTo_le bl (show i + 1 ≤ k from hik) q
                    have hsc := upTo_succ bl i q
                    refine ⟨b q, o q + upTo bl i q * 6, (X q).length - upTo bl i q, ?_, by omega, q3, fun r x hx => ?_⟩
                    · rw [Nat.zero_add]
                      exact (MV.out.cell q).trans (MS1.out q hq)
                    · have hx2 := HI.out.sub hik hq hx
                      have := (q4 _ x hx2).frame (w' := wr.drew) hb2 (Nat.le_refl _) (Nat.le_refl _) q3
                      rw [show o q + (upTo bl i q + r) * 6 = o q + upTo bl i q * 6 + r * 6 by omega] at this
                      exact this
                  have HPRE := Lib.hid hpre
                  have hent1 : ∀ args W, (callFunc f args).run Tryz.prog W = .ok (.enter f args) W := hent
                  clear hpre ht htn
                  go_wp2_with fail
                  go_region_held3 (fun w' => w'.cell? ⟨W.heap.size, 0, none⟩ = some (.int .u8 ((rd : Int) + 1)) ∧ w'.cell? ⟨W.heap.size, 1, none⟩ = some (.int .u8 (rlx : Int)) ∧ w'.cell? ⟨W.heap.size, 2, none⟩ = some (.int .u8 ((dl : Int) + 1)) ∧ w'.cell? ⟨pb, po + 7, none⟩ = some (.slice (some ⟨W.heap.size + 2, 0, none⟩) k k) ∧ w'.cell? ⟨a, 0, none⟩ = some (.func (.func f) #[] cap0))
                    (first
                      | (exact ⟨l0, l1, l2, h7, hcap⟩)
                      | (exact ⟨(hW2 _ _ (by omega) (by omega)).trans l0, (hW2 _ _ (by omega) (by omega)).trans l1, (hW2 _ _ (by omega) (by omega)).trans l2, (hW2 _ _ (by omega) (by omega)).trans h7, (hW2 _ _ (by omega) (by omega)).trans hcap⟩))
                    ((first
                      | (refine (HIN.out i t _ (W.heap.size + 2) (W.heap.size + 1) rlx cG hik HT.out (grown_drew MREP.out.gr) (by omega) (by omega) HPRE.out).mono ?_
                         intro e w7 h2
                         have hW2 : ∀ g i, g < wr.heap.size → g ≠ W.heap.size + 2 → w7.cell? ⟨g, i, none⟩ = wr.cell? ⟨g, i, none⟩ := fun g i h1 h3 => by
                           obtain ⟨_, cs', _, _, _, _, h5⟩ := h2
                           exact World.cell?_of_block (a := ⟨g, i, none⟩) (h5.block g h1 (fun he => h3 (by injection he)))
                         have H2 := Lib.hid h2
                         obtain ⟨rfl, h2'⟩ := h2)))
                  obtain ⟨cs', r1, s1, tp, out, gr⟩ := h2'
                  have hgb : ∀ b, b < wr.heap.size → b ≠ W.heap.size + 2 → w7.heap[b]? = wr.heap[b]? := fun b h1 h3 => gr.block b h1 (fun he => h3 (by injection he))
                  have hszg : wr.heap.size ≤ w7.heap.size := gr.size
                  have hrep7 : RepW W w7 pb csP cs' (i + 1) ts rd rlx dl := by
                    refine ⟨MREP.out.box.of_eq (hgb _ (by omega) (by omega)), MREP.out.prow.of_eq (hgb _ (by omega) (by omega)), r1, fun i' t' hi' ht' => ?_, grown_trans MREP.out.gr (grown_trans (grown_drew (w' := wr) ⟨rfl, rfl, rfl, Nat.le_refl _, fun _ _ _ => rfl⟩) gr (fun k hk => .inl hk)) (fun k hk => by injection hk with hk; exact .inr (by omega)), by omega⟩
                    by_cases hij : i' = i
                    · subst hij
                      rw [HT.out] at ht'
                      injection ht' with ht'
                      subst ht'
                      exact tp.frame (fun _ _ _ => rfl) (show W.heap.size + 3 ≤ wr.heap.size from hszw) (Nat.le_refl _) (fun _ _ => rfl)
                    · exact (MREP.out.put i' t' (by omega) ht').frame (fun b h1 h3 => hgb b h3 (by omega)) (Nat.le_refl _) hszg (fun r hr => out _ (.inl (by omega)))
                  have hV7 : RowB w7 (W.heap.size + 1) 62 cV2 := MV.out.of_eq (hgb _ (by omega) (by omega))
                  have NREP := Lib.hid hrep7
                  have NV := Lib.hid hV7
                  have NGS : Hid (cs'.size = k * 8) := Lib.hid (s1.trans KGS.out)
                  clear r1 tp out gr hgb hW2 hrep7 hV7 s1 l0 l1 l2 h7 hcap
                  go_wp2_with fail
                  go_loopw [156] (fun qq wq => ∃ (q : Nat) (cV3 : Array Value), q ≤ p ∧ qq = .int .i64 (q : Int) ∧ RepW W wq pb csP cs' (i + 1) ts rd rlx dl ∧ RowB wq (W.heap.size + 1) 62 cV3 ∧ cV3.size = p ∧ (i + 1 < k → ∀ q', q' < q → cV3[q']? = some (colSlot b o bl X (i + 1) 0 q')) ∧ (∀ q', q ≤ q' → q' < p → cV3[q']? = some (colSlot b o bl X i (bl i q').length q'))) (fun qq _ => p - (intOf qq).toNat)
                  case atStart => exact ⟨0, cV2, Nat.zero_le _, rfl, NREP.out, NV.out, MVS.out, fun _ q' h => absurd h (by omega), fun q' _ h => MS1.out q' h⟩
                  case round =>
                    obtain ⟨q, cV3, hqp, rfl, hrep, hV, hvs3, hg1, hg2⟩ := hrel
                    have GREP := Lib.hid hrep
                    have GV := Lib.hid hV
                    have GVS := Lib.hid hvs3
                    have GS1 := Lib.hid hg1
                    have GS2 := Lib.hid hg2
                    by_cases hqp2 : q < p
                    · have hvq := (hV.cell q).trans (hg2 q (Nat.le_refl _) hqp2)
                      have hfq := hV.free q
                      have hall := HI.out.all (j := q) hqp2
                      have hup := upTo_le bl (show i + 1 ≤ k from hik) q
                      have hsc := upTo_succ bl i q
                      have hlq := HLEN.out q hqp2
                      obtain ⟨u, hu⟩ : ∃ u, u = upTo bl i q := ⟨_, rfl⟩
                      obtain ⟨L, hL⟩ : ∃ L, L = (bl i q).length := ⟨_, rfl⟩
                      obtain ⟨cp, hcp⟩ : ∃ cp, cp = (X q).length - u := ⟨_, rfl⟩
                      simp only [colSlot] at hvq
                      rw [← hu, ← hcp, ← hL] at hvq
                      have HU := Lib.hid hu
                      have HLL := Lib.hid hL
                      have HCP := Lib.hid hcp
                      have hLc : L ≤ cp := by omega
                      have hlast : L = cp → ¬ (i + 1 < k) := fun he hk1 => by
                        have h1 := HI.out.pos (i := i + 1) (j := q) hk1 hqp2
                        have h2 := upTo_le bl (show i + 1 + 1 ≤ k from hk1) q
                        rw [upTo_succ] at h2
                        omega
                      have HLAST := Lib.hid hlast
                      have hLci : (L : Int) ≤ (cp : Int) := by omega
                      have hL0 : (0 : Int) ≤ (L : Int) := Int.natCast_nonneg _
                      have hqi : (q : Int) < (p : Int) := by omega
                      have hq0 : (0 : Int) ≤ (q : Int) := Int.natCast_nonneg _
                      clear hrep hV hvs3 hg1 hg2 hall hup hsc hlq hu hL hcp hlast
                      by_cases hLe : cp = L
                      · go_wp2_with fail
                        refine ⟨⟨q + 1, cV3.setIfInBounds q (.slice (some ⟨b q, o q + u * 6, none⟩) 0 0), by omega, by go_num, GREP.out.setV hpl _ _, GV.out.set q _, by rw [Array.size_setIfInBounds]; exact GVS.out, fun hi1 q' hq' => ?_, fun q' hq' hqp => ?_⟩, by simp [intOf]; omega⟩
                        · rw [Array.getElem?_setIfInBounds]
                          by_cases hqq : q = q'
                          · subst hqq
                            rw [if_pos rfl, if_pos (by rw [GVS.out]; exact hqp2)]
                            exact absurd hi1 (HLAST.out hLe.symm)
                          · rw [if_neg hqq]
                            exact GS1.out hi1 q' (by omega)
                        · rw [Array.getElem?_setIfInBounds, if_neg (by omega)]
                          exact GS2.out q' (by omega) hqp
                      · go_wp2_with fail
                        refine ⟨⟨q + 1, cV3.setIfInBounds q (.slice (some ⟨b q, o q + u * 6 + L * 6, none⟩) 0 (cp - L)), by omega, by go_num, GREP.out.setV hpl _ _, GV.out.set q _, by rw [Array.size_setIfInBounds]; exact GVS.out, fun hi1 q' hq' => ?_, fun q' hq' hqp => ?_⟩, by simp [intOf]; omega⟩
                        · rw [Array.getElem?_setIfInBounds]
                          by_cases hqq : q = q'
                          · subst hqq
                            rw [if_pos rfl, if_pos (by rw [GVS.out]; exact hqp2)]
                            rw [colSlot, upTo_succ, ← HU.out, ← HLL.out, show o q + (u + L) * 6 = o q + u * 6 + L * 6 by omega, show (X q).length - (u + L) = cp - L by have := HCP.out; omega]
                          · rw [if_neg hqq]
                            exact GS1.out hi1 q' (by omega)
                        · rw [Array.getElem?_setIfInBounds, if_neg (by omega)]
                          exact GS2.out q' (by omega) hqp
                    · obtain rfl : q = p := by omega
                      obtain ⟨l0, l1, l2⟩ := hrep.box.c3
                      have y1 := hrep.box.free 1
                      have hmm := HMM.out
                      clear hrep hV hvs3 hg1 hg2
                      go_wp2_with fail
                      exact ⟨⟨i + 1, rd + 1, cs', cV3, hik, by go_num, GREP.out.setBox hpl, NGS.out, GV.out.of_eq (setCell_other _ _ _ (show W.heap.size + 1 ≠ W.heap.size by omega)), GVS.out, fun hi1 q' hq' => GS1.out hi1 q' hq'⟩, by simp [intOf]; omega⟩
            · obtain rfl : i = k := by omega
              go_wp2_with fail
              go_ret
              have hfit := HP.out.fit
              have htn := HTS.out
              have hlen : (Tr.mk 3 0 0 .empty ts).items.length = i := htn
              refine ⟨rfl, csP, KREP.out.prow, by rw [HPP.out]; exact set8a_size _ _ _ _ _ _ _ _ _ _, ⟨none, 0, 0, 0, some ⟨W.heap.size + 2, 0, none⟩, i, fun r v hv => ?_, .null _ _ _, ?_⟩, fun i hi => by rw [HPP.out]; exact set8a_out _ _ _ _ _ _ _ _ _ _ _ hi, KREP.out.gr⟩
              · rw [hlen] at hv
                rw [HPP.out]
                exact set8a_get cs po (.int .i8 3) (.slice none 0 0) (.int .u64 0) (.int .i8 0) (.int .u8 0) (.int .u8 0) (.int .u16 0) (.slice (some ⟨W.heap.size + 2, 0, none⟩) i i) hfit r v hv
              · rw [hlen]
                have hszr := KREP.out.sz
                exact trsAt_arr KREP.out.grow htn (by omega) (by omega) (fun i' t ht => KREP.out.put i' t (by have := (List.getElem?_eq_some_iff.1 ht).1; omega) ht)
end Go.Proofs.YtglgclkgppomiaaGreat

namespace Go.Proofs.YtglgclkgppomiaaGreat
open Go Go.RowKit

theorem IsRec.enters {w : World} {lo B : Nat} {v : Value} {o r : Bool} {k : Int} {kids : List Fd} (h : IsRec w lo B v o r k kids) : ∀ f cap, v = .func (.func f) #[] cap → Enters f := by
  intro f cap hv
  cases h with
  | opt => obtain ⟨rfl, _⟩ := func_inj hv; exact ent142
  | rep => obtain ⟨rfl, _⟩ := func_inj hv; exact ent143
  | leaf => obtain ⟨rfl, _⟩ := func_inj hv; exact ent156
  | grp => obtain ⟨rfl, _⟩ := func_inj hv; exact ent159
theorem ColsIn.congr {w : World} {lo B cb co nl : Nat} {X Y : Nat → List Cl} (h : ColsIn w lo B cb co nl X) (he : ∀ j, j < nl → Y j = X j) : ColsIn w lo B cb co nl Y := fun j hj => by
  rw [he j hj]; exact h j hj
theorem RecPre.congr {w : World} {pb po lo B cb co nl : Nat} {cs : Array Value} {X Y : Nat → List Cl} (h : RecPre w pb po cs lo B cb co nl X) (he : ∀ j, j < nl → Y j = X j) : RecPre w pb po cs lo B cb co nl Y :=
  ⟨h.row, h.fit, h.cols.congr he, h.cbne, h.cblt, h.pout, h.BW⟩
theorem colOf_shFields : ∀ (kids : List Fd) (ds : List Dt) (col dep rep de i : Nat) (g : Fd), kids[i]? = some g → ∀ j, j < leavesOf g →
    colOf (shFields kids ds col dep rep de) (col + leaves (kids.take i) + j) = colOf (shField g.way (leavesOf g) (fun d col dep rep de => shOnce g d col dep rep de) (headDt (ds.drop i)) (col + leaves (kids.take i)) dep rep de) (col + leaves (kids.take i) + j)
  | [], _, _, _, _, _, _, _, h, _, _ => by simp at h
  | f :: r, ds, col, dep, rep, de, 0, g, h, j, hj => by
    simp at h; subst h
    simp only [shFields, List.take_zero, leaves, List.drop_zero, Nat.add_zero]
    rw [colOf_append, colOf_out (L := shFields r ds.tail (col + leavesOf f) dep rep de) (fun x hx => by have := (shCols r ds.tail (col + leavesOf f) dep rep de).inc x hx; omega), List.append_nil]
  | f :: r, ds, col, dep, rep, de, i + 1, g, h, j, hj => by
    have ih := colOf_shFields r ds.tail (col + leavesOf f) dep rep de i g (by simpa using h) j hj
    have e : col + leaves ((f :: r).take (i + 1)) = col + leavesOf f + leaves (r.take i) := by simp only [List.take_succ_cons, leaves]; omega
    rw [e]
    simp only [shFields]
    rw [colOf_append, colOf_out (L := shField f.way (leavesOf f) (fun d col dep rep de => shOnce f d col dep rep de) (headDt ds) col dep rep de) (fun x hx => by have := (shField_cols (onceCols f) (headDt ds) col dep rep de).inc x hx; omega), List.nil_append, ih]
    have e3 : ds.tail.drop i = ds.drop (i + 1) := by simp
    rw [e3]
theorem colOf_parts (Y : Nat → List Cl) (c : Nat) : ∀ m, colOf (parts Y m) c = parts (fun i => colOf (Y i) c) m
  | 0 => by simp [parts, colOf]
  | m + 1 => by rw [parts_succ, parts_succ, colOf_append, colOf_parts Y c m]
theorem parts_mem {Y : Nat → List Cl} {x : Cl} {i : Nat} : ∀ {m : Nat}, i < m → x ∈ Y i → x ∈ parts Y m
  | 0, h, _ => by omega
  | m + 1, h, hx => by
    rw [parts_succ, List.mem_append]
    by_cases he : i = m
    · subst he; exact .inr hx
    · exact .inl (parts_mem (by omega) hx)
theorem parts_part_len (Y : Nat → List Cl) {i m : Nat} (h : i < m) : (Y i).length ≤ (parts Y m).length := by
  have h1 := parts_length_le Y (show i + 1 ≤ m from h)
  rw [parts_succ, List.length_append] at h1
  omega
abbrev recCells (o r : Bool) (k : Int) (kids : List Fd) (d : Dt) (col dep rep de : Nat) : List Cl := shField (wayOf o r) (nodeLeaves kids) (fun d col dep rep de => shOnce (bareFd k kids) d col dep rep de) d col dep rep de
def RecRuns (w : World) (lo0 B0 : Nat) (f : FuncId) (cap : Array Value) (o r : Bool) (k : Int) (kids : List Fd) (dp : Int) : Prop :=
  ∀ (W : World) (d : Dt) (col dep rep de rl pb po : Nat) (cs : Array Value) (lo B cb co cc : Nat), (∀ b, lo0 ≤ b → b < B0 → W.heap[b]? = w.heap[b]?) → B0 ≤ W.heap.size → (pb < lo0 ∨ B0 ≤ pb) →
    (dep : Int) + (if o || r then 1 else 0) ≤ dp → (de : Int) + (if o || r then 1 else 0) ≤ dp → (recCells o r k kids d col dep rep de).length ≤ 1000000000 → (∀ x ∈ recCells o r k kids d col dep rep de, x.text.size ≤ 1000000000000 ∧ x.de ≤ 255) →
    RecPre W pb po cs lo B cb co (nodeLeaves kids) (fun j => colOf (recCells o r k kids d col dep rep de) (col + j)) → nodeLeaves kids ≤ cc → cc ≤ 100000 →
    Calls Tryz.prog f (recArgs pb po dep rl de cb co (nodeLeaves kids) cc ++ cap) W (Rebuilt pb po cs (trField (wayOf o r) (fun d => trOnce (bareFd k kids) d) d) W)
theorem nodeLeaves_pos (kids : List Fd) : 1 ≤ nodeLeaves kids := by
  unfold nodeLeaves
  split
  · exact Nat.le_refl 1
  · exact leaves_pos _ kids (Nat.le_refl _) (by assumption)
theorem nodeLeaves_bare (k : Int) (kids : List Fd) : leavesOf (bareFd k kids) = nodeLeaves kids := leavesOf_eq _
theorem cellAt {w : World} {lo B a : Nat} {W : World} (hf : ∀ b, lo ≤ b → b < B → W.heap[b]? = w.heap[b]?) (h1 : lo ≤ a) (h2 : a < B) {i : Nat} {v : Value} (h : w.cell? ⟨a, i, none⟩ = some v) : W.cell? ⟨a, i, none⟩ = some v :=
  (World.cell?_of_block (a := ⟨a, i, none⟩) (hf a h1 h2)).trans h

theorem colOf_one (x : Cl) (col : Nat) (h : x.col = (col : Int)) : colOf [x] (col + 0) = [x] := by
  unfold colOf
  rw [List.filter_cons_of_pos (by simp [h])]
  rfl
theorem rec_run {w : World} {lo0 B0 : Nat} {v : Value} {o r : Bool} {k : Int} {kids : List Fd} (h : IsRec w lo0 B0 v o r k kids) :
    ∀ dp : Int, dp ≤ 61 → OkN kids k dp → fdsSize kids ≤ 10000 → ∀ f cap, v = .func (.func f) #[] cap → RecRuns w lo0 B0 f cap o r k kids dp := by
  induction h with
  | leaf a k h1 hc1 =>
    intro dp hdp hok hsz f' cap' hv
    obtain ⟨rfl, rfl⟩ := func_inj hv
    intro W d col dep rep de rl pb po cs lo B cb co cc hf hB hpb hrd hdl hlen hC hpre hcc hcc2
    have e : recCells false false k [] d col dep rep de = [⟨col, rep, de, false, k, d.num, d.text⟩] := by rw [← shOnce_leaf k d col dep rep de]; simp [recCells, shField, wayOf]
    have e2 : trField (wayOf false false) (fun d => trOnce (bareFd k []) d) d = .mk 2 k d.num d.text [] := by rw [← trOnce_leaf]; simp [trField, wayOf]
    rw [e] at hC hpre
    rw [e2]
    exact leaf156 a pb po cs lo B cb co cc _ dep rl de k d.num d.text ⟨col, rep, de, false, k, d.num, d.text⟩ W (hok.1 rfl) (hC _ (List.mem_singleton.2 rfl)).1 (cellAt hf h1.1 h1.2 hc1) (by omega) (by omega) hpre (colOf_one _ col rfl) ⟨rfl, rfl, rfl, rfl⟩ hcc
  | opt a f cap r k kids hlo hb hc h ih =>
    intro dp hdp hok hsz f' cap' hv
    obtain ⟨rfl, rfl⟩ := func_inj hv
    have hs := ih dp hdp hok hsz f cap rfl
    have hent := h.enters f cap rfl
    intro W d col dep rep de rl pb po cs lo B cb co cc hf hB hpb hrd hdl hlen hC hpre hcc hcc2
    simp only [Bool.true_or, if_true] at hrd hdl
    have hnp := nodeLeaves_pos kids
    cases hdn : d.none with
    | true =>
      have e : recCells true r k kids d col dep rep de = nonesOf (nodeLeaves kids) col rep de := by simp [recCells, shField, wayOf, hdn]
      have e2 : trField (wayOf true r) (fun d => trOnce (bareFd k kids) d) d = .mk 1 0 0 .empty [] := by simp [trField, wayOf, hdn]
      rw [e2]
      rw [e] at hpre
      exact opt142_null a pb po cs lo B cb co (nodeLeaves kids) cc _ dep rl de (by omega) ⟨((col + 0 : Nat) : Int), rep, de, true, 0, 0, .empty⟩ [] cap f W (cellAt hf hlo hb hc) (by omega) hpre hnp (colOf_nones _ _ _ _ 0 (by omega)) (by simp) ⟨by simp, by simp; omega⟩ hcc hcc2
    | false =>
      have e : recCells true r k kids d col dep rep de = recCells false false k kids d col dep rep (de + 1) := by simp [recCells, shField, wayOf, hdn]
      have e2 : trField (wayOf true r) (fun d => trOnce (bareFd k kids) d) d = trField (wayOf false false) (fun d => trOnce (bareFd k kids) d) d := by simp [trField, wayOf, hdn]
      have hco : Cols col (nodeLeaves kids) dep rep (de + 1) (recCells false false k kids d col dep rep (de + 1)) := by
        have := onceCols (bareFd k kids) d col dep rep (de + 1)
        rw [nodeLeaves_bare] at this
        simpa [recCells, shField, wayOf] using this
      rw [e2]
      rw [e] at hpre hlen hC
      obtain ⟨x, xs, hx, _, _⟩ := hco.blk 0 (by omega)
      have hxm : x ∈ recCells false false k kids d col dep rep (de + 1) := (List.mem_filter.1 (show x ∈ colOf _ (col + 0) by rw [hx]; exact List.mem_cons_self)).1
      have hxl : xs.length ≤ 1000000000 := by
        have h1 : (colOf (recCells false false k kids d col dep rep (de + 1)) (col + 0)).length ≤ _ := List.length_filter_le _ _
        rw [hx, List.length_cons] at h1
        omega
      refine opt142_some a pb po cs lo B cb co (nodeLeaves kids) cc _ dep rl de (by omega) x xs cap f W (cellAt hf hlo hb hc) (by omega) hpre hnp hx hxl ⟨by have := hco.dee x hxm; exact this, (hC x hxm).2⟩ hcc hcc2 hent _ fun W' hW' => ?_
      exact hs W' d col dep rep (de + 1) rl pb po cs lo B cb co cc (fun b h1 h2 => (hW'.block b (by omega)).trans (hf b h1 h2)) (Nat.le_trans hB hW'.size) hpb (by simp; omega) (by simp; omega) hlen hC
        ⟨hpre.row.of_eq (hW'.block pb hpre.row.lt), hpre.fit, hpre.cols.frame (fun b _ h2 => hW'.block b (Nat.lt_of_lt_of_le h2 hpre.BW)) (hW'.block cb hpre.cblt), hpre.cbne, Nat.lt_of_lt_of_le hpre.cblt hW'.size, hpre.pout, Nat.le_trans hpre.BW hW'.size⟩ hcc hcc2
  | rep a f cap k kids hlo hb hc h ih =>
    intro dp hdp hok hsz f' cap' hv
    obtain ⟨rfl, rfl⟩ := func_inj hv
    have hs := ih dp hdp hok hsz f cap rfl
    have hent := h.enters f cap rfl
    intro W d col dep rep de rl pb po cs lo B cb co cc hf hB hpb hrd hdl hlen hC hpre hcc hcc2
    simp only [Bool.false_or, if_true] at hrd hdl
    have hnp := nodeLeaves_pos kids
    by_cases hi : d.items = []
    · have e : recCells false true k kids d col dep rep de = nonesOf (nodeLeaves kids) col rep de := by simp [recCells, shField, wayOf, hi]
      have e2 : trField (wayOf false true) (fun d => trOnce (bareFd k kids) d) d = .mk 3 0 0 .empty [] := by simp [trField, wayOf, hi]
      rw [e2]
      rw [e] at hpre
      exact rep143_none a pb po cs lo B cb co (nodeLeaves kids) cc _ dep rl de (by omega) (by omega) ⟨((col + 0 : Nat) : Int), rep, de, true, 0, 0, .empty⟩ [] cap f W (cellAt hf hlo hb hc) (by omega) hpre hnp (colOf_nones _ _ _ _ 0 (by omega)) (by simp) ⟨by simp, by simp; omega⟩ hcc hcc2
    · obtain ⟨Y, hY⟩ : ∃ Y : Nat → List Cl, Y = fun i => shOnce (bareFd k kids) (headDt (d.items.drop i)) col (dep + 1) (repAt rep dep i) (de + 1) := ⟨_, rfl⟩
      have e : recCells false true k kids d col dep rep de = parts Y d.items.length := by
        rw [hY]; exact rep_parts _ (fun d col dep rep de => shOnce (bareFd k kids) d col dep rep de) d hi col dep rep de
      have e2 : trField (wayOf false true) (fun d => trOnce (bareFd k kids) d) d = .mk 3 0 0 .empty (d.items.map fun d => trOnce (bareFd k kids) d) := by simp [trField, wayOf]
      have hYc : ∀ i, Cols col (nodeLeaves kids) (dep + 1) (repAt rep dep i) (de + 1) (Y i) := fun i => by
        have := onceCols (bareFd k kids) (headDt (d.items.drop i)) col (dep + 1) (repAt rep dep i) (de + 1)
        rw [nodeLeaves_bare] at this
        rw [hY]; exact this
      rw [e2]
      rw [e] at hpre hlen hC
      have hm1 : 1 ≤ d.items.length := List.length_pos_iff.2 hi
      have hcl : ∀ j, (colOf (parts Y d.items.length) (col + j)).length ≤ 1000000000 := fun j => Nat.le_trans (List.length_filter_le _ _) hlen
      have hI : Items dep d.items.length (nodeLeaves kids) (fun i j => colOf (Y i) (col + j)) (fun j => colOf (parts Y d.items.length) (col + j)) :=
        ⟨fun j _ => colOf_parts Y (col + j) _, fun i j _ hj => ⟨repAt rep dep i, (hYc i).blk j hj, fun h => by unfold repAt; rw [if_neg (by omega)]⟩⟩
      refine rep143_some a pb po cs lo B cb co (nodeLeaves kids) cc d.items.length _ (fun i j => colOf (Y i) (col + j)) dep rl de (by omega) (by omega) _ cap f W (cellAt hf hlo hb hc) ⟨by omega, by omega⟩ hent hpre hnp hcc hcc2 hI (by simp) hm1 (fun j _ => hcl j) (fun x hx => ?_) fun i t W' g vb rl' csG hi' ht hgr hg hvb hpre' => ?_
      · have hxm := (List.mem_filter.1 (List.mem_of_getElem? hx)).1
        obtain ⟨i, _, hxi⟩ := mem_parts hxm
        exact ⟨(hYc i).dee x hxi, (hC x hxm).2⟩
      · obtain ⟨di, hdi⟩ : ∃ di, d.items[i]? = some di := ⟨_, List.getElem?_eq_getElem hi'⟩
        rw [List.getElem?_map, hdi] at ht
        simp only [Option.map_some, Option.some.injEq] at ht
        subst ht
        have hYi : recCells false false k kids di col (dep + 1) (repAt rep dep i) (de + 1) = Y i := by
          rw [hY]; simp [recCells, shField, wayOf, headDt_get hdi]
        have e3 : trField (wayOf false false) (fun d => trOnce (bareFd k kids) d) di = trOnce (bareFd k kids) di := by simp [trField, wayOf]
        have := hs W' di col (dep + 1) (repAt rep dep i) (de + 1) rl' g (i * 8) csG lo B vb 0 (nodeLeaves kids) (fun b h1 h2 => (hgr.block b (by omega) (fun he => by injection he; omega)).trans (hf b h1 h2)) (Nat.le_trans hB hgr.size) (.inr (by omega)) (by simp; omega) (by simp; omega) (by rw [hYi]; exact Nat.le_trans (parts_part_len Y hi') hlen) (fun x hx => by rw [hYi] at hx; exact hC x (parts_mem hi' hx)) (by rw [hYi]; exact hpre') (Nat.le_refl _) (by omega)
        rw [e3] at this
        exact this
  | grp a a2 fb ob n kids F C hne hlo hlo2 hfb hob hn hc hc2 hk hk2 hr ih =>
    intro dp hdp hok hsz f' cap' hv
    obtain ⟨rfl, rfl⟩ := func_inj hv
    have hokL := hok.2 hne
    have hnl : nodeLeaves kids = leaves kids := by unfold nodeLeaves; rw [if_neg hne]
    intro W d col dep rep de rl pb po cs lo B cb co cc hf hB hpb hrd hdl hlen hC hpre hcc hcc2
    have e : recCells false false 0 kids d col dep rep de = shFields kids d.items col dep rep de := by
      rw [← shOnce_group 0 kids hne]; simp [recCells, shField, wayOf]
    have e1 : trField (wayOf false false) (fun d => trOnce (bareFd 0 kids) d) d = .mk 4 0 0 .empty (trFields kids d.items) := by rw [← trOnce_group 0 kids hne]; simp [trField, wayOf]
    rw [e] at hpre hlen hC
    rw [e1]
    simp only [Bool.or_false, Bool.false_eq_true, if_false] at hrd hdl
    have hll := leaves_le kids
    have hmk := fdsSize_length kids
    have hparts := shFields_parts kids d.items col dep rep de
    refine grp159 a a2 fb ob pb po n cs lo B cb co (nodeLeaves kids) cc _ dep rl de kids (trFields kids d.items) F C W hn (by rw [trFields_length, hn]) (by omega) (cellAt hf hlo.1 hlo.2 hc) (cellAt hf hlo2.1 hlo2.2 hc2) ⟨by omega, by omega⟩ ⟨by omega, by omega⟩ ⟨by omega, by omega⟩ ⟨by omega, by omega⟩ (fun i g hg => cellAt hf hfb.1 hfb.2 (hk i g hg)) (fun i g hg => cellAt hf hob.1 hob.2 (hk2 i g hg)) hpre hnl.symm (by omega) hcc (fun i g hg => (hr i g hg).enters _ _ rfl) fun i g t W' gg csG hg ht hgr hgW hpre' => ?_
    obtain ⟨hw0, hw2, hd60, _, _⟩ := hokL.at_ hg
    have h3 := fdsSize_get kids i _ hg
    have h4 := fdSize_kids g
    have hlt : i < kids.length := (List.getElem?_eq_some_iff.1 hg).1
    have hs := ih i g hg (dp + 1) (by omega) (hokL.kid hg) (by omega) (F i) (C i) rfl
    rw [trFields_get _ _ _ _ hg] at ht
    injection ht with ht
    subst ht
    have e3 : trField (wayOf (g.way == 1) (g.way == 2)) (fun d => trOnce (bareFd g.kind g.kids) d) (headDt (d.items.drop i)) = trField g.way (fun d => trOnce g d) (headDt (d.items.drop i)) := by
      rw [wayOf_eq hw0 hw2]; congr 1; funext d; exact trOnce_bare g d
    have e4 : recCells (g.way == 1) (g.way == 2) g.kind g.kids (headDt (d.items.drop i)) (col + leaves (kids.take i)) dep rep de = shField g.way (leavesOf g) (fun d col dep rep de => shOnce g d col dep rep de) (headDt (d.items.drop i)) (col + leaves (kids.take i)) dep rep de := by
      unfold recCells
      rw [wayOf_eq hw0 hw2, leavesOf_eq]
      congr 1; funext d col dep rep de; exact shOnce_bare g d col dep rep de
    have e5 : shPart kids d.items col dep rep de i = shField g.way (leavesOf g) (fun d col dep rep de => shOnce g d col dep rep de) (headDt (d.items.drop i)) (col + leaves (kids.take i)) dep rep de := by
      unfold shPart; rw [fdAt_some hg]
    have hle := parts_part_len (shPart kids d.items col dep rep de) hlt
    rw [← hparts, e5] at hle
    have hbl : leavesOf g = nodeLeaves g.kids := leavesOf_eq g
    have hlg := leavesOf_le _ g (Nat.le_refl _)
    have hbnd : (dep : Int) + (if (g.way == 1) || (g.way == 2) then 1 else 0) ≤ dp + 1 := by split <;> omega
    have hbnd2 : (de : Int) + (if (g.way == 1) || (g.way == 2) then 1 else 0) ≤ dp + 1 := by split <;> omega
    have hpre2 : RecPre W' gg (i * 8) csG lo B cb (co + leaves (kids.take i)) (leavesOf g) (fun j => colOf (recCells (g.way == 1) (g.way == 2) g.kind g.kids (headDt (d.items.drop i)) (col + leaves (kids.take i)) dep rep de) (col + leaves (kids.take i) + j)) :=
      hpre'.congr fun j hj => by
        rw [e4, ← colOf_shFields kids d.items col dep rep de i g hg j hj]
        show colOf _ _ = colOf _ (col + (leaves (kids.take i) + j))
        rw [Nat.add_assoc]
    rw [hbl] at hpre2 hlg ⊢
    have := hs W' (headDt (d.items.drop i)) (col + leaves (kids.take i)) dep rep de rl gg (i * 8) csG lo B cb (co + leaves (kids.take i)) (nodeLeaves g.kids) (fun b h1 h2 => (hgr.block b (by omega) (fun he => by injection he; omega)).trans (hf b h1 h2)) (Nat.le_trans hB hgr.size) (.inr (by omega)) hbnd hbnd2 (by rw [e4]; omega) (fun x hx => by rw [e4, ← e5] at hx; exact hC x (by rw [hparts]; exact parts_mem hlt hx)) hpre2 (Nat.le_refl _) (by omega)
    rw [e3] at this
    exact this
end Go.Proofs.YtglgclkgppomiaaGreat

namespace Go.Proofs.YtglgclkgppomiaaGreat
open Go Go.RowKit

theorem parts_get (X : Nat → List Cl) {i r : Nat} {x : Cl} (hx : (X i)[r]? = some x) : ∀ n, i < n → (parts X n)[(parts X i).length + r]? = some x
  | 0, h => by omega
  | n + 1, h => by
    rw [parts_succ]
    by_cases he : i = n
    · subst he
      rw [List.getElem?_append_right (by omega), show (parts X i).length + r - (parts X i).length = r by omega]
      exact hx
    · have h1 := parts_get X hx n (by omega)
      rw [List.getElem?_append_left ((List.getElem?_eq_some_iff.1 h1).1)]
      exact h1

set_option maxRecDepth 100000 in
set_option maxHeartbeats 4000000 in
theorem range58 (nl : Nat) (X : Nat → List Cl) (b o c lo B N : Nat) (f : FuncId) (cap : Array Value) (W : World) (I : Nat → World → Prop) (hN : (parts X nl).length = N) (hrow : ∀ i x, (parts X nl)[i]? = some x → VlIn W lo B b (o + i * 6) x) (hb : lo ≤ b ∧ b < B) (hcol : ∀ j, j < nl → ∀ x ∈ X j, x.col = (j : Int)) (hpos : ∀ j, j < nl → 1 ≤ (X j).length)
    (hnl : nl ≤ 65000) (hlen : N ≤ 1000000000) (hle : N ≤ c) (hent : Enters f) (h0 : I 0 W) (hI : ∀ j W', I j W' → ∀ b, lo ≤ b → b < B → W'.heap[b]? = W.heap[b]?)
    (hin : ∀ j W', j < nl → I j W' → Calls Tryz.prog f (#[.int .i64 (j : Int), .slice (some ⟨b, o + (parts X j).length * 6, none⟩) (X j).length (X j).length] ++ cap) W' (fun e w' => e = .returned (.bool true) ∧ I (j + 1) w')) :
    Calls Tryz.prog 58 #[.slice (some ⟨b, o, none⟩) N c, .func (.func f) #[] cap] W (fun e w' => e = .returned (.tuple #[]) ∧ I nl w') := by
  have HIN := Lib.hid hin
  have HI := Lib.hid hI
  have HROW := Lib.hid hrow
  have HCOL := Lib.hid hcol
  have HPOS := Lib.hid hpos
  have HN := Lib.hid hN
  have H0 := Lib.hid h0
  have hent1 : ∀ args W, (callFunc f args).run Tryz.prog W = .ok (.enter f args) W := hent
  clear hin hI hrow hcol hpos h0 hent hN
  go_enter Tryz.func58, Tryz.ntmps58
  go_wp2_with fail
  go_loopw [4, 5] (fun cx i wr => ∃ q : Nat, q ≤ nl ∧ cx = .int .i64 (q : Int) ∧ i = .int .i64 (((parts X q).length : Nat) : Int) ∧ I q wr) (fun cx _ _ => nl - (intOf cx).toNat)
  case atStart => exact ⟨0, Nat.zero_le _, rfl, rfl, H0.out⟩
  case round =>
    obtain ⟨q, hq, rfl, rfl, hIq⟩ := hrel
    have HIQ := Lib.hid hIq
    clear hIq
    by_cases hqn : q < nl
    · have hp := HPOS.out q hqn
      have hle2 := parts_length_le X (show q + 1 ≤ nl from hqn)
      have hsc : (parts X (q + 1)).length = (parts X q).length + (X q).length := by rw [parts_succ, List.length_append]
      have hNN := HN.out
      obtain ⟨u, hu⟩ : ∃ u, u = (parts X q).length := ⟨_, rfl⟩
      obtain ⟨L, hL⟩ : ∃ L, L = (X q).length := ⟨_, rfl⟩
      have hcall := HIN.out q
      rw [← hu, ← hL] at hcall
      have HCALL := Lib.hid hcall
      rw [← hu]
      have hu1 : (u : Int) < (N : Int) := by omega
      have huL : u + L ≤ N := by omega
      have hL1 : 1 ≤ L := by omega
      have HU := Lib.hid hu
      have HLL := Lib.hid hL
      have HSC := Lib.hid hsc
      clear hp hle2 hsc hNN hu hL hcall
      go_wp2_with fail
      go_loopw [6] (fun jj wq => ∃ r : Nat, u < r ∧ r ≤ u + L ∧ jj = .int .i64 (r : Int) ∧ I q wq) (fun jj _ => N - (intOf jj).toNat)
      case atStart => exact ⟨u + 1, by omega, by omega, by go_num, HIQ.out⟩
      case round =>
        obtain ⟨r, hr1, hr2, rfl, hIr⟩ := hrel
        have HIQ3 := Lib.hid hIr
        have hr0 : (0 : Int) ≤ (r : Int) := Int.natCast_nonneg _
        by_cases hrN : r < N
        · have hxr : ∃ x, (parts X nl)[r]? = some x ∧ ((r < u + L ∧ x.col = (q : Int)) ∨ (r = u + L ∧ x.col = ((q + 1 : Nat) : Int))) := by
            have hu := HU.out
            have hL := HLL.out
            by_cases hlt : r < u + L
            · have hx : (X q)[r - u]? = some ((X q)[r - u]'(by omega)) := List.getElem?_eq_getElem _
              have := parts_get X hx nl hqn
              rw [← hu, show u + (r - u) = r by omega] at this
              exact ⟨_, this, .inl ⟨hlt, HCOL.out q hqn _ (List.getElem_mem _)⟩⟩
            · have hsc := HSC.out
              have hNN := HN.out
              have hq1 : q + 1 < nl := by
                by_cases h : q + 1 = nl
                · rw [h] at hsc; omega
                · omega
              have hp := HPOS.out (q + 1) hq1
              have hx : (X (q + 1))[0]? = some ((X (q + 1))[0]'(by omega)) := List.getElem?_eq_getElem _
              have := parts_get X hx nl hq1
              rw [show (parts X (q + 1)).length + 0 = r by omega] at this
              exact ⟨_, this, .inr ⟨by omega, HCOL.out (q + 1) hq1 _ (List.getElem_mem _)⟩⟩
          obtain ⟨x, hx, hcase⟩ := hxr
          obtain ⟨D, dn, dc, u', hv, e0, e1, e2, e3, e4, e5⟩ := HROW.out r x hx
          have e5' := (World.cell?_of_block (a := ⟨b, o + r * 6 + 5, none⟩) (HI.out q _ hIr b hb.1 hb.2)).trans e5
          have hrN' : (r : Int) < (N : Int) := by omega
          have hnot := not_u16 q (by omega)
          obtain ⟨ci, hci⟩ : ∃ ci, ci = 65535 - x.col := ⟨_, rfl⟩
          rw [← hci] at e5'
          rcases hcase with ⟨hc1, hc2⟩ | ⟨hc1, hc2⟩
          · have hb1 : (ci == bits BinOp.xor IntKind.u16 IntKind.u16.max (q : Int)) = true := by rw [hnot]; simp; omega
            have hb4 : (ci == bits BinOp.xor IntKind.u16 (if IntKind.u16.signed = true then -1 else IntKind.u16.max) (q : Int)) = true := hb1
            clear hIr hx e0 e1 e2 e3 e4 e5 hv hc2 hci hnot
            go_wp2_with fail
            exact ⟨⟨r + 1, by omega, by omega, by go_num, HIQ3.out⟩, by simp [intOf]; omega⟩
          · have hb1 : (ci == bits BinOp.xor IntKind.u16 IntKind.u16.max (q : Int)) = false := by rw [hnot]; simp; omega
            have hb4 : (ci == bits BinOp.xor IntKind.u16 (if IntKind.u16.signed = true then -1 else IntKind.u16.max) (q : Int)) = false := hb1
            clear hIr hx e0 e1 e2 e3 e4 e5 hv hc2 hci hnot
            have hx1 : (u : Int) ≤ (r : Int) := by omega
            have hx2 : (r : Int) ≤ (c : Int) := by omega
            have hx3 : ¬ (r = u) := by omega
            have HRU2 := Lib.hid hc1
            clear hc1
            go_wp2_with fail
            rw [show r - u = L by have := HRU2.out; omega]
            refine (HCALL.out _ hqn HIQ3.out).mono ?_
            rintro e w7 ⟨rfl, hI7⟩
            have HI7 := Lib.hid hI7
            clear hI7
            go_wp2_with fail
            exact ⟨⟨q + 1, hqn, by go_num, by rw [HSC.out, ← HU.out, ← HLL.out, HRU2.out], HI7.out⟩, by simp [intOf]; omega⟩
        · have hrN' : ¬ ((r : Int) < (N : Int)) := by omega
          have hrb : decide ((r : Int) < (N : Int)) = false := decide_eq_false hrN'
          have HRU2 : Hid (r = u + L) := Lib.hid (by omega)
          clear hIr
          have hx1 : (u : Int) ≤ (r : Int) := by omega
          have hx2 : (r : Int) ≤ (c : Int) := by omega
          have hx3 : ¬ (r = u) := by omega
          go_wp2_with fail
          rw [show r - u = L by have := HRU2.out; omega]
          refine (HCALL.out _ hqn HIQ3.out).mono ?_
          rintro e w7 ⟨rfl, hI7⟩
          have HI7 := Lib.hid hI7
          clear hI7
          go_wp2_with fail
          exact ⟨⟨q + 1, hqn, by go_num, by rw [HSC.out, ← HU.out, ← HLL.out, HRU2.out], HI7.out⟩, by simp [intOf]; omega⟩
    · obtain rfl : q = nl := by omega
      have hNN := HN.out
      rw [hNN]
      clear hNN
      go_wp2_with fail
      go_end0
      exact ⟨rfl, HIQ.out⟩
end Go.Proofs.YtglgclkgppomiaaGreat

namespace Go.Proofs.YtglgclkgppomiaaGreat
open Go Go.RowKit

theorem ent83 : Enters 83 := fun args W => by kernel_rfl
set_option maxRecDepth 100000 in
set_option maxHeartbeats 1000000 in
theorem put83 (j nl V P n c : Nat) (A : Option Addr) (csV : Array Value) (w : World) (hP : RowB w P 97 #[.slice (some ⟨V, 0, none⟩) nl nl]) (hV : RowB w V 62 csV) (hs : csV.size = nl) (hj : j < nl) :
    Calls Tryz.prog 83 #[.int .i64 j, .slice A n c, .pointer (some ⟨P, 0, none⟩)] w fun e w' => e = .returned (.bool true) ∧ w' = w.setCell ⟨V, j, none⟩ (.slice A n c) := by
  have p0 := hP.cell 0
  have p0' : w.cell? ⟨P, 0, none⟩ = some (.slice (some ⟨V, 0, none⟩) nl nl) := p0
  obtain ⟨v, hv⟩ : ∃ v, csV[j]? = some v := ⟨_, Array.getElem?_eq_getElem (by omega)⟩
  have hvj := (hV.cell j).trans hv
  have hfj := hV.free j
  have hj0 : (0 : Int) ≤ (j : Int) := Int.natCast_nonneg _
  have hj1 : (j : Int) < (nl : Int) := by omega
  clear hP hV hs hv p0
  go_enter Tryz.func83, Tryz.ntmps83
  go_wp2_with fail
  go_ret
  exact ⟨rfl, rfl⟩
/-- The columns found so far. -/
structure Found (W w' : World) (b o nl : Nat) (X : Nat → List Cl) (j : Nat) : Prop where
  below : Below W.heap.size W w'
  prow : RowB w' (W.heap.size + 1) 97 #[.slice (some ⟨W.heap.size, 0, none⟩) nl nl]
  vrow : ∃ csV, RowB w' W.heap.size 62 csV ∧ csV.size = nl ∧ ∀ q, q < j → csV[q]? = some (.slice (some ⟨b, o + (parts X q).length * 6, none⟩) (X q).length (X q).length)

set_option maxRecDepth 100000 in
set_option maxHeartbeats 2000000 in
theorem recon52 (kids : List Fd) (ds : List Dt) (g lo0 pb po : Nat) (cs : Array Value) (lo B b o c N : Nat) (W : World) (hr : RowFacts kids ds) (hS : IsSchema W lo0 W.heap.size g kids) (hpb : pb < lo0) (hrow : RowB W pb 79 cs) (hfit : po + 8 ≤ cs.size)
    (hN : (rowCells kids ds).length = N) (hcells : ∀ i x, (rowCells kids ds)[i]? = some x → VlIn W lo B b (o + i * 6) x) (hb : lo ≤ b ∧ b < B) (hB : B ≤ W.heap.size) (hpo : pb < lo) (hc : N ≤ c) (htx : ∀ x ∈ shFields kids ds 0 0 0 0, x.text.size ≤ 1000000000000) :
    Calls Tryz.prog 52 #[.pointer (some ⟨g, 0, none⟩), .pointer (some ⟨pb, po, none⟩), .slice (some ⟨b, o, none⟩) N c] W (Rebuilt pb po cs (.mk 4 0 0 .empty (trFields kids ds)) W) := by
  obtain ⟨f, cap, hcf, hrec⟩ := hS.cR
  have hent := hrec.enters f cap rfl
  have hrun := rec_run hrec 0 (by omega) ⟨fun h => absurd h hr.ne, fun _ => hr.okl⟩ (by have := hr.size; omega) f cap rfl
  have hlv : leaves kids ≤ 300 := hr.leaves
  have hS0 := hS.c0
  have hglt := hS.lt
  have hgne : g ≠ pb := by have := hS.hlo; omega
  have HRUN := Lib.hid hrun
  have HR := Lib.hid hr
  have HROW := Lib.hid hrow
  have HCELLS := Lib.hid hcells
  have HN := Lib.hid hN
  have HTX := Lib.hid htx
  have hpl := hrow.lt
  obtain ⟨nl, hnl⟩ : ∃ nl, nl = leaves kids := ⟨_, rfl⟩
  rw [← hnl] at hS0 hlv
  have HNL := Lib.hid hnl
  have hmk := make_n Tryz.underlying97 info62 nl (by omega) (by omega)
  obtain ⟨M, hM⟩ : ∃ M, M = madeCells (Value.slice none 0 0).cells (nl * 1) := ⟨_, rfl⟩
  have hMs : M.size = nl := by rw [hM]; simp [madeCells]
  rw [← hM] at hmk
  have HMS := Lib.hid hMs
  clear hr hS hrec hrun hrow hcells hN htx hnl hM hMs
  go_enter Tryz.func52, Tryz.ntmps52
  go_wp2_with fail
  obtain ⟨W2, hW2⟩ : ∃ W2, W2 = (W.alloc (.cells M 62)).alloc (.cells #[.slice (some ⟨W.heap.size, 0, none⟩) nl nl] 97) := ⟨_, rfl⟩
  have hB2 : Below W.heap.size W W2 := by rw [hW2]; exact ((Below.refl _ _).alloc (Nat.le_refl _) _).alloc (by simp) _
  have hV2 : RowB W2 W.heap.size 62 M := by rw [hW2]; exact (RowB.new W 62 M).alloc _
  have hP2 : RowB W2 (W.heap.size + 1) 97 #[.slice (some ⟨W.heap.size, 0, none⟩) nl nl] := by rw [hW2]; exact rowB_new (by simp)
  rw [← hW2]
  clear hW2
  have hcls : ∀ j x, x ∈ colOf (shFields kids ds 0 0 0 0) j → x.col = (j : Int) := fun j x hx => by
    have := (List.mem_filter.1 hx).2
    simpa using this
  have hps : ∀ j, j < nl → 1 ≤ (colOf (shFields kids ds 0 0 0 0) j).length := fun j hj => by
    obtain ⟨a, t, e, _, _⟩ := (shCols kids ds 0 0 0 0).blk j (by rw [← HNL.out]; exact hj)
    rw [Nat.zero_add] at e
    rw [e]; simp
  have hrc : rowCells kids ds = parts (colOf (shFields kids ds 0 0 0 0)) nl := by rw [HNL.out]; rfl
  have hF0 : Found W W2 b o nl (colOf (shFields kids ds 0 0 0 0)) 0 := ⟨hB2, hP2, M, hV2, HMS.out, fun q h => absurd h (by omega)⟩
  have hfr : ∀ b, lo ≤ b → b < B → W2.heap[b]? = W.heap[b]? := fun b _ h => hB2.block b (by omega)
  have hNb : N ≤ 1000000000 := by have := HR.out.plen; have := HN.out; omega
  refine (range58 nl (colOf (shFields kids ds 0 0 0 0)) b o c lo B N 83 #[.pointer (some ⟨W.heap.size + 1, 0, none⟩)] W2 (fun j W' => Found W W' b o nl (colOf (shFields kids ds 0 0 0 0)) j) (by rw [← hrc]; exact HN.out) (fun i x hx => (HCELLS.out i x (by rw [hrc]; exact hx)).frame hfr (Nat.le_refl _) (Nat.le_refl _) hb) hb (fun j _ x hx => hcls j x hx) hps (by omega) hNb hc ent83 hF0 (fun j W' h b h1 h2 => (h.below.block b (by omega)).trans (hfr b h1 h2).symm) (fun j W' hj h => ?_)).mono ?_
  · obtain ⟨csV, hv1, hv2, hv3⟩ := h.vrow
    refine (put83 j nl W.heap.size (W.heap.size + 1) (colOf (shFields kids ds 0 0 0 0) j).length (colOf (shFields kids ds 0 0 0 0) j).length (some ⟨b, o + (parts (colOf (shFields kids ds 0 0 0 0)) j).length * 6, none⟩) csV W' h.prow hv1 hv2 hj).mono ?_
    rintro e w' ⟨rfl, rfl⟩
    refine ⟨rfl, below_setCell h.below (Nat.le_refl _) _, h.prow.of_eq (setCell_other _ _ _ (show W.heap.size + 1 ≠ W.heap.size by omega)), _, hv1.set j _, by rw [Array.size_setIfInBounds]; exact hv2, fun q hq => ?_⟩
    rw [Array.getElem?_setIfInBounds]
    by_cases hqj : j = q
    · subst hqj
      rw [if_pos rfl, if_pos (by omega)]
    · rw [if_neg hqj]
      exact hv3 q (by omega)
  rintro e w3 ⟨rfl, hF⟩
  have HF := Lib.hid hF
  obtain ⟨csV, hv1, hv2, hv3⟩ := hF.vrow
  have hp3 := hF.prow.cell 0
  have hp3' : w3.cell? ⟨W.heap.size + 1, 0, none⟩ = some (.slice (some ⟨W.heap.size, 0, none⟩) nl nl) := hp3
  have hg3 := (bcell hF.below (o := 2) hglt).trans hcf
  have hsz3 := hF.prow.lt
  have e : recCells false false 0 kids (Dt.mk false 0 .empty ds) 0 0 0 0 = shFields kids ds 0 0 0 0 := by
    have := shOnce_group 0 kids HR.out.ne (Dt.mk false 0 .empty ds) 0 0 0 0
    rw [show shFields kids ds 0 0 0 0 = shFields kids (Dt.mk false 0 .empty ds).items 0 0 0 0 from rfl, ← this]
    simp [recCells, shField, wayOf]
  have e1 : trField (wayOf false false) (fun d => trOnce (bareFd 0 kids) d) (Dt.mk false 0 .empty ds) = .mk 4 0 0 .empty (trFields kids ds) := by
    have := trOnce_group 0 kids HR.out.ne (Dt.mk false 0 .empty ds)
    rw [show trFields kids ds = trFields kids (Dt.mk false 0 .empty ds).items from rfl, ← this]
    simp [trField, wayOf]
  have hnn : nodeLeaves kids = nl := by rw [HNL.out]; unfold nodeLeaves; rw [if_neg HR.out.ne]
  have hpre : RecPre w3.drew pb po cs lo B W.heap.size 0 nl (fun j => colOf (recCells false false 0 kids (Dt.mk false 0 .empty ds) 0 0 0 0) (0 + j)) := by
    refine ⟨HROW.out.of_eq (hF.below.block pb hpl), hfit, fun j hj => ?_, by omega, show W.heap.size < w3.heap.size by omega, .inl hpo, Nat.le_trans hB hF.below.size⟩
    rw [e, Nat.zero_add]
    refine ⟨b, o + (parts (colOf (shFields kids ds 0 0 0 0)) j).length * 6, _, (hv1.cell j).trans (hv3 j hj), Nat.le_refl _, hb, fun i x hx => ?_⟩
    have := (HCELLS.out _ x (by rw [hrc]; exact parts_get _ hx nl hj)).frame (w' := w3.drew) (fun b _ h => hF.below.block b (by omega)) (Nat.le_refl _) (Nat.le_refl _) hb
    rw [show o + ((parts (colOf (shFields kids ds 0 0 0 0)) j).length + i) * 6 = o + (parts (colOf (shFields kids ds 0 0 0 0)) j).length * 6 + i * 6 by omega] at this
    exact this
  have hcall := HRUN.out w3.drew (Dt.mk false 0 .empty ds) 0 0 0 0 0 pb po cs lo B W.heap.size 0 nl (fun b _ h2 => hF.below.block b h2) hF.below.size (.inl hpb) (by simp) (by simp) (by rw [e]; have := HR.out.len; omega) (fun x hx => by rw [e] at hx; exact ⟨HTX.out x hx, by have := (HR.out.cells x hx).de; omega⟩) (by rw [hnn]; exact hpre) (by omega) (by omega)
  rw [e1, hnn] at hcall
  have HCALL := Lib.hid hcall
  have hent1 : ∀ args W, (callFunc f args).run Tryz.prog W = .ok (.enter f args) W := hent
  clear hcall hpre e e1 hF hp3 hv1 hv2 hv3 hcls hps hrc hF0 hfr hnn
  go_wp2_with fail
  go_region_held3 (fun w' => w'.cell? ⟨g, 2, none⟩ = some (.func (.func f) #[] cap) ∧ w'.cell? ⟨W.heap.size + 1, 0, none⟩ = some (.slice (some ⟨W.heap.size, 0, none⟩) nl nl))
    (first
      | (exact ⟨hg3, hp3'⟩)
      | (exact ⟨(hW7 _ _ (by omega) (by omega)).trans hg3, (hW7 _ _ (by omega) (by omega)).trans hp3'⟩))
    ((first
      | (refine HCALL.out.mono ?_
         intro e w7 h2
         have hW7 : ∀ g i, g < w3.heap.size → g ≠ pb → w7.cell? ⟨g, i, none⟩ = w3.cell? ⟨g, i, none⟩ := fun g i h1 h3 => by
           obtain ⟨_, cs', _, _, _, _, h5⟩ := h2
           exact World.cell?_of_block (a := ⟨g, i, none⟩) (h5.block g h1 (fun he => h3 (by injection he)))
         have H2 := Lib.hid h2
         obtain ⟨rfl, h2'⟩ := h2)))
  all_goals
    go_wp2_with fail
    go_ret
    exact H2.out.before HF.out.below.drew
end Go.Proofs.YtglgclkgppomiaaGreat

namespace Go.Proofs.YtglgclkgppomiaaGreat
open Go Go.RowKit

/-- The four cells of a datum. -/
abbrev dCells (d : Dt) (A : Option Addr) (c : Nat) : Array Value := #[.bool d.none, .int .i64 d.num, .string d.text, .slice A d.items.length c]
/-- A list of data behind a slice, all in the blocks from lo on and below B. -/
inductive DtsIn (w : World) (lo B : Nat) : Option Addr → Nat → Nat → List Dt → Prop where
  | nil (A : Option Addr) (c : Nat) : DtsIn w lo B A 0 c []
  | mk (b o n c : Nat) (ds : List Dt) (A : Nat → Option Addr) (c' : Nat → Nat) (hb : lo ≤ b ∧ b < B) (hn : ds.length = n) (hnc : n ≤ c)
      (h : ∀ k d, ds[k]? = some d → w.cell? ⟨b, o + k * 4, none⟩ = some (.bool d.none) ∧ w.cell? ⟨b, o + k * 4 + 1, none⟩ = some (.int .i64 d.num) ∧
        w.cell? ⟨b, o + k * 4 + 2, none⟩ = some (.string d.text) ∧ w.cell? ⟨b, o + k * 4 + 3, none⟩ = some (.slice (A k) d.items.length (c' k)))
      (hr : ∀ k d, ds[k]? = some d → DtsIn w lo B (A k) d.items.length (c' k) d.items) : DtsIn w lo B (some ⟨b, o, none⟩) n c ds
theorem DtsIn.frame {w w' : World} {lo B lo' B' : Nat} (hf : ∀ b, lo ≤ b → b < B → w'.heap[b]? = w.heap[b]?) (hlo : lo' ≤ lo) (hB : B ≤ B') {A : Option Addr} {n c : Nat} {ds : List Dt} (h : DtsIn w lo B A n c ds) : DtsIn w' lo' B' A n c ds := by
  induction h with
  | nil A c => exact .nil A c
  | mk b o n c fs A c' hlt hn hnc h hr ih =>
    have hc : ∀ i, w'.cell? ⟨b, i, none⟩ = w.cell? ⟨b, i, none⟩ := fun i => World.cell?_of_block (a := ⟨b, i, none⟩) (hf b hlt.1 hlt.2)
    refine .mk b o n c fs A c' ⟨Nat.le_trans hlo hlt.1, Nat.lt_of_lt_of_le hlt.2 hB⟩ hn hnc (fun k f hk => ?_) ih
    obtain ⟨h0, h1, h2, h3⟩ := h k f hk
    exact ⟨(hc _).trans h0, (hc _).trans h1, (hc _).trans h2, (hc _).trans h3⟩
theorem DtsIn.toAt {w : World} {lo B : Nat} {A : Option Addr} {n c : Nat} {ds : List Dt} (h : DtsIn w lo B A n c ds) : DtsAt w B A n c ds := by
  induction h with
  | nil A c => exact .nil A c
  | mk b o n c fs A c' hlt hn hnc h hr ih => exact .mk b o n c fs A c' hlt.2 hn hnc h ih
theorem DtsIn.len {w : World} {lo B : Nat} {A : Option Addr} {n c : Nat} {ds : List Dt} (h : DtsIn w lo B A n c ds) : ds.length = n ∧ n ≤ c := h.toAt.len
structure FlatDw (w : World) (lo B : Nat) (row : Value) (xs : List Value) (cs : List Dt) (A : Nat → Option Addr) (c l e : Nat → Nat) : Prop where
  len : xs.length = cs.length * 4
  at_ : ∀ i x, cs[i]? = some x → DtsIn w (l i) (e i) (A i) x.items.length (c i) x.items
  bnd : ∀ i x, cs[i]? = some x → lo ≤ l i ∧ e i ≤ B ∧ ∀ g, row.ownBlock = some g → g < l i ∨ e i ≤ g
  get : ∀ i x, cs[i]? = some x → ∀ r v, (dCells x (A i) (c i))[r]? = some v → xs[i * 4 + r]? = some v
/-- The cells of values, each made by a call of its own, none of which wrote in the row's block. -/
def FlatD (w : World) (lo B : Nat) (row : Value) (xs : List Value) (cs : List Dt) : Prop := ∃ A c l e, FlatDw w lo B row xs cs A c l e
theorem FlatD.nil (w : World) (lo B : Nat) (row : Value) : FlatD w lo B row [] [] := ⟨fun _ => none, fun _ => 0, fun _ => 0, fun _ => 0, ⟨rfl, fun i t h => by simp at h, fun i t h => by simp at h, fun i t h => by simp at h⟩⟩
theorem FlatD.frame {w w' : World} {lo B lo' B' : Nat} {row row' : Value} (hf : ∀ b, lo ≤ b → b < B → row.ownBlock ≠ some b → w'.heap[b]? = w.heap[b]?) (hr : ∀ g, row'.ownBlock = some g → row.ownBlock = some g ∨ B ≤ g) (hlo : lo' ≤ lo) (hB : B ≤ B') {xs : List Value} {cs : List Dt} (h : FlatD w lo B row xs cs) : FlatD w' lo' B' row' xs cs := by
  obtain ⟨A, c, l, e, h⟩ := h
  refine ⟨A, c, l, e, ⟨h.len, fun i t ht => ?_, fun i t ht => ?_, h.get⟩⟩
  · obtain ⟨b1, b2, b3⟩ := h.bnd i t ht
    refine (h.at_ i t ht).frame (fun b k1 k2 => hf b (Nat.le_trans b1 k1) (Nat.lt_of_lt_of_le k2 b2) fun hb => ?_) (Nat.le_refl _) (Nat.le_refl _)
    have := b3 b hb
    omega
  · obtain ⟨b1, b2, b3⟩ := h.bnd i t ht
    refine ⟨Nat.le_trans hlo b1, Nat.le_trans b2 hB, fun g hg => ?_⟩
    rcases hr g hg with h1 | h1
    · exact b3 g h1
    · exact .inr (Nat.le_trans b2 h1)
theorem FlatD.snoc {w : World} {lo B l0 e0 : Nat} {row : Value} {xs : List Value} {cs : List Dt} (h : FlatD w lo B row xs cs) {x0 : Dt} {A0 : Option Addr} {c0 : Nat} (ht : DtsIn w l0 e0 A0 x0.items.length c0 x0.items)
    (hl : lo ≤ l0) (he : e0 ≤ B) (hg : ∀ g, row.ownBlock = some g → g < l0 ∨ e0 ≤ g) :
    FlatD w lo B row (xs ++ (dCells x0 A0 c0).toList) (cs ++ [x0]) := by
  obtain ⟨A, c, l, e, h⟩ := h
  refine ⟨fun i => if i = cs.length then A0 else A i, fun i => if i = cs.length then c0 else c i, fun i => if i = cs.length then l0 else l i, fun i => if i = cs.length then e0 else e i, ⟨?_, fun i x hx => ?_, fun i x hx => ?_, fun i x hx r v hv => ?_⟩⟩
  · rw [List.length_append, List.length_append, h.len]
    simp
    omega
  · by_cases hi : i = cs.length
    · subst hi
      simp at hx
      subst hx
      simp only [if_pos]
      exact ht
    · have hlt : i < cs.length := by
        have := (List.getElem?_eq_some_iff.1 hx).1
        simp at this; omega
      rw [List.getElem?_append_left hlt] at hx
      simp only [hi, if_false]
      exact h.at_ i x hx
  · by_cases hi : i = cs.length
    · subst hi
      simp only [if_pos]
      exact ⟨hl, he, hg⟩
    · have hlt : i < cs.length := by
        have := (List.getElem?_eq_some_iff.1 hx).1
        simp at this; omega
      rw [List.getElem?_append_left hlt] at hx
      simp only [hi, if_false]
      exact h.bnd i x hx
  · by_cases hi : i = cs.length
    · subst hi
      simp at hx
      subst hx
      simp only [if_pos] at hv
      rw [List.getElem?_append_right (by rw [h.len]; omega), h.len, show cs.length * 4 + r - cs.length * 4 = r by omega]
      simpa using hv
    · have hlt : i < cs.length := by
        have := (List.getElem?_eq_some_iff.1 hx).1
        simp at this; omega
      rw [List.getElem?_append_left hlt] at hx
      simp only [hi, if_false] at hv
      have hr : r < 4 := by
        have := (Array.getElem?_eq_some_iff.1 hv).1
        simpa using this
      rw [List.getElem?_append_left (by rw [h.len]; omega)]
      exact h.get i x hx r v hv
theorem dtsIn_owns {w : World} {lo B base : Nat} {v : Value} {N : Nat} {xs : List Value} {cs : List Dt} (h : w.ownsRow base 43 4 v N xs) (hN : cs.length = N) (hf : FlatD w lo B v xs cs) (hlo : lo ≤ base) (hB : B ≤ w.heap.size) : ∃ A c, v = .slice A N c ∧ DtsIn w lo w.heap.size A N c cs := by
  have hcells := fun g hg => h.cells (g := g) hg
  have hlt := h.lt
  rcases h.2 with ⟨rfl, rfl⟩ | ⟨g, cap, cur, rfl, hb, hcur, hle, hmax, hsz, htk⟩
  · obtain rfl := List.eq_nil_of_length_eq_zero hN
    exact ⟨none, 0, rfl, .nil _ _⟩
  · obtain ⟨A, c, l, e, hF⟩ := hf
    have hg : ∀ k u, xs[k]? = some u → w.cell? ⟨g, k, none⟩ = some u := fun k u hu => by
      have := hcells g rfl k u hu
      rw [Addr.add_lit, Nat.zero_add] at this
      exact this
    refine ⟨_, cap, rfl, .mk g 0 N cap cs A c ⟨Nat.le_trans hlo (hlt g rfl).1, (hlt g rfl).2⟩ hN hle (fun i t ht => ?_) (fun i t ht => (hF.at_ i t ht).frame (fun _ _ _ => rfl) (hF.bnd i t ht).1 (Nat.le_trans (hF.bnd i t ht).2.1 hB))⟩
    rw [Nat.zero_add]
    exact ⟨hg _ _ (hF.get i t ht 0 _ rfl), hg _ _ (hF.get i t ht 1 _ rfl), hg _ _ (hF.get i t ht 2 _ rfl), hg _ _ (hF.get i t ht 3 _ rfl)⟩
/-- A round: a datum was made in blocks [l0, e0), its cells were laid in a block, and appended to the row. -/
theorem step_flatD {w5 w6 w7 : World} {base l0 e0 : Nat} {v : Value} {j g cap : Nat} {xs : List Value} {cs : List Dt} {B0 : Nat} {x : Dt} {A : Option Addr} {c : Nat} {o : Obj}
    (hown : w5.ownsRow base 43 4 v j xs) (hflat : FlatD w5 base B0 v xs cs) (hB0 : B0 ≤ w5.heap.size) (hbase : base ≤ w5.heap.size) (hbA : Below w5.heap.size w5 w6) (hat : DtsIn w6 l0 e0 A x.items.length c x.items) (hl0 : w5.heap.size ≤ l0) (he0 : e0 ≤ w6.heap.size)
    (hgrow : (w6.alloc o).grownBy w7 v.ownBlock) (hat7 : v.ownBlock = some g ∨ g = w6.heap.size + 1) :
    FlatD w7 base w7.heap.size (.slice (some ⟨g, 0, none⟩) (j + 1) cap) (xs ++ (dCells x A c).toList) (cs ++ [x]) := by
  have hlt := hown.lt
  have hszA := hbA.size
  have hsz7 : w6.heap.size + 1 ≤ w7.heap.size := by have := hgrow.size; rwa [size_alloc1] at this
  have hblk : ∀ b, b < w6.heap.size → v.ownBlock ≠ some b → w7.heap[b]? = w6.heap[b]? := fun b h2 h3 =>
    (hgrow.block b (by rw [size_alloc1]; omega) (fun he => h3 he.symm)).trans (Below.heap_alloc w6 _ b h2)
  refine FlatD.snoc (l0 := l0) (e0 := e0) (hflat.frame (fun b h1 h2 h3 => (hblk b (by omega) h3).trans (hbA.block b (by omega))) (fun g' hg' => ?_) (Nat.le_refl _) (by omega)) (hat.frame (fun b h1 h2 => hblk b (by omega) fun he => ?_) (Nat.le_refl _) (Nat.le_refl _)) (by omega) (by omega) (fun g' hg' => ?_)
  · have : g = g' := by simpa [Value.ownBlock] using hg'
    subst this
    rcases hat7 with h | h
    · exact .inl h
    · exact .inr (by omega)
  · have := hlt b he
    omega
  · have : g = g' := by simpa [Value.ownBlock] using hg'
    subst this
    rcases hat7 with h | h
    · exact .inl (by have := (hlt g h).2; omega)
    · exact .inr (by omega)
/-- The call hands back data, all in blocks of its own. -/
def MakesDts (ds : List Dt) (w : World) (e : Ending) (w' : World) : Prop := ∃ A c, e = .returned (.slice A ds.length c) ∧ DtsIn w' w.heap.size w'.heap.size A ds.length c ds ∧ Below w.heap.size w w'
/-- The call hands back a datum, all in blocks of its own. -/
def MakesDt (d : Dt) (w : World) (e : Ending) (w' : World) : Prop := ∃ A c, e = .returned (dtVal d A d.items.length c) ∧ DtsIn w' w.heap.size w'.heap.size A d.items.length c d.items ∧ Below w.heap.size w w'
end Go.Proofs.YtglgclkgppomiaaGreat
