/- The walk of spec.AreColumns. The walks of laws.zzFits1, zzFits2 and zzFits3 at cells of any size. The walks of Row.Equal and of impl.SameRow. -/
import Derived.Test.YtglgclkgppomiaaGreatYSame05
set_option linter.unusedVariables false
set_option linter.unusedSimpArgs false
namespace Go.Proofs.YtglgclkgppomiaaGreat
open Go Go.RowKit

/-- The cells of column number i. -/
def colOk (i : Nat) (l : List Cl) : Bool := areCl l && l.all fun x => decide (x.col = (i : Int))
def colsFrom : Nat → List (List Cl) → Bool
  | _, [] => true
  | i, l :: r => colOk i l && colsFrom (i + 1) r
/-- What spec.AreColumns says. -/
def areCols (ls : List (List Cl)) : Bool := colsFrom 0 ls && decide (ls.length ≤ 300)
theorem colsFrom_snoc : ∀ (ls : List (List Cl)) (i : Nat) (l : List Cl), colsFrom i (ls ++ [l]) = (colsFrom i ls && colOk (i + ls.length) l)
  | [], i, l => by simp [colsFrom]
  | m :: r, i, l => by
    rw [List.cons_append, colsFrom, colsFrom_snoc r (i + 1) l, colsFrom, List.length_cons, show i + 1 + r.length = i + (r.length + 1) by omega, Bool.and_assoc]
theorem colsFrom_take {ls : List (List Cl)} {j : Nat} {l : List Cl} (h : ls[j]? = some l) : colsFrom 0 (ls.take (j + 1)) = (colsFrom 0 (ls.take j) && colOk j l) := by
  have hj := (List.getElem?_eq_some_iff.1 h).1
  rw [List.take_add_one, h]
  show colsFrom 0 (ls.take j ++ [l]) = _
  rw [colsFrom_snoc, List.length_take, Nat.min_eq_left (by omega), Nat.zero_add]
theorem colsFrom_bad : ∀ (ls : List (List Cl)) (i k : Nat) (l : List Cl), ls[k]? = some l → colOk (i + k) l = false → colsFrom i ls = false
  | [], _, k, _, h, _ => by simp at h
  | m :: r, i, 0, l, h, hb => by
    simp at h
    subst h
    rw [colsFrom, show colOk i m = false by simpa using hb]; rfl
  | m :: r, i, k + 1, l, h, hb => by
    rw [colsFrom, colsFrom_bad r (i + 1) k l (by simpa using h) (by rw [show i + 1 + k = i + (k + 1) by omega]; exact hb), Bool.and_false]
theorem areCols_bad {ls : List (List Cl)} {k : Nat} {l : List Cl} (h : ls[k]? = some l) (hb : colOk k l = false) : areCols ls = false := by
  unfold areCols
  rw [colsFrom_bad ls 0 k l h (by rw [Nat.zero_add]; exact hb)]; rfl

set_option maxRecDepth 100000 in
set_option maxHeartbeats 2000000 in
theorem columns36 (ls : List (List Cl)) (A0 : Option Addr) (n c : Nat) (A : Nat → Option Addr) (cc : Nat → Nat) (w : World) (hls : LsAt w w.heap.size A0 n c ls A cc) (hn : n ≤ 3000000000) (hts : ∀ l ∈ ls, l.length ≤ 3000000000 ∧ ∀ x ∈ l, x.text.size ≤ 1000000000000) :
    Calls Tryz.prog 36 #[.slice A0 n c] w fun e w' => e = .returned (.bool (areCols ls)) ∧ Below w.heap.size w w' := by
  have HLS := Lib.hid hls
  have HTS := Lib.hid hts
  have HLEN := Lib.hid hls.len
  clear hls hts
  go_enter Tryz.func36, Tryz.ntmps36
  go_wp2_with fail
  go_loopw [9] (fun i wr => ∃ (j : Nat), j ≤ n ∧ i = .int .i64 j ∧ colsFrom 0 (ls.take j) = true ∧ Below w.heap.size w wr) (fun i _ => n - (intOf i).toNat)
  case atStart => exact ⟨0, Nat.zero_le _, rfl, rfl, Below.refl _ _⟩
  case round =>
    obtain ⟨j, hj, rfl, hall, hb5⟩ := hrel
    have HALL := Lib.hid hall
    have HB5 := Lib.hid hb5
    clear hall
    by_cases hlt : j < n
    · obtain ⟨l, hl⟩ : ∃ l, ls[j]? = some l := ⟨_, List.getElem?_eq_getElem (by have := HLEN.out; omega)⟩
      obtain ⟨b, o, rfl, hbl, hcell, hcl⟩ := HLS.out.at_ j l hl
      have hc0 := (bcell hb5 hbl).trans hcell
      have hj0 : (0 : Int) ≤ (j : Int) := Int.natCast_nonneg _
      have hj1 : (j : Int) < (n : Int) := by omega
      have ht := HTS.out l (List.mem_of_getElem? hl)
      have HC := Lib.hid (cells37 l (A j) _ (cc j) wr (hcl.mono hb5 hb5.size) ht.1 ht.2)
      have HL := Lib.hid hl
      have HCL := Lib.hid hcl
      have hLb := ht.1
      clear hcell hl hb5 hcl ht
      cases ha : areCl l with
      | false =>
        rw [ha] at HC
        have HBAD := Lib.hid (areCols_bad HL.out (show colOk j l = false by unfold colOk; rw [ha]; rfl))
        clear ha
        go_wp2_with fail
        refine HC.out.mono ?_
        rintro e w6 ⟨rfl, hb6⟩
        have HB6 := Lib.hid (HB5.out.trans (hb6.mono HB5.out.size))
        clear hb6
        go_wp2_with fail
        go_ret
        exact ⟨ret_bool (by rw [HBAD.out]), HB6.out⟩
      | true =>
        rw [ha] at HC
        have HA := Lib.hid ha
        clear ha
        go_wp2_with fail
        refine HC.out.mono ?_
        rintro e w6 ⟨rfl, hb6⟩
        have HB6 := Lib.hid (HB5.out.trans (hb6.mono HB5.out.size))
        clear hb6
        go_wp2_with fail
        go_loopw [19] (fun i wq => ∃ (r : Nat), r ≤ l.length ∧ i = .int .i64 r ∧ ((l.take r).all fun x => decide (x.col = (j : Int))) = true ∧ Below w.heap.size w wq) (fun i _ => l.length - (intOf i).toNat)
        case atStart => exact ⟨0, Nat.zero_le _, rfl, rfl, HB6.out⟩
        case round =>
          obtain ⟨r, hr, rfl, hal, hb7⟩ := hrel
          have HAL := Lib.hid hal
          have HB7 := Lib.hid hb7
          clear hal
          by_cases hltr : r < l.length
          · obtain ⟨b0, o0, x, hA0, hb0, hxk, c0, c1, c2, c3, c4, c5, c6⟩ := HCL.out.at_ hltr
            have HX := Lib.hid hxk
            have HA0 := Lib.hid hA0
            have c0' := (bcell hb7 hb0).trans c0
            have c1' := (bcell hb7 hb0).trans c1
            have c2' := (bcell hb7 hb0).trans c2
            have c3' := (bcell hb7 hb0).trans c3
            have c4' := (bcell hb7 hb0).trans c4
            have c5' := (bcell hb7 hb0).trans c5
            have c6' := (bcell hb7 hb0).trans c6
            have hr0 : (0 : Int) ≤ (r : Int) := Int.natCast_nonneg _
            have hr1 : (r : Int) < (l.length : Int) := by omega
            have hbq : Below w.heap.size w (wr.alloc (.cells #[.int .i64 x.col, .int .i64 x.rep, .int .i64 x.de, .bool x.null, .int .i64 x.kind, .int .i64 x.num, .string x.text] 39)) := hb7.alloc hb7.size _
            have HBQ := Lib.hid hbq
            rw [hA0]
            clear c0 c1 c2 c3 c4 c5 c6 hxk hb7 hbq hA0
            by_cases hx : x.col = (j : Int)
            · have hx1 : (x.col == (j : Int)) = true := by simpa using hx
              have HT : Hid (((l.take (r + 1)).all fun x => decide (x.col = (j : Int))) = true) := by
                show _ = _
                rw [List.take_add_one, HX.out, List.all_append, HAL.out]
                simp [hx]
              clear hx
              go_wp2_with fail
              refine ⟨⟨r + 1, by omega, by go_num, HT.out, HBQ.out⟩, by simp [intOf]; omega⟩
            · have hx1 : (x.col == (j : Int)) = false := by simpa using hx
              have HBAD := Lib.hid (areCols_bad HL.out (show colOk j l = false by
                unfold colOk
                have : (l.all fun x => decide (x.col = (j : Int))) = false := by
                  rw [List.all_eq_false]
                  exact ⟨x, List.mem_of_getElem? HX.out, by simpa using hx⟩
                rw [this, Bool.and_false]))
              clear hx
              go_wp2_with fail
              go_ret
              exact ⟨ret_bool (by rw [HBAD.out]), HBQ.out⟩
          · obtain rfl : r = l.length := by omega
            have HT : Hid (colsFrom 0 (ls.take (j + 1)) = true) := by
              show _ = _
              have h1 := HAL.out
              rw [List.take_of_length_le (Nat.le_refl _)] at h1
              rw [colsFrom_take HL.out, HALL.out]
              unfold colOk
              rw [HA.out, h1]; rfl
            clear hb7
            go_wp2_with fail
            refine ⟨⟨j + 1, by omega, by go_num, HT.out, HB7.out⟩, by simp [intOf]; omega⟩
    · obtain rfl : j = n := by omega
      have hfin : areCols ls = decide ((j : Int) ≤ 300) := by
        have h1 := HALL.out
        have h2 := HLEN.out.1
        rw [List.take_of_length_le (by omega)] at h1
        unfold areCols
        rw [h1, h2, Bool.true_and]
        exact decide_eq_decide.2 (by omega)
      have HFIN := Lib.hid hfin
      clear hfin hb5
      go_wp2_with fail
      go_ret
      exact ⟨ret_bool (by rw [HFIN.out]), HB5.out⟩
end Go.Proofs.YtglgclkgppomiaaGreat

namespace Go.Proofs.YtglgclkgppomiaaGreat
open Go Go.RowKit

def fitsCl (x : Cl) : Bool := decide (x.text.size ≤ 2147483647)
def fitsCls (cs : List Cl) : Bool := decide (cs.length ≤ 2147483647) && cs.all fitsCl
def fitsLss (ls : List (List Cl)) : Bool := decide (ls.length ≤ 2147483647) && ls.all fitsCls
theorem fitsCl_of {x : Cl} (h : fitsCl x = true) : x.text.size ≤ 2147483647 := of_decide_eq_true h
theorem fitsCls_of {cs : List Cl} (h : fitsCls cs = true) : cs.length ≤ 2147483647 ∧ ∀ x ∈ cs, x.text.size ≤ 2147483647 := by
  unfold fitsCls at h
  simp only [Bool.and_eq_true, decide_eq_true_eq, List.all_eq_true] at h
  exact ⟨h.1, fun x hx => fitsCl_of (h.2 x hx)⟩
theorem fitsLss_of {ls : List (List Cl)} (h : fitsLss ls = true) : ls.length ≤ 2147483647 ∧ ∀ l ∈ ls, l.length ≤ 2147483647 ∧ ∀ x ∈ l, x.text.size ≤ 2147483647 := by
  unfold fitsLss at h
  simp only [Bool.and_eq_true, decide_eq_true_eq, List.all_eq_true] at h
  exact ⟨h.1, fun l hl => fitsCls_of (h.2 l hl)⟩
theorem all_snoc_list {α : Type} {p : α → Bool} {cs : List α} {j : Nat} {x : α} (h : cs[j]? = some x) : (cs.take (j + 1)).all p = ((cs.take j).all p && p x) := by
  rw [List.take_add_one, h]; simp
theorem all_bad {α : Type} {p : α → Bool} {cs : List α} {j : Nat} {x : α} (h : cs[j]? = some x) (hx : p x = false) : cs.all p = false := by
  rw [List.all_eq_false]
  exact ⟨x, List.mem_of_getElem? h, by simp [hx]⟩

set_option maxRecDepth 100000 in
theorem fits41_any (x : Cl) (w : World) (hx : x.text.size ≤ 9223372036854775807) : Calls Tryz.prog 41 #[clVal x] w fun e w' => e = .returned (.bool (fitsCl x)) ∧ Below w.heap.size w w' := by
  by_cases hs : x.text.size ≤ 2147483647
  · have h1 : decide ((2147483647 : Int) < (x.text.size : Int)) = false := by simp; omega
    have h2 : decide (2147483647 < x.text.size) = false := by simp; omega
    have h3 : ¬ (2147483647 < x.text.size) := by omega
    have HF : Hid (fitsCl x = true) := Lib.hid (decide_eq_true hs)
    clear hs
    go_enter Tryz.func41, Tryz.ntmps41
    go_wp2_with fail
    go_ret
    exact ⟨ret_bool HF.out.symm, (Below.refl _ _).alloc (Nat.le_refl _) _⟩
  · have h1 : decide ((2147483647 : Int) < (x.text.size : Int)) = true := by simp; omega
    have h2 : decide (2147483647 < x.text.size) = true := by simp; omega
    have h3 : 2147483647 < x.text.size := by omega
    have HF : Hid (fitsCl x = false) := Lib.hid (decide_eq_false hs)
    clear hs
    go_enter Tryz.func41, Tryz.ntmps41
    go_wp2_with fail
    go_ret
    exact ⟨ret_bool HF.out.symm, (Below.refl _ _).alloc (Nat.le_refl _) _⟩
set_option maxRecDepth 100000 in
set_option maxHeartbeats 2000000 in
theorem fits34_any (cs : List Cl) (A : Option Addr) (n c : Nat) (w : World) (hcl : ClsAt w w.heap.size A n c cs) (hn : n ≤ 9223372036854775807) (hts : ∀ x ∈ cs, x.text.size ≤ 9223372036854775807) :
    Calls Tryz.prog 34 #[.slice A n c] w fun e w' => e = .returned (.bool (fitsCls cs)) ∧ Below w.heap.size w w' := by
  have HCL := Lib.hid hcl
  have HTS := Lib.hid hts
  have HLEN := Lib.hid hcl.1
  clear hcl hts
  by_cases hs : n ≤ 2147483647
  · have h1 : decide ((2147483647 : Int) < (n : Int)) = false := by simp; omega
    have h2 : decide (2147483647 < n) = false := by simp; omega
    have h3 : ¬ (2147483647 < n) := by omega
    have HD : Hid (decide (cs.length ≤ 2147483647) = true) := Lib.hid (decide_eq_true (by rw [HLEN.out]; exact hs))
    go_enter Tryz.func34, Tryz.ntmps34
    go_wp2_with fail
    go_loopw [10] (fun i wr => ∃ (j : Nat), j ≤ n ∧ i = .int .i64 j ∧ (cs.take j).all fitsCl = true ∧ Below w.heap.size w wr) (fun i _ => n - (intOf i).toNat)
    case atStart => exact ⟨0, Nat.zero_le _, rfl, rfl, Below.refl _ _⟩
    case round =>
      obtain ⟨j, hj, rfl, hall, hb5⟩ := hrel
      have HALL := Lib.hid hall
      have HB5 := Lib.hid hb5
      clear hall
      by_cases hlt : j < n
      · obtain ⟨b0, o, x, rfl, hb0, hxk, c0, c1, c2, c3, c4, c5, c6⟩ := HCL.out.at_ hlt
        have HX := Lib.hid hxk
        have c0' := (bcell hb5 hb0).trans c0
        have c1' := (bcell hb5 hb0).trans c1
        have c2' := (bcell hb5 hb0).trans c2
        have c3' := (bcell hb5 hb0).trans c3
        have c4' := (bcell hb5 hb0).trans c4
        have c5' := (bcell hb5 hb0).trans c5
        have c6' := (bcell hb5 hb0).trans c6
        have hj0 : (0 : Int) ≤ (j : Int) := Int.natCast_nonneg _
        have hj1 : (j : Int) < (n : Int) := by omega
        have hbq : Below w.heap.size w (wr.alloc (.cells #[.int .i64 x.col, .int .i64 x.rep, .int .i64 x.de, .bool x.null, .int .i64 x.kind, .int .i64 x.num, .string x.text] 39)) := hb5.alloc hb5.size _
        have HC := Lib.hid (fits41_any x (wr.alloc (.cells #[.int .i64 x.col, .int .i64 x.rep, .int .i64 x.de, .bool x.null, .int .i64 x.kind, .int .i64 x.num, .string x.text] 39)) (HTS.out x (List.mem_of_getElem? hxk)))
        have HBQ := Lib.hid hbq
        clear c0 c1 c2 c3 c4 c5 c6 hxk hb5 hbq
        cases hx : fitsCl x with
        | false =>
          rw [hx] at HC
          have HBAD : Hid (fitsCls cs = false) := Lib.hid (by unfold fitsCls; rw [all_bad HX.out hx, Bool.and_false])
          clear hx
          go_wp2_with fail
          refine HC.out.mono ?_
          rintro e w6 ⟨rfl, hb6⟩
          have HB6 := Lib.hid (HBQ.out.trans (hb6.mono HBQ.out.size))
          clear hb6
          go_wp2_with fail
          go_ret
          exact ⟨ret_bool (by rw [HBAD.out]), HB6.out⟩
        | true =>
          rw [hx] at HC
          have HT := Lib.hid (all_snoc_list (p := fitsCl) HX.out)
          rw [hx] at HT
          clear hx
          go_wp2_with fail
          refine HC.out.mono ?_
          rintro e w6 ⟨rfl, hb6⟩
          have HB6 := Lib.hid (HBQ.out.trans (hb6.mono HBQ.out.size))
          clear hb6
          go_wp2_with fail
          refine ⟨⟨j + 1, by omega, by go_num, by rw [HT.out, HALL.out]; rfl, HB6.out⟩, by simp [intOf]; omega⟩
      · obtain rfl : j = n := by omega
        have hfin : fitsCls cs = true := by
          have h1 := HALL.out
          rw [List.take_of_length_le (by have := HLEN.out; omega)] at h1
          unfold fitsCls
          rw [HD.out, h1]; rfl
        have HFIN := Lib.hid hfin
        clear hfin hb5
        go_wp2_with fail
        go_ret
        exact ⟨ret_bool (by rw [HFIN.out]), HB5.out⟩
  · have h1 : decide ((2147483647 : Int) < (n : Int)) = true := by simp; omega
    have h2 : decide (2147483647 < n) = true := by simp; omega
    have h3 : 2147483647 < n := by omega
    have HF : Hid (fitsCls cs = false) := Lib.hid (by unfold fitsCls; rw [decide_eq_false (by rw [HLEN.out]; exact hs)]; rfl)
    clear hs
    go_enter Tryz.func34, Tryz.ntmps34
    go_wp2_with fail
    go_ret
    exact ⟨ret_bool HF.out.symm, Below.refl _ _⟩
set_option maxRecDepth 100000 in
set_option maxHeartbeats 2000000 in
theorem fits35_any (ls : List (List Cl)) (A0 : Option Addr) (n c : Nat) (A : Nat → Option Addr) (cc : Nat → Nat) (w : World) (hls : LsAt w w.heap.size A0 n c ls A cc) (hn : n ≤ 9223372036854775807) (hts : ∀ l ∈ ls, l.length ≤ 9223372036854775807 ∧ ∀ x ∈ l, x.text.size ≤ 9223372036854775807) :
    Calls Tryz.prog 35 #[.slice A0 n c] w fun e w' => e = .returned (.bool (fitsLss ls)) ∧ Below w.heap.size w w' := by
  have HLS := Lib.hid hls
  have HTS := Lib.hid hts
  have HLEN := Lib.hid hls.len
  clear hls hts
  by_cases hs : n ≤ 2147483647
  · have h1 : decide ((2147483647 : Int) < (n : Int)) = false := by simp; omega
    have h2 : decide (2147483647 < n) = false := by simp; omega
    have h3 : ¬ (2147483647 < n) := by omega
    have HD : Hid (decide (ls.length ≤ 2147483647) = true) := Lib.hid (decide_eq_true (by rw [HLEN.out.1]; exact hs))
    go_enter Tryz.func35, Tryz.ntmps35
    go_wp2_with fail
    go_loopw [10] (fun i wr => ∃ (j : Nat), j ≤ n ∧ i = .int .i64 j ∧ (ls.take j).all fitsCls = true ∧ Below w.heap.size w wr) (fun i _ => n - (intOf i).toNat)
    case atStart => exact ⟨0, Nat.zero_le _, rfl, rfl, Below.refl _ _⟩
    case round =>
      obtain ⟨j, hj, rfl, hall, hb5⟩ := hrel
      have HALL := Lib.hid hall
      have HB5 := Lib.hid hb5
      clear hall
      by_cases hlt : j < n
      · obtain ⟨l, hl⟩ : ∃ l, ls[j]? = some l := ⟨_, List.getElem?_eq_getElem (by have := HLEN.out; omega)⟩
        obtain ⟨b, o, rfl, hbl, hcell, hcl⟩ := HLS.out.at_ j l hl
        have hc0 := (bcell hb5 hbl).trans hcell
        have HL := Lib.hid hl
        have hj0 : (0 : Int) ≤ (j : Int) := Int.natCast_nonneg _
        have hj1 : (j : Int) < (n : Int) := by omega
        have ht := HTS.out l (List.mem_of_getElem? hl)
        have HC := Lib.hid (fits34_any l (A j) _ (cc j) wr (hcl.mono hb5 hb5.size) ht.1 ht.2)
        clear hcell hl hb5 hcl ht
        cases hx : fitsCls l with
        | false =>
          rw [hx] at HC
          have HBAD : Hid (fitsLss ls = false) := Lib.hid (by unfold fitsLss; rw [all_bad HL.out hx, Bool.and_false])
          clear hx
          go_wp2_with fail
          refine HC.out.mono ?_
          rintro e w6 ⟨rfl, hb6⟩
          have HB6 := Lib.hid (HB5.out.trans (hb6.mono HB5.out.size))
          clear hb6
          go_wp2_with fail
          go_ret
          exact ⟨ret_bool (by rw [HBAD.out]), HB6.out⟩
        | true =>
          rw [hx] at HC
          have HT := Lib.hid (all_snoc_list (p := fitsCls) HL.out)
          rw [hx] at HT
          clear hx
          go_wp2_with fail
          refine HC.out.mono ?_
          rintro e w6 ⟨rfl, hb6⟩
          have HB6 := Lib.hid (HB5.out.trans (hb6.mono HB5.out.size))
          clear hb6
          go_wp2_with fail
          refine ⟨⟨j + 1, by omega, by go_num, by rw [HT.out, HALL.out]; rfl, HB6.out⟩, by simp [intOf]; omega⟩
      · obtain rfl : j = n := by omega
        have hfin : fitsLss ls = true := by
          have h1 := HALL.out
          rw [List.take_of_length_le (by have := HLEN.out.1; omega)] at h1
          unfold fitsLss
          rw [HD.out, h1]; rfl
        have HFIN := Lib.hid hfin
        clear hfin hb5
        go_wp2_with fail
        go_ret
        exact ⟨ret_bool (by rw [HFIN.out]), HB5.out⟩
  · have h1 : decide ((2147483647 : Int) < (n : Int)) = true := by simp; omega
    have h2 : decide (2147483647 < n) = true := by simp; omega
    have h3 : 2147483647 < n := by omega
    have HF : Hid (fitsLss ls = false) := Lib.hid (by unfold fitsLss; rw [decide_eq_false (by rw [HLEN.out.1]; exact hs)]; rfl)
    clear hs
    go_enter Tryz.func35, Tryz.ntmps35
    go_wp2_with fail
    go_ret
    exact ⟨ret_bool HF.out.symm, Below.refl _ _⟩
end Go.Proofs.YtglgclkgppomiaaGreat

namespace Go.Proofs.YtglgclkgppomiaaGreat
open Go Go.RowKit

theorem RowIn.at_ {w : World} {lo B : Nat} {A : Option Addr} {n c : Nat} {cs : List Cl} (h : RowIn w lo B A n c cs) {i : Nat} (hi : i < n) :
    ∃ b o x D dn dc u, A = some ⟨b, o, none⟩ ∧ b < B ∧ cs[i]? = some x ∧ VR w lo B x.null x.kind x.num x.text D dn dc u ∧ w.cell? ⟨b, o + i * 6, none⟩ = some (.slice D dn dc) ∧ w.cell? ⟨b, o + i * 6 + 1, none⟩ = some (.int .u64 u) ∧ w.cell? ⟨b, o + i * 6 + 2, none⟩ = some (.int .i8 (kdOf x.null x.kind)) ∧
    w.cell? ⟨b, o + i * 6 + 3, none⟩ = some (.int .u8 x.de) ∧ w.cell? ⟨b, o + i * 6 + 4, none⟩ = some (.int .u8 x.rep) ∧ w.cell? ⟨b, o + i * 6 + 5, none⟩ = some (.int .u16 (65535 - x.col)) := by
  obtain ⟨h1, h2, h3⟩ := h
  obtain ⟨b, o, hA, hb, h⟩ := h3 (by omega)
  have hl : i < cs.length := by omega
  obtain ⟨D, dn, dc, u, r⟩ := h i _ (List.getElem?_eq_getElem hl)
  exact ⟨b, o, cs[i], D, dn, dc, u, hA, hb.2, List.getElem?_eq_getElem hl, r⟩
theorem RowIn.keep {w w' : World} {lo : Nat} {A : Option Addr} {n c : Nat} {cs : List Cl} (h : RowIn w lo w.heap.size A n c cs) (hb : Below w.heap.size w w') : RowIn w' lo w'.heap.size A n c cs :=
  h.frame (fun b _ hl => hb.block b hl) (Nat.le_refl _) hb.size
theorem take_next {α : Type} {a b : List α} {k : Nat} {x : α} (h : a.take k = b.take k) (hx : a[k]? = some x) (hy : b[k]? = some x) : a.take (k + 1) = b.take (k + 1) := by
  rw [List.take_add_one, List.take_add_one, h, hx, hy]
theorem take_differ {α : Type} {a b : List α} {k : Nat} {x y : α} (hx : a[k]? = some x) (hy : b[k]? = some y) (hne : x ≠ y) : a ≠ b := by
  intro h
  rw [h, hy] at hx
  injection hx with hx
  exact hne hx.symm

set_option maxRecDepth 100000 in
set_option maxHeartbeats 4000000 in
theorem equal69 (a b : List Cl) (ha : ∀ x ∈ a, Good x) (hb : ∀ x ∈ b, Good x) (lo lo2 : Nat) (A A2 : Option Addr) (n c n2 c2 : Nat) (w : World) (h1 : RowIn w lo w.heap.size A n c a) (h2 : RowIn w lo2 w.heap.size A2 n2 c2 b) (hn : n ≤ 1000000000) :
    Calls Tryz.prog 69 #[.slice A n c, .slice A2 n2 c2] w fun e w' => e = .returned (.bool (decide (a = b))) ∧ Below w.heap.size w w' := by
  have H1 := Lib.hid h1
  have H2 := Lib.hid h2
  have HA := Lib.hid ha
  have HB := Lib.hid hb
  have HL1 := Lib.hid h1.1
  have HL2 := Lib.hid h2.1
  clear h1 h2 ha hb
  by_cases h0 : n = n2
  · subst h0
    go_enter Tryz.func69, Tryz.ntmps69
    go_wp2_with fail
    go_loopw [13] (fun i wr => ∃ j : Nat, j ≤ n ∧ i = .int .i64 j ∧ a.take j = b.take j ∧ Below w.heap.size w wr) (fun i _ => n - (intOf i).toNat)
    case atStart => exact ⟨0, Nat.zero_le _, rfl, rfl, Below.refl _ _⟩
    case round =>
      obtain ⟨j, hj, rfl, hsame, hb5⟩ := hrel
      have HS := Lib.hid hsame
      have HB5 := Lib.hid hb5
      clear hsame
      by_cases hlt : j < n
      · have R1 := Lib.hid (H1.out.keep hb5)
        have R2 := Lib.hid (H2.out.keep hb5)
        obtain ⟨g, o, x, D, dn, dc, u, rfl, hg, hx, hv, c0, c1, c2, c3, c4, c5⟩ := R1.out.at_ hlt
        obtain ⟨g2, o2, y, D2, dn2, dc2, u2, rfl, hg2, hy, hv2, d0, d1, d2, d3, d4, d5⟩ := R2.out.at_ hlt
        have HX := Lib.hid hx
        have HY := Lib.hid hy
        have GX := Lib.hid (HA.out x (List.mem_of_getElem? hx))
        have GY := Lib.hid (HB.out y (List.mem_of_getElem? hy))
        have hj0 : (0 : Int) ≤ (j : Int) := Int.natCast_nonneg _
        have hj1 : (j : Int) < (n : Int) := by omega
        have HC := Lib.hid (equal67 x y GX.out GY.out _ _ _ _ D D2 dn dc dn2 dc2 u u2 x.de y.de x.rep y.rep (65535 - x.col) (65535 - y.col) wr.drew (hv.frame (w := wr) (w' := wr.drew) (fun _ _ _ => rfl) (Nat.le_refl _) (Nat.le_refl _)) (hv2.frame (w := wr) (w' := wr.drew) (fun _ _ _ => rfl) (Nat.le_refl _) (Nat.le_refl _)) (Nat.le_refl _) (Nat.le_refl _))
        have HK : Hid (∀ W, Below wr.heap.size wr W → (W.cell? ⟨g, o + j * 6 + 3, none⟩ = some (.int .u8 x.de) ∧ W.cell? ⟨g, o + j * 6 + 4, none⟩ = some (.int .u8 x.rep) ∧ W.cell? ⟨g, o + j * 6 + 5, none⟩ = some (.int .u16 (65535 - x.col))) ∧ (W.cell? ⟨g2, o2 + j * 6 + 3, none⟩ = some (.int .u8 y.de) ∧ W.cell? ⟨g2, o2 + j * 6 + 4, none⟩ = some (.int .u8 y.rep) ∧ W.cell? ⟨g2, o2 + j * 6 + 5, none⟩ = some (.int .u16 (65535 - y.col)))) := Lib.hid fun W hW =>
          ⟨⟨(bcell hW hg).trans c3, (bcell hW hg).trans c4, (bcell hW hg).trans c5⟩, (bcell hW hg2).trans d3, (bcell hW hg2).trans d4, (bcell hW hg2).trans d5⟩
        clear hx hy hv hv2 hb5 hg hg2
        obtain ⟨S0, hs0⟩ : ∃ S0, sameV x y = S0 := ⟨_, rfl⟩
        rw [hs0] at HC
        have HS0 := Lib.hid hs0
        clear hs0
        go_wp2_with fail
        refine still_tail 8 (by kernel_rfl) (by kernel_rfl) ?_
        simp only [List.take_succ_cons, List.take_zero, List.drop_succ_cons, List.drop_zero]
        repeat still_step
        refine wpStill_nil ?_
        go_wp2_with fail
        refine HC.out.mono ?_
        rintro e w1 ⟨rfl, hb1⟩
        have HB1 := Lib.hid (below_of_drew hb1)
        obtain ⟨⟨k3, k4, k5⟩, l3, l4, l5⟩ := HK.out w1 HB1.out
        clear hb1 c0 c1 c2 c3 c4 c5 d0 d1 d2 d3 d4 d5
        cases S0 with
        | false =>
          have HNE : Hid (decide (a = b) = false) := Lib.hid (decide_eq_false (take_differ HX.out HY.out (fun h => by
            have := HS0.out
            rw [h] at this
            simp [sameV] at this)))
          go_wp2_with fail
          go_ret
          exact ⟨ret_bool HNE.out.symm, HB5.out.trans (HB1.out.mono HB5.out.size)⟩
        | true =>
          by_cases q1 : x.rep = y.rep
          · have e1 : (x.rep != y.rep) = false := by simp [q1]
            have e1' : (x.rep == y.rep) = true := by simp [q1]
            have Q1 := Lib.hid q1
            clear q1
            go_wp2_with fail
            refine still_tail 10 (by kernel_rfl) (by kernel_rfl) ?_
            simp only [List.take_succ_cons, List.take_zero, List.drop_succ_cons, List.drop_zero]
            repeat still_step
            refine wpStill_nil ?_
            obtain ⟨⟨k3, k4, k5⟩, l3, l4, l5⟩ := HK.out w1.drew HB1.out.drew
            by_cases q2 : x.de = y.de
            · have e2 : (x.de != y.de) = false := by simp [q2]
              have e2' : (x.de == y.de) = true := by simp [q2]
              have Q2 := Lib.hid q2
              clear q2
              go_wp2_with fail
              refine still_tail 10 (by kernel_rfl) (by kernel_rfl) ?_
              simp only [List.take_succ_cons, List.take_zero, List.drop_succ_cons, List.drop_zero]
              repeat still_step
              refine wpStill_nil ?_
              obtain ⟨⟨k3, k4, k5⟩, l3, l4, l5⟩ := HK.out w1.drew.drew HB1.out.drew.drew
              by_cases q3 : (65535 - x.col : Int) = 65535 - y.col
              · have e3 : ((65535 - x.col : Int) != 65535 - y.col) = false := by simp; omega
                have e3' : ((65535 - x.col : Int) == 65535 - y.col) = true := by simp; omega
                have hxy : x = y := by
                  have h1 := Q1.out
                  have h2 := Q2.out
                  have h3 := of_decide_eq_true HS0.out
                  obtain ⟨xc, xr, xd, xn, xk, xm, xt⟩ := x
                  obtain ⟨yc, yr, yd, yn, yk, ym, yt⟩ := y
                  simp only at h1 h2 h3 q3
                  obtain ⟨h4, h5, h6, h7⟩ := h3
                  simp only [Cl.mk.injEq]
                  exact ⟨by omega, h1, h2, h4, h5, h6, h7⟩
                have HT := Lib.hid (take_next HS.out HX.out (hxy ▸ HY.out))
                clear q3 hxy
                go_wp2_with fail
                refine still_tail 10 (by kernel_rfl) (by kernel_rfl) ?_
                simp only [List.take_succ_cons, List.take_zero, List.drop_succ_cons, List.drop_zero]
                repeat still_step
                refine wpStill_nil ?_
                go_wp2_with fail
                refine ⟨⟨j + 1, by omega, by go_num, HT.out, (HB5.out.trans (HB1.out.mono HB5.out.size)).drew.drew.drew⟩, by simp [intOf]; omega⟩
              · have e3 : ((65535 - x.col : Int) != 65535 - y.col) = true := by simp; omega
                have e3' : ((65535 - x.col : Int) == 65535 - y.col) = false := by simp; omega
                have HNE : Hid (decide (a = b) = false) := Lib.hid (decide_eq_false (take_differ HX.out HY.out (fun h => q3 (by rw [h]))))
                clear q3
                go_wp2_with fail
                refine still_tail 10 (by kernel_rfl) (by kernel_rfl) ?_
                simp only [List.take_succ_cons, List.take_zero, List.drop_succ_cons, List.drop_zero]
                repeat still_step
                refine wpStill_nil ?_
                go_wp2_with fail
                go_ret
                exact ⟨ret_bool HNE.out.symm, (HB5.out.trans (HB1.out.mono HB5.out.size)).drew.drew.drew⟩
            · have e2 : (x.de != y.de) = true := by simp [q2]
              have e2' : (x.de == y.de) = false := by simp [q2]
              have HNE : Hid (decide (a = b) = false) := Lib.hid (decide_eq_false (take_differ HX.out HY.out (fun h => q2 (by rw [h]))))
              clear q2
              go_wp2_with fail
              refine still_tail 10 (by kernel_rfl) (by kernel_rfl) ?_
              simp only [List.take_succ_cons, List.take_zero, List.drop_succ_cons, List.drop_zero]
              repeat still_step
              refine wpStill_nil ?_
              go_wp2_with fail
              go_ret
              exact ⟨ret_bool HNE.out.symm, (HB5.out.trans (HB1.out.mono HB5.out.size)).drew.drew⟩
          · have e1 : (x.rep != y.rep) = true := by simp [q1]
            have e1' : (x.rep == y.rep) = false := by simp [q1]
            have HNE : Hid (decide (a = b) = false) := Lib.hid (decide_eq_false (take_differ HX.out HY.out (fun h => q1 (by rw [h]))))
            clear q1
            go_wp2_with fail
            refine still_tail 10 (by kernel_rfl) (by kernel_rfl) ?_
            simp only [List.take_succ_cons, List.take_zero, List.drop_succ_cons, List.drop_zero]
            repeat still_step
            refine wpStill_nil ?_
            go_wp2_with fail
            go_ret
            exact ⟨ret_bool HNE.out.symm, (HB5.out.trans (HB1.out.mono HB5.out.size)).drew⟩
      · obtain rfl : j = n := by omega
        have HF : Hid (decide (a = b) = true) := Lib.hid (decide_eq_true (by
          have h1 := HS.out
          rwa [List.take_of_length_le (by have := HL1.out; omega), List.take_of_length_le (by have := HL2.out; omega)] at h1))
        clear hb5
        go_wp2_with fail
        go_ret
        exact ⟨ret_bool HF.out.symm, HB5.out⟩
  · have HNE : Hid (decide (a = b) = false) := Lib.hid (decide_eq_false (fun h => by
      have h1 := HL1.out
      have h2 := HL2.out
      rw [h] at h1
      omega))
    have e1 : ((n : Int) != (n2 : Int)) = true := by simp; omega
    clear h0
    go_enter Tryz.func69, Tryz.ntmps69
    go_wp2_with fail
    go_ret
    exact ⟨ret_bool HNE.out.symm, Below.refl _ _⟩
theorem row45 (a b : List Cl) (ha : ∀ x ∈ a, Good x) (hb : ∀ x ∈ b, Good x) (A A2 : Option Addr) (n c n2 c2 : Nat) (w : World) (h1 : ClsAt w w.heap.size A n c a) (h2 : ClsAt w w.heap.size A2 n2 c2 b) (hn : n ≤ 1000000000) (hn2 : n2 ≤ 1000000000) :
    Calls Tryz.prog 45 #[.slice A n c, .slice A2 n2 c2] w fun e w' => e = .returned (.bool (decide (a = b))) ∧ Below w.heap.size w w' := by
  have HA := Lib.hid ha
  have HB := Lib.hid hb
  have H53 := Lib.hid (row53 a A n c w h1 (fun x hx => ⟨(ha x hx).ok, by have := (ha x hx).text; omega⟩) hn)
  have H2 := Lib.hid h2
  have HL1 := Lib.hid h1.1
  clear ha hb h1 h2
  go_enter Tryz.func45, Tryz.ntmps45
  go_wp2_with fail
  refine H53.out.mono ?_
  rintro e w1 ⟨A3, c3, rfl, hr1, hb1⟩
  have HB1 := Lib.hid hb1
  have HR1 := Lib.hid hr1
  have H53b := Lib.hid (row53 b A2 n2 c2 w1 (H2.out.mono hb1 hb1.size) (fun x hx => ⟨(HB.out x hx).ok, by have := (HB.out x hx).text; omega⟩) hn2)
  clear hb1 hr1
  go_wp2_with fail
  refine H53b.out.mono ?_
  rintro e w2 ⟨A4, c4, rfl, hr2, hb2⟩
  have HB2 := Lib.hid (HB1.out.trans (hb2.mono HB1.out.size))
  have H69 := Lib.hid (equal69 a b HA.out HB.out _ _ A3 A4 _ c3 _ c4 w2 (HR1.out.keep hb2) hr2 (by have := HL1.out; omega))
  clear hb2 hr2
  go_wp2_with fail
  refine H69.out.mono ?_
  rintro e w3 ⟨rfl, hb3⟩
  have HB3 := Lib.hid (HB2.out.trans (hb3.mono HB2.out.size))
  clear hb3
  go_wp2_with fail
  go_ret
  exact ⟨rfl, HB3.out⟩
end Go.Proofs.YtglgclkgppomiaaGreat
