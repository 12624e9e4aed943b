/- The walk of spec.AreColumns. The walks of laws.zzFits1, zzFits2 and zzFits3 at cells of any size. The walks of Row.Equal and of impl.SameRow. The walks of AppendRow and MakeRow. The walks of impl.MakeRow, impl.AppendRow and spec.Joined at columns. -/
import Derived.Test.YtglgclkgppomiaaGreatYAppended02
import Derived.Test.YtglgclkgppomiaaGreatYAppended03
import Derived.Test.YtglgclkgppomiaaGreatYAppended05
set_option linter.unusedVariables false
set_option linter.unusedSimpArgs false
namespace Go.Proofs.YtglgclkgppomiaaGreat
open Go Go.RowKit

/-- The cells of column number i. -/
def colOk (i : Nat) (l : List Cl) : Bool := areCl l && l.all fun x => decide (x.col = (i : Int))
def colsFrom : Nat → List (List Cl) → Bool
  | _, [] => true
  | i, l :: r => colOk i l && colsFrom (i + 1) r
/-- What spec.AreColumns says. -/
def areCols (ls : List (List Cl)) : Bool := colsFrom 0 ls && decide (ls.length ≤ 300)
theorem colsFrom_snoc : ∀ (ls : List (List Cl)) (i : Nat) (l : List Cl), colsFrom i (ls ++ [l]) = (colsFrom i ls && colOk (i + ls.length) l)
  | [], i, l => by simp [colsFrom]
  | m :: r, i, l => by
    rw [List.cons_append, colsFrom, colsFrom_snoc r (i + 1) l, colsFrom, List.length_cons, show i + 1 + r.length = i + (r.length + 1) by omega, Bool.and_assoc]
theorem colsFrom_take {ls : List (List Cl)} {j : Nat} {l : List Cl} (h : ls[j]? = some l) : colsFrom 0 (ls.take (j + 1)) = (colsFrom 0 (ls.take j) && colOk j l) := by
  have hj := (List.getElem?_eq_some_iff.1 h).1
  rw [List.take_add_one, h]
  show colsFrom 0 (ls.take j ++ [l]) = _
  rw [colsFrom_snoc, List.length_take, Nat.min_eq_left (by omega), Nat.zero_add]
theorem colsFrom_bad : ∀ (ls : List (List Cl)) (i k : Nat) (l : List Cl), ls[k]? = some l → colOk (i + k) l = false → colsFrom i ls = false
  | [], _, k, _, h, _ => by simp at h
  | m :: r, i, 0, l, h, hb => by
    simp at h
    subst h
    rw [colsFrom, show colOk i m = false by simpa using hb]; rfl
  | m :: r, i, k + 1, l, h, hb => by
    rw [colsFrom, colsFrom_bad r (i + 1) k l (by simpa using h) (by rw [show i + 1 + k = i + (k + 1) by omega]; exact hb), Bool.and_false]
theorem areCols_bad {ls : List (List Cl)} {k : Nat} {l : List Cl} (h : ls[k]? = some l) (hb : colOk k l = false) : areCols ls = false := by
  unfold areCols
  rw [colsFrom_bad ls 0 k l h (by rw [Nat.zero_add]; exact hb)]; rfl

set_option maxRecDepth 100000 in
set_option maxHeartbeats 2000000 in
theorem columns36 (ls : List (List Cl)) (A0 : Option Addr) (n c : Nat) (A : Nat → Option Addr) (cc : Nat → Nat) (w : World) (hls : LsAt w w.heap.size A0 n c ls A cc) (hn : n ≤ 3000000000) (hts : ∀ l ∈ ls, l.length ≤ 3000000000 ∧ ∀ x ∈ l, x.text.size ≤ 1000000000000) :
    Calls Tryz.prog 36 #[.slice A0 n c] w fun e w' => e = .returned (.bool (areCols ls)) ∧ Below w.heap.size w w' := by
  have HLS := Lib.hid hls
  have HTS := Lib.hid hts
  have HLEN := Lib.hid hls.len
  clear hls hts
  go_enter Tryz.func36, Tryz.ntmps36
  go_wp2_with fail
  go_loopw [9] (fun i wr => ∃ (j : Nat), j ≤ n ∧ i = .int .i64 j ∧ colsFrom 0 (ls.take j) = true ∧ Below w.heap.size w wr) (fun i _ => n - (intOf i).toNat)
  case atStart => exact ⟨0, Nat.zero_le _, rfl, rfl, Below.refl _ _⟩
  case round =>
    obtain ⟨j, hj, rfl, hall, hb5⟩ := hrel
    have HALL := Lib.hid hall
    have HB5 := Lib.hid hb5
    clear hall
    by_cases hlt : j < n
    · obtain ⟨l, hl⟩ : ∃ l, ls[j]? = some l := ⟨_, List.getElem?_eq_getElem (by have := HLEN.out; omega)⟩
      obtain ⟨b, o, rfl, hbl, hcell, hcl⟩ := HLS.out.at_ j l hl
      have hc0 := (bcell hb5 hbl).trans hcell
      have hj0 : (0 : Int) ≤ (j : Int) := Int.natCast_nonneg _
      have hj1 : (j : Int) < (n : Int) := by omega
      have ht := HTS.out l (List.mem_of_getElem? hl)
      have HC := Lib.hid (cells37 l (A j) _ (cc j) wr (hcl.mono hb5 hb5.size) ht.1 ht.2)
      have HL := Lib.hid hl
      have HCL := Lib.hid hcl
      have hLb := ht.1
      clear hcell hl hb5 hcl ht
      cases ha : areCl l with
      | false =>
        rw [ha] at HC
        have HBAD := Lib.hid (areCols_bad HL.out (show colOk j l = false by unfold colOk; rw [ha]; rfl))
        clear ha
        go_wp2_with fail
        refine HC.out.mono ?_
        rintro e w6 ⟨rfl, hb6⟩
        have HB6 := Lib.hid (HB5.out.trans (hb6.mono HB5.out.size))
        clear hb6
        go_wp2_with fail
        go_ret
        exact ⟨ret_bool (by rw [HBAD.out]), HB6.out⟩
      | true =>
        rw [ha] at HC
        have HA := Lib.hid ha
        clear ha
        go_wp2_with fail
        refine HC.out.mono ?_
        rintro e w6 ⟨rfl, hb6⟩
        have HB6 := Lib.hid (HB5.out.trans (hb6.mono HB5.out.size))
        clear hb6
        go_wp2_with fail
        go_loopw [19] (fun i wq => ∃ (r : Nat), r ≤ l.length ∧ i = .int .i64 r ∧ ((l.take r).all fun x => decide (x.col = (j : Int))) = true ∧ Below w.heap.size w wq) (fun i _ => l.length - (intOf i).toNat)
        case atStart => exact ⟨0, Nat.zero_le _, rfl, rfl, HB6.out⟩
        case round =>
          obtain ⟨r, hr, rfl, hal, hb7⟩ := hrel
          have HAL := Lib.hid hal
          have HB7 := Lib.hid hb7
          clear hal
          by_cases hltr : r < l.length
          · obtain ⟨b0, o0, x, hA0, hb0, hxk, c0, c1, c2, c3, c4, c5, c6⟩ := HCL.out.at_ hltr
            have HX := Lib.hid hxk
            have HA0 := Lib.hid hA0
            have c0' := (bcell hb7 hb0).trans c0
            have c1' := (bcell hb7 hb0).trans c1
            have c2' := (bcell hb7 hb0).trans c2
            have c3' := (bcell hb7 hb0).trans c3
            have c4' := (bcell hb7 hb0).trans c4
            have c5' := (bcell hb7 hb0).trans c5
            have c6' := (bcell hb7 hb0).trans c6
            have hr0 : (0 : Int) ≤ (r : Int) := Int.natCast_nonneg _
            have hr1 : (r : Int) < (l.length : Int) := by omega
            have hbq : Below w.heap.size w (wr.alloc (.cells #[.int .i64 x.col, .int .i64 x.rep, .int .i64 x.de, .bool x.null, .int .i64 x.kind, .int .i64 x.num, .string x.text] 39)) := hb7.alloc hb7.size _
            have HBQ := Lib.hid hbq
            rw [hA0]
            clear c0 c1 c2 c3 c4 c5 c6 hxk hb7 hbq hA0
            by_cases hx : x.col = (j : Int)
            · have hx1 : (x.col == (j : Int)) = true := by simpa using hx
              have HT : Hid (((l.take (r + 1)).all fun x => decide (x.col = (j : Int))) = true) := by
                show _ = _
                rw [List.take_add_one, HX.out, List.all_append, HAL.out]
                simp [hx]
              clear hx
              go_wp2_with fail
              refine ⟨⟨r + 1, by omega, by go_num, HT.out, HBQ.out⟩, by simp [intOf]; omega⟩
            · have hx1 : (x.col == (j : Int)) = false := by simpa using hx
              have HBAD := Lib.hid (areCols_bad HL.out (show colOk j l = false by
                unfold colOk
                have : (l.all fun x => decide (x.col = (j : Int))) = false := by
                  rw [List.all_eq_false]
                  exact ⟨x, List.mem_of_getElem? HX.out, by simpa using hx⟩
                rw [this, Bool.and_false]))
              clear hx
              go_wp2_with fail
              go_ret
              exact ⟨ret_bool (by rw [HBAD.out]), HBQ.out⟩
          · obtain rfl : r = l.length := by omega
            have HT : Hid (colsFrom 0 (ls.take (j + 1)) = true) := by
              show _ = _
              have h1 := HAL.out
              rw [List.take_of_length_le (Nat.le_refl _)] at h1
              rw [colsFrom_take HL.out, HALL.out]
              unfold colOk
              rw [HA.out, h1]; rfl
            clear hb7
            go_wp2_with fail
            refine ⟨⟨j + 1, by omega, by go_num, HT.out, HB7.out⟩, by simp [intOf]; omega⟩
    · obtain rfl : j = n := by omega
      have hfin : areCols ls = decide ((j : Int) ≤ 300) := by
        have h1 := HALL.out
        have h2 := HLEN.out.1
        rw [List.take_of_length_le (by omega)] at h1
        unfold areCols
        rw [h1, h2, Bool.true_and]
        exact decide_eq_decide.2 (by omega)
      have HFIN := Lib.hid hfin
      clear hfin hb5
      go_wp2_with fail
      go_ret
      exact ⟨ret_bool (by rw [HFIN.out]), HB5.out⟩
end Go.Proofs.YtglgclkgppomiaaGreat

namespace Go.Proofs.YtglgclkgppomiaaGreat
open Go Go.RowKit

def fitsCl (x : Cl) : Bool := decide (x.text.size ≤ 2147483647)
def fitsCls (cs : List Cl) : Bool := decide (cs.length ≤ 2147483647) && cs.all fitsCl
def fitsLss (ls : List (List Cl)) : Bool := decide (ls.length ≤ 2147483647) && ls.all fitsCls
theorem fitsCl_of {x : Cl} (h : fitsCl x = true) : x.text.size ≤ 2147483647 := of_decide_eq_true h
theorem fitsCls_of {cs : List Cl} (h : fitsCls cs = true) : cs.length ≤ 2147483647 ∧ ∀ x ∈ cs, x.text.size ≤ 2147483647 := by
  unfold fitsCls at h
  simp only [Bool.and_eq_true, decide_eq_true_eq, List.all_eq_true] at h
  exact ⟨h.1, fun x hx => fitsCl_of (h.2 x hx)⟩
theorem fitsLss_of {ls : List (List Cl)} (h : fitsLss ls = true) : ls.length ≤ 2147483647 ∧ ∀ l ∈ ls, l.length ≤ 2147483647 ∧ ∀ x ∈ l, x.text.size ≤ 2147483647 := by
  unfold fitsLss at h
  simp only [Bool.and_eq_true, decide_eq_true_eq, List.all_eq_true] at h
  exact ⟨h.1, fun l hl => fitsCls_of (h.2 l hl)⟩
theorem all_snoc_list {α : Type} {p : α → Bool} {cs : List α} {j : Nat} {x : α} (h : cs[j]? = some x) : (cs.take (j + 1)).all p = ((cs.take j).all p && p x) := by
  rw [List.take_add_one, h]; simp
theorem all_bad {α : Type} {p : α → Bool} {cs : List α} {j : Nat} {x : α} (h : cs[j]? = some x) (hx : p x = false) : cs.all p = false := by
  rw [List.all_eq_false]
  exact ⟨x, List.mem_of_getElem? h, by simp [hx]⟩

set_option maxRecDepth 100000 in
theorem fits41_any (x : Cl) (w : World) (hx : x.text.size ≤ 9223372036854775807) : Calls Tryz.prog 41 #[clVal x] w fun e w' => e = .returned (.bool (fitsCl x)) ∧ Below w.heap.size w w' := by
  by_cases hs : x.text.size ≤ 2147483647
  · have h1 : decide ((2147483647 : Int) < (x.text.size : Int)) = false := by simp; omega
    have h2 : decide (2147483647 < x.text.size) = false := by simp; omega
    have h3 : ¬ (2147483647 < x.text.size) := by omega
    have HF : Hid (fitsCl x = true) := Lib.hid (decide_eq_true hs)
    clear hs
    go_enter Tryz.func41, Tryz.ntmps41
    go_wp2_with fail
    go_ret
    exact ⟨ret_bool HF.out.symm, (Below.refl _ _).alloc (Nat.le_refl _) _⟩
  · have h1 : decide ((2147483647 : Int) < (x.text.size : Int)) = true := by simp; omega
    have h2 : decide (2147483647 < x.text.size) = true := by simp; omega
    have h3 : 2147483647 < x.text.size := by omega
    have HF : Hid (fitsCl x = false) := Lib.hid (decide_eq_false hs)
    clear hs
    go_enter Tryz.func41, Tryz.ntmps41
    go_wp2_with fail
    go_ret
    exact ⟨ret_bool HF.out.symm, (Below.refl _ _).alloc (Nat.le_refl _) _⟩
set_option maxRecDepth 100000 in
set_option maxHeartbeats 2000000 in
theorem fits34_any (cs : List Cl) (A : Option Addr) (n c : Nat) (w : World) (hcl : ClsAt w w.heap.size A n c cs) (hn : n ≤ 9223372036854775807) (hts : ∀ x ∈ cs, x.text.size ≤ 9223372036854775807) :
    Calls Tryz.prog 34 #[.slice A n c] w fun e w' => e = .returned (.bool (fitsCls cs)) ∧ Below w.heap.size w w' := by
  have HCL := Lib.hid hcl
  have HTS := Lib.hid hts
  have HLEN := Lib.hid hcl.1
  clear hcl hts
  by_cases hs : n ≤ 2147483647
  · have h1 : decide ((2147483647 : Int) < (n : Int)) = false := by simp; omega
    have h2 : decide (2147483647 < n) = false := by simp; omega
    have h3 : ¬ (2147483647 < n) := by omega
    have HD : Hid (decide (cs.length ≤ 2147483647) = true) := Lib.hid (decide_eq_true (by rw [HLEN.out]; exact hs))
    go_enter Tryz.func34, Tryz.ntmps34
    go_wp2_with fail
    go_loopw [10] (fun i wr => ∃ (j : Nat), j ≤ n ∧ i = .int .i64 j ∧ (cs.take j).all fitsCl = true ∧ Below w.heap.size w wr) (fun i _ => n - (intOf i).toNat)
    case atStart => exact ⟨0, Nat.zero_le _, rfl, rfl, Below.refl _ _⟩
    case round =>
      obtain ⟨j, hj, rfl, hall, hb5⟩ := hrel
      have HALL := Lib.hid hall
      have HB5 := Lib.hid hb5
      clear hall
      by_cases hlt : j < n
      · obtain ⟨b0, o, x, rfl, hb0, hxk, c0, c1, c2, c3, c4, c5, c6⟩ := HCL.out.at_ hlt
        have HX := Lib.hid hxk
        have c0' := (bcell hb5 hb0).trans c0
        have c1' := (bcell hb5 hb0).trans c1
        have c2' := (bcell hb5 hb0).trans c2
        have c3' := (bcell hb5 hb0).trans c3
        have c4' := (bcell hb5 hb0).trans c4
        have c5' := (bcell hb5 hb0).trans c5
        have c6' := (bcell hb5 hb0).trans c6
        have hj0 : (0 : Int) ≤ (j : Int) := Int.natCast_nonneg _
        have hj1 : (j : Int) < (n : Int) := by omega
        have hbq : Below w.heap.size w (wr.alloc (.cells #[.int .i64 x.col, .int .i64 x.rep, .int .i64 x.de, .bool x.null, .int .i64 x.kind, .int .i64 x.num, .string x.text] 39)) := hb5.alloc hb5.size _
        have HC := Lib.hid (fits41_any x (wr.alloc (.cells #[.int .i64 x.col, .int .i64 x.rep, .int .i64 x.de, .bool x.null, .int .i64 x.kind, .int .i64 x.num, .string x.text] 39)) (HTS.out x (List.mem_of_getElem? hxk)))
        have HBQ := Lib.hid hbq
        clear c0 c1 c2 c3 c4 c5 c6 hxk hb5 hbq
        cases hx : fitsCl x with
        | false =>
          rw [hx] at HC
          have HBAD : Hid (fitsCls cs = false) := Lib.hid (by unfold fitsCls; rw [all_bad HX.out hx, Bool.and_false])
          clear hx
          go_wp2_with fail
          refine HC.out.mono ?_
          rintro e w6 ⟨rfl, hb6⟩
          have HB6 := Lib.hid (HBQ.out.trans (hb6.mono HBQ.out.size))
          clear hb6
          go_wp2_with fail
          go_ret
          exact ⟨ret_bool (by rw [HBAD.out]), HB6.out⟩
        | true =>
          rw [hx] at HC
          have HT := Lib.hid (all_snoc_list (p := fitsCl) HX.out)
          rw [hx] at HT
          clear hx
          go_wp2_with fail
          refine HC.out.mono ?_
          rintro e w6 ⟨rfl, hb6⟩
          have HB6 := Lib.hid (HBQ.out.trans (hb6.mono HBQ.out.size))
          clear hb6
          go_wp2_with fail
          refine ⟨⟨j + 1, by omega, by go_num, by rw [HT.out, HALL.out]; rfl, HB6.out⟩, by simp [intOf]; omega⟩
      · obtain rfl : j = n := by omega
        have hfin : fitsCls cs = true := by
          have h1 := HALL.out
          rw [List.take_of_length_le (by have := HLEN.out; omega)] at h1
          unfold fitsCls
          rw [HD.out, h1]; rfl
        have HFIN := Lib.hid hfin
        clear hfin hb5
        go_wp2_with fail
        go_ret
        exact ⟨ret_bool (by rw [HFIN.out]), HB5.out⟩
  · have h1 : decide ((2147483647 : Int) < (n : Int)) = true := by simp; omega
    have h2 : decide (2147483647 < n) = true := by simp; omega
    have h3 : 2147483647 < n := by omega
    have HF : Hid (fitsCls cs = false) := Lib.hid (by unfold fitsCls; rw [decide_eq_false (by rw [HLEN.out]; exact hs)]; rfl)
    clear hs
    go_enter Tryz.func34, Tryz.ntmps34
    go_wp2_with fail
    go_ret
    exact ⟨ret_bool HF.out.symm, Below.refl _ _⟩
set_option maxRecDepth 100000 in
set_option maxHeartbeats 2000000 in
theorem fits35_any (ls : List (List Cl)) (A0 : Option Addr) (n c : Nat) (A : Nat → Option Addr) (cc : Nat → Nat) (w : World) (hls : LsAt w w.heap.size A0 n c ls A cc) (hn : n ≤ 9223372036854775807) (hts : ∀ l ∈ ls, l.length ≤ 9223372036854775807 ∧ ∀ x ∈ l, x.text.size ≤ 9223372036854775807) :
    Calls Tryz.prog 35 #[.slice A0 n c] w fun e w' => e = .returned (.bool (fitsLss ls)) ∧ Below w.heap.size w w' := by
  have HLS := Lib.hid hls
  have HTS := Lib.hid hts
  have HLEN := Lib.hid hls.len
  clear hls hts
  by_cases hs : n ≤ 2147483647
  · have h1 : decide ((2147483647 : Int) < (n : Int)) = false := by simp; omega
    have h2 : decide (2147483647 < n) = false := by simp; omega
    have h3 : ¬ (2147483647 < n) := by omega
    have HD : Hid (decide (ls.length ≤ 2147483647) = true) := Lib.hid (decide_eq_true (by rw [HLEN.out.1]; exact hs))
    go_enter Tryz.func35, Tryz.ntmps35
    go_wp2_with fail
    go_loopw [10] (fun i wr => ∃ (j : Nat), j ≤ n ∧ i = .int .i64 j ∧ (ls.take j).all fitsCls = true ∧ Below w.heap.size w wr) (fun i _ => n - (intOf i).toNat)
    case atStart => exact ⟨0, Nat.zero_le _, rfl, rfl, Below.refl _ _⟩
    case round =>
      obtain ⟨j, hj, rfl, hall, hb5⟩ := hrel
      have HALL := Lib.hid hall
      have HB5 := Lib.hid hb5
      clear hall
      by_cases hlt : j < n
      · obtain ⟨l, hl⟩ : ∃ l, ls[j]? = some l := ⟨_, List.getElem?_eq_getElem (by have := HLEN.out; omega)⟩
        obtain ⟨b, o, rfl, hbl, hcell, hcl⟩ := HLS.out.at_ j l hl
        have hc0 := (bcell hb5 hbl).trans hcell
        have HL := Lib.hid hl
        have hj0 : (0 : Int) ≤ (j : Int) := Int.natCast_nonneg _
        have hj1 : (j : Int) < (n : Int) := by omega
        have ht := HTS.out l (List.mem_of_getElem? hl)
        have HC := Lib.hid (fits34_any l (A j) _ (cc j) wr (hcl.mono hb5 hb5.size) ht.1 ht.2)
        clear hcell hl hb5 hcl ht
        cases hx : fitsCls l with
        | false =>
          rw [hx] at HC
          have HBAD : Hid (fitsLss ls = false) := Lib.hid (by unfold fitsLss; rw [all_bad HL.out hx, Bool.and_false])
          clear hx
          go_wp2_with fail
          refine HC.out.mono ?_
          rintro e w6 ⟨rfl, hb6⟩
          have HB6 := Lib.hid (HB5.out.trans (hb6.mono HB5.out.size))
          clear hb6
          go_wp2_with fail
          go_ret
          exact ⟨ret_bool (by rw [HBAD.out]), HB6.out⟩
        | true =>
          rw [hx] at HC
          have HT := Lib.hid (all_snoc_list (p := fitsCls) HL.out)
          rw [hx] at HT
          clear hx
          go_wp2_with fail
          refine HC.out.mono ?_
          rintro e w6 ⟨rfl, hb6⟩
          have HB6 := Lib.hid (HB5.out.trans (hb6.mono HB5.out.size))
          clear hb6
          go_wp2_with fail
          refine ⟨⟨j + 1, by omega, by go_num, by rw [HT.out, HALL.out]; rfl, HB6.out⟩, by simp [intOf]; omega⟩
      · obtain rfl : j = n := by omega
        have hfin : fitsLss ls = true := by
          have h1 := HALL.out
          rw [List.take_of_length_le (by have := HLEN.out.1; omega)] at h1
          unfold fitsLss
          rw [HD.out, h1]; rfl
        have HFIN := Lib.hid hfin
        clear hfin hb5
        go_wp2_with fail
        go_ret
        exact ⟨ret_bool (by rw [HFIN.out]), HB5.out⟩
  · have h1 : decide ((2147483647 : Int) < (n : Int)) = true := by simp; omega
    have h2 : decide (2147483647 < n) = true := by simp; omega
    have h3 : 2147483647 < n := by omega
    have HF : Hid (fitsLss ls = false) := Lib.hid (by unfold fitsLss; rw [decide_eq_false (by rw [HLEN.out.1]; exact hs)]; rfl)
    clear hs
    go_enter Tryz.func35, Tryz.ntmps35
    go_wp2_with fail
    go_ret
    exact ⟨ret_bool HF.out.symm, Below.refl _ _⟩
end Go.Proofs.YtglgclkgppomiaaGreat

namespace Go.Proofs.YtglgclkgppomiaaGreat
open Go Go.RowKit

theorem RowIn.at_ {w : World} {lo B : Nat} {A : Option Addr} {n c : Nat} {cs : List Cl} (h : RowIn w lo B A n c cs) {i : Nat} (hi : i < n) :
    ∃ b o x D dn dc u, A = some ⟨b, o, none⟩ ∧ b < B ∧ cs[i]? = some x ∧ VR w lo B x.null x.kind x.num x.text D dn dc u ∧ w.cell? ⟨b, o + i * 6, none⟩ = some (.slice D dn dc) ∧ w.cell? ⟨b, o + i * 6 + 1, none⟩ = some (.int .u64 u) ∧ w.cell? ⟨b, o + i * 6 + 2, none⟩ = some (.int .i8 (kdOf x.null x.kind)) ∧
    w.cell? ⟨b, o + i * 6 + 3, none⟩ = some (.int .u8 x.de) ∧ w.cell? ⟨b, o + i * 6 + 4, none⟩ = some (.int .u8 x.rep) ∧ w.cell? ⟨b, o + i * 6 + 5, none⟩ = some (.int .u16 (65535 - x.col)) := by
  obtain ⟨h1, h2, h3⟩ := h
  obtain ⟨b, o, hA, hb, h⟩ := h3 (by omega)
  have hl : i < cs.length := by omega
  obtain ⟨D, dn, dc, u, r⟩ := h i _ (List.getElem?_eq_getElem hl)
  exact ⟨b, o, cs[i], D, dn, dc, u, hA, hb.2, List.getElem?_eq_getElem hl, r⟩
theorem RowIn.keep {w w' : World} {lo : Nat} {A : Option Addr} {n c : Nat} {cs : List Cl} (h : RowIn w lo w.heap.size A n c cs) (hb : Below w.heap.size w w') : RowIn w' lo w'.heap.size A n c cs :=
  h.frame (fun b _ hl => hb.block b hl) (Nat.le_refl _) hb.size
theorem take_next {α : Type} {a b : List α} {k : Nat} {x : α} (h : a.take k = b.take k) (hx : a[k]? = some x) (hy : b[k]? = some x) : a.take (k + 1) = b.take (k + 1) := by
  rw [List.take_add_one, List.take_add_one, h, hx, hy]
theorem take_differ {α : Type} {a b : List α} {k : Nat} {x y : α} (hx : a[k]? = some x) (hy : b[k]? = some y) (hne : x ≠ y) : a ≠ b := by
  intro h
  rw [h, hy] at hx
  injection hx with hx
  exact hne hx.symm

set_option maxRecDepth 100000 in
set_option maxHeartbeats 4000000 in
theorem equal69 (a b : List Cl) (ha : ∀ x ∈ a, Good x) (hb : ∀ x ∈ b, Good x) (lo lo2 : Nat) (A A2 : Option Addr) (n c n2 c2 : Nat) (w : World) (h1 : RowIn w lo w.heap.size A n c a) (h2 : RowIn w lo2 w.heap.size A2 n2 c2 b) (hn : n ≤ 1000000000) :
    Calls Tryz.prog 69 #[.slice A n c, .slice A2 n2 c2] w fun e w' => e = .returned (.bool (decide (a = b))) ∧ Below w.heap.size w w' := by
  have H1 := Lib.hid h1
  have H2 := Lib.hid h2
  have HA := Lib.hid ha
  have HB := Lib.hid hb
  have HL1 := Lib.hid h1.1
  have HL2 := Lib.hid h2.1
  clear h1 h2 ha hb
  by_cases h0 : n = n2
  · subst h0
    go_enter Tryz.func69, Tryz.ntmps69
    go_wp2_with fail
    go_loopw [13] (fun i wr => ∃ j : Nat, j ≤ n ∧ i = .int .i64 j ∧ a.take j = b.take j ∧ Below w.heap.size w wr) (fun i _ => n - (intOf i).toNat)
    case atStart => exact ⟨0, Nat.zero_le _, rfl, rfl, Below.refl _ _⟩
    case round =>
      obtain ⟨j, hj, rfl, hsame, hb5⟩ := hrel
      have HS := Lib.hid hsame
      have HB5 := Lib.hid hb5
      clear hsame
      by_cases hlt : j < n
      · have R1 := Lib.hid (H1.out.keep hb5)
        have R2 := Lib.hid (H2.out.keep hb5)
        obtain ⟨g, o, x, D, dn, dc, u, rfl, hg, hx, hv, c0, c1, c2, c3, c4, c5⟩ := R1.out.at_ hlt
        obtain ⟨g2, o2, y, D2, dn2, dc2, u2, rfl, hg2, hy, hv2, d0, d1, d2, d3, d4, d5⟩ := R2.out.at_ hlt
        have HX := Lib.hid hx
        have HY := Lib.hid hy
        have GX := Lib.hid (HA.out x (List.mem_of_getElem? hx))
        have GY := Lib.hid (HB.out y (List.mem_of_getElem? hy))
        have hj0 : (0 : Int) ≤ (j : Int) := Int.natCast_nonneg _
        have hj1 : (j : Int) < (n : Int) := by omega
        have HC := Lib.hid (equal67 x y GX.out GY.out _ _ _ _ D D2 dn dc dn2 dc2 u u2 x.de y.de x.rep y.rep (65535 - x.col) (65535 - y.col) wr.drew (hv.frame (w := wr) (w' := wr.drew) (fun _ _ _ => rfl) (Nat.le_refl _) (Nat.le_refl _)) (hv2.frame (w := wr) (w' := wr.drew) (fun _ _ _ => rfl) (Nat.le_refl _) (Nat.le_refl _)) (Nat.le_refl _) (Nat.le_refl _))
        have HK : Hid (∀ W, Below wr.heap.size wr W → (W.cell? ⟨g, o + j * 6 + 3, none⟩ = some (.int .u8 x.de) ∧ W.cell? ⟨g, o + j * 6 + 4, none⟩ = some (.int .u8 x.rep) ∧ W.cell? ⟨g, o + j * 6 + 5, none⟩ = some (.int .u16 (65535 - x.col))) ∧ (W.cell? ⟨g2, o2 + j * 6 + 3, none⟩ = some (.int .u8 y.de) ∧ W.cell? ⟨g2, o2 + j * 6 + 4, none⟩ = some (.int .u8 y.rep) ∧ W.cell? ⟨g2, o2 + j * 6 + 5, none⟩ = some (.int .u16 (65535 - y.col)))) := Lib.hid fun W hW =>
          ⟨⟨(bcell hW hg).trans c3, (bcell hW hg).trans c4, (bcell hW hg).trans c5⟩, (bcell hW hg2).trans d3, (bcell hW hg2).trans d4, (bcell hW hg2).trans d5⟩
        clear hx hy hv hv2 hb5 hg hg2
        obtain ⟨S0, hs0⟩ : ∃ S0, sameV x y = S0 := ⟨_, rfl⟩
        rw [hs0] at HC
        have HS0 := Lib.hid hs0
        clear hs0
        go_wp2_with fail
        refine still_tail 8 (by kernel_rfl) (by kernel_rfl) ?_
        simp only [List.take_succ_cons, List.take_zero, List.drop_succ_cons, List.drop_zero]
        repeat still_step
        refine wpStill_nil ?_
        go_wp2_with fail
        refine HC.out.mono ?_
        rintro e w1 ⟨rfl, hb1⟩
        have HB1 := Lib.hid (below_of_drew hb1)
        obtain ⟨⟨k3, k4, k5⟩, l3, l4, l5⟩ := HK.out w1 HB1.out
        clear hb1 c0 c1 c2 c3 c4 c5 d0 d1 d2 d3 d4 d5
        cases S0 with
        | false =>
          have HNE : Hid (decide (a = b) = false) := Lib.hid (decide_eq_false (take_differ HX.out HY.out (fun h => by
            have := HS0.out
            rw [h] at this
            simp [sameV] at this)))
          go_wp2_with fail
          go_ret
          exact ⟨ret_bool HNE.out.symm, HB5.out.trans (HB1.out.mono HB5.out.size)⟩
        | true =>
          by_cases q1 : x.rep = y.rep
          · have e1 : (x.rep != y.rep) = false := by simp [q1]
            have e1' : (x.rep == y.rep) = true := by simp [q1]
            have Q1 := Lib.hid q1
            clear q1
            go_wp2_with fail
            refine still_tail 10 (by kernel_rfl) (by kernel_rfl) ?_
            simp only [List.take_succ_cons, List.take_zero, List.drop_succ_cons, List.drop_zero]
            repeat still_step
            refine wpStill_nil ?_
            obtain ⟨⟨k3, k4, k5⟩, l3, l4, l5⟩ := HK.out w1.drew HB1.out.drew
            by_cases q2 : x.de = y.de
            · have e2 : (x.de != y.de) = false := by simp [q2]
              have e2' : (x.de == y.de) = true := by simp [q2]
              have Q2 := Lib.hid q2
              clear q2
              go_wp2_with fail
              refine still_tail 10 (by kernel_rfl) (by kernel_rfl) ?_
              simp only [List.take_succ_cons, List.take_zero, List.drop_succ_cons, List.drop_zero]
              repeat still_step
              refine wpStill_nil ?_
              obtain ⟨⟨k3, k4, k5⟩, l3, l4, l5⟩ := HK.out w1.drew.drew HB1.out.drew.drew
              by_cases q3 : (65535 - x.col : Int) = 65535 - y.col
              · have e3 : ((65535 - x.col : Int) != 65535 - y.col) = false := by simp; omega
                have e3' : ((65535 - x.col : Int) == 65535 - y.col) = true := by simp; omega
                have hxy : x = y := by
                  have h1 := Q1.out
                  have h2 := Q2.out
                  have h3 := of_decide_eq_true HS0.out
                  obtain ⟨xc, xr, xd, xn, xk, xm, xt⟩ := x
                  obtain ⟨yc, yr, yd, yn, yk, ym, yt⟩ := y
                  simp only at h1 h2 h3 q3
                  obtain ⟨h4, h5, h6, h7⟩ := h3
                  simp only [Cl.mk.injEq]
                  exact ⟨by omega, h1, h2, h4, h5, h6, h7⟩
                have HT := Lib.hid (take_next HS.out HX.out (hxy ▸ HY.out))
                clear q3 hxy
                go_wp2_with fail
                refine still_tail 10 (by kernel_rfl) (by kernel_rfl) ?_
                simp only [List.take_succ_cons, List.take_zero, List.drop_succ_cons, List.drop_zero]
                repeat still_step
                refine wpStill_nil ?_
                go_wp2_with fail
                refine ⟨⟨j + 1, by omega, by go_num, HT.out, (HB5.out.trans (HB1.out.mono HB5.out.size)).drew.drew.drew⟩, by simp [intOf]; omega⟩
              · have e3 : ((65535 - x.col : Int) != 65535 - y.col) = true := by simp; omega
                have e3' : ((65535 - x.col : Int) == 65535 - y.col) = false := by simp; omega
                have HNE : Hid (decide (a = b) = false) := Lib.hid (decide_eq_false (take_differ HX.out HY.out (fun h => q3 (by rw [h]))))
                clear q3
                go_wp2_with fail
                refine still_tail 10 (by kernel_rfl) (by kernel_rfl) ?_
                simp only [List.take_succ_cons, List.take_zero, List.drop_succ_cons, List.drop_zero]
                repeat still_step
                refine wpStill_nil ?_
                go_wp2_with fail
                go_ret
                exact ⟨ret_bool HNE.out.symm, (HB5.out.trans (HB1.out.mono HB5.out.size)).drew.drew.drew⟩
            · have e2 : (x.de != y.de) = true := by simp [q2]
              have e2' : (x.de == y.de) = false := by simp [q2]
              have HNE : Hid (decide (a = b) = false) := Lib.hid (decide_eq_false (take_differ HX.out HY.out (fun h => q2 (by rw [h]))))
              clear q2
              go_wp2_with fail
              refine still_tail 10 (by kernel_rfl) (by kernel_rfl) ?_
              simp only [List.take_succ_cons, List.take_zero, List.drop_succ_cons, List.drop_zero]
              repeat still_step
              refine wpStill_nil ?_
              go_wp2_with fail
              go_ret
              exact ⟨ret_bool HNE.out.symm, (HB5.out.trans (HB1.out.mono HB5.out.size)).drew.drew⟩
          · have e1 : (x.rep != y.rep) = true := by simp [q1]
            have e1' : (x.rep == y.rep) = false := by simp [q1]
            have HNE : Hid (decide (a = b) = false) := Lib.hid (decide_eq_false (take_differ HX.out HY.out (fun h => q1 (by rw [h]))))
            clear q1
            go_wp2_with fail
            refine still_tail 10 (by kernel_rfl) (by kernel_rfl) ?_
            simp only [List.take_succ_cons, List.take_zero, List.drop_succ_cons, List.drop_zero]
            repeat still_step
            refine wpStill_nil ?_
            go_wp2_with fail
            go_ret
            exact ⟨ret_bool HNE.out.symm, (HB5.out.trans (HB1.out.mono HB5.out.size)).drew⟩
      · obtain rfl : j = n := by omega
        have HF : Hid (decide (a = b) = true) := Lib.hid (decide_eq_true (by
          have h1 := HS.out
          rwa [List.take_of_length_le (by have := HL1.out; omega), List.take_of_length_le (by have := HL2.out; omega)] at h1))
        clear hb5
        go_wp2_with fail
        go_ret
        exact ⟨ret_bool HF.out.symm, HB5.out⟩
  · have HNE : Hid (decide (a = b) = false) := Lib.hid (decide_eq_false (fun h => by
      have h1 := HL1.out
      have h2 := HL2.out
      rw [h] at h1
      omega))
    have e1 : ((n : Int) != (n2 : Int)) = true := by simp; omega
    clear h0
    go_enter Tryz.func69, Tryz.ntmps69
    go_wp2_with fail
    go_ret
    exact ⟨ret_bool HNE.out.symm, Below.refl _ _⟩
theorem row45 (a b : List Cl) (ha : ∀ x ∈ a, Good x) (hb : ∀ x ∈ b, Good x) (A A2 : Option Addr) (n c n2 c2 : Nat) (w : World) (h1 : ClsAt w w.heap.size A n c a) (h2 : ClsAt w w.heap.size A2 n2 c2 b) (hn : n ≤ 1000000000) (hn2 : n2 ≤ 1000000000) :
    Calls Tryz.prog 45 #[.slice A n c, .slice A2 n2 c2] w fun e w' => e = .returned (.bool (decide (a = b))) ∧ Below w.heap.size w w' := by
  have HA := Lib.hid ha
  have HB := Lib.hid hb
  have H53 := Lib.hid (row53 a A n c w h1 (fun x hx => ⟨(ha x hx).ok, by have := (ha x hx).text; omega⟩) hn)
  have H2 := Lib.hid h2
  have HL1 := Lib.hid h1.1
  clear ha hb h1 h2
  go_enter Tryz.func45, Tryz.ntmps45
  go_wp2_with fail
  refine H53.out.mono ?_
  rintro e w1 ⟨A3, c3, rfl, hr1, hb1⟩
  have HB1 := Lib.hid hb1
  have HR1 := Lib.hid hr1
  have H53b := Lib.hid (row53 b A2 n2 c2 w1 (H2.out.mono hb1 hb1.size) (fun x hx => ⟨(HB.out x hx).ok, by have := (HB.out x hx).text; omega⟩) hn2)
  clear hb1 hr1
  go_wp2_with fail
  refine H53b.out.mono ?_
  rintro e w2 ⟨A4, c4, rfl, hr2, hb2⟩
  have HB2 := Lib.hid (HB1.out.trans (hb2.mono HB1.out.size))
  have H69 := Lib.hid (equal69 a b HA.out HB.out _ _ A3 A4 _ c3 _ c4 w2 (HR1.out.keep hb2) hr2 (by have := HL1.out; omega))
  clear hb2 hr2
  go_wp2_with fail
  refine H69.out.mono ?_
  rintro e w3 ⟨rfl, hb3⟩
  have HB3 := Lib.hid (HB2.out.trans (hb3.mono HB2.out.size))
  clear hb3
  go_wp2_with fail
  go_ret
  exact ⟨rfl, HB3.out⟩
end Go.Proofs.YtglgclkgppomiaaGreat

namespace Go.Proofs.YtglgclkgppomiaaGreat
open Go Go.RowKit

theorem make_row (m : Nat) (hm : m ≤ 1000000000) (w : World) :
    (Instr.makeSlice 63 (.int .i64 0) (.int .i64 (m : Int))).run Tryz.prog w = .ok (.slice (some ⟨w.heap.size, 0, none⟩) 0 m) (w.alloc (.cells (madeCells (vCells none 0 0 0 0 0 0 0) (m * 6)) 76)) := by
  obtain ⟨i, h1, h2, h3, h4⟩ := info_parts info76
  have hr := run_make (P := Tryz.prog) w 63 76 i _ Tryz.underlying63 h1 h2 .i64 .i64 0 (m : Int) (by omega) (by omega) (by rw [h4]; omega) (by omega)
  rw [h3] at hr
  simp at hr
  exact hr
theorem own_made {w w' : World} {base m : Nat} (hb : base ≤ w.heap.size) (hm : m ≤ 1000000000) (hw : w' = w.alloc (.cells (madeCells (vCells none 0 0 0 0 0 0 0) (m * 6)) 76)) : w'.ownsRow base 76 6 (.slice (some ⟨w.heap.size, 0, none⟩) 0 m) 0 [] := by
  subst hw
  refine ⟨by simp, .inr ⟨w.heap.size, m, _, rfl, hb, heap_alloc_new w _, Nat.zero_le _, by simp only [maxLen]; omega, by simp [madeCells], by simp⟩⟩
theorem own_cap {w : World} {base n c n' : Nat} {A : Option Addr} {xs : List Value} (h : w.ownsRow base 76 6 (.slice A n c) n' xs) : n = n' ∧ n ≤ c ∧ c ≤ 9223372036854775807 ∧ (A = none → n = 0) ∧ ∀ ad, A = some ad → ∃ g, ad = ⟨g, 0, none⟩ := by
  rcases h.2 with ⟨h1, h2⟩ | ⟨g, cap, cur, h1, _, _, h2, h3, _⟩
  · injection h1 with h4 h5 h6
    subst h4 h5 h6
    exact ⟨h2.symm, Nat.le_refl _, by omega, fun _ => rfl, fun ad h => by cases h⟩
  · injection h1 with h4 h5 h6
    subst h4 h5 h6
    simp only [maxLen] at h3
    exact ⟨rfl, h2, by omega, fun h => (by cases h), fun ad h => by injection h with h; exact ⟨g, h.symm⟩⟩

theorem FlatV.one {w : World} {lo B : Nat} {row : Value} {xs : List Value} {cs : List Cl} (h : FlatV w lo B row xs cs) : ∀ u ∈ xs, u.oneCell' = true := by
  obtain ⟨A, n, c, u, l, e, h⟩ := h
  intro v hv
  obtain ⟨k, hk⟩ := List.mem_iff_getElem?.1 hv
  have hlt : k < xs.length := (List.getElem?_eq_some_iff.1 hk).1
  have hl := h.len
  have hq : k / 6 < cs.length := by omega
  have hx : cs[k / 6]? = some cs[k / 6] := List.getElem?_eq_getElem hq
  have hr : k % 6 < 6 := Nat.mod_lt _ (by omega)
  have hg := h.get (k / 6) _ hx (k % 6) _ (Array.getElem?_eq_getElem (show k % 6 < (vCells (A (k / 6)) (n (k / 6)) (c (k / 6)) (u (k / 6)) (kdOf cs[k / 6].null cs[k / 6].kind) cs[k / 6].de cs[k / 6].rep (65535 - cs[k / 6].col)).size from hr))
  rw [show k / 6 * 6 + k % 6 = k by omega, hk] at hg
  injection hg with hg
  rw [hg]
  exact vCells_one _ _ _ _ _ _ _ _ _ (Array.getElem_mem_toList _)
set_option maxRecDepth 100000 in
set_option maxHeartbeats 4000000 in
theorem append61 (base lo B lo0 n0 c0 : Nat) (A1 : Option Addr) (xs0 : List Value) (cs0 : List Cl) (ls : List (List Cl)) (A0 : Option Addr) (n c : Nat) (A : Nat → Option Addr) (cc : Nat → Nat) (w : World)
    (hown : w.ownsRow base 76 6 (.slice A1 n0 c0) n0 xs0) (hflat : FlatV w lo0 w.heap.size (.slice A1 n0 c0) xs0 cs0) (hcs : cs0.length = n0) (hvs : VsAt w lo B A0 n c ls A cc) (hB : B ≤ w.heap.size) (hbase : base ≤ w.heap.size) (hlo : lo0 ≤ lo) (hlb : lo0 ≤ base)
    (hav : ∀ g, (Value.slice A1 n0 c0).ownBlock = some g → g < lo ∨ B ≤ g) (hn : n ≤ 300) (hn0 : n0 ≤ 5000) (hlen : ls.flatten.length ≤ 2000000) (hcol : ∀ (k : Nat) (l : List Cl), ls[k]? = some l → ∀ x ∈ l, x.col = (k : Int)) :
    Calls Tryz.prog 61 #[.slice A1 n0 c0, .slice A0 n c] w (GivesIn base lo0 (cs0 ++ ls.flatten) w) := by
  have HOWN0 := Lib.hid hown
  have HFLAT0 := Lib.hid hflat
  have HCS := Lib.hid hcs
  have HVS := Lib.hid hvs
  have HBW := Lib.hid hB
  have HBASE := Lib.hid hbase
  have HLO := Lib.hid (And.intro hlo hlb)
  have HAV := Lib.hid hav
  have HLEN := Lib.hid hvs.len.1
  have HLN := Lib.hid hlen
  have HCOL := Lib.hid hcol
  obtain ⟨_, hc1, hc2, hc3, hc4⟩ := own_cap hown
  have HC3 := Lib.hid hc3
  have HC4 := Lib.hid hc4
  obtain ⟨i76, j1, j2, j3, j4⟩ := info_parts info76
  have J1 := Lib.hid j1
  have J2 := Lib.hid j2
  have J3 := Lib.hid j3
  have J4 := Lib.hid j4
  clear hown hflat hcs hvs hB hbase hlo hlb hav hlen hcol hc3 hc4 j1 j2 j3 j4
  go_enter Tryz.func61, Tryz.ntmps61
  go_wp2_with fail
  go_loopw [5, 13] (fun z i wr => ∃ (j s : Nat), j ≤ n ∧ z = .int .i64 s ∧ i = .int .i64 j ∧ Hid (s = (ls.take j).flatten.length) ∧ Below w.heap.size w wr) (fun _ i _ => n - (intOf i).toNat)
  case atStart => exact ⟨0, 0, Nat.zero_le _, rfl, rfl, Lib.hid (by simp), Below.refl _ _⟩
  case round =>
    obtain ⟨j, s, hj, rfl, rfl, HSM, hb5⟩ := hrel
    have HB5 := Lib.hid hb5
    by_cases hlt : j < n
    · obtain ⟨l, hl⟩ : ∃ l, ls[j]? = some l := ⟨_, List.getElem?_eq_getElem (by have := HLEN.out; omega)⟩
      have HL := Lib.hid hl
      obtain ⟨b, o, rfl, hb, hcell0, hrow⟩ := HVS.out.at_ j l hl
      have hcell := (World.cell?_of_block (a := ⟨b, o + j, none⟩) (hb5.block b (Nat.lt_of_lt_of_le hb.2 HBW.out))).trans hcell0
      have HROW := Lib.hid hrow
      have hj0 : (0 : Int) ≤ (j : Int) := Int.natCast_nonneg _
      have hj1 : (j : Int) < (n : Int) := by omega
      have hsl : s + l.length ≤ 2000000 := by
        have h1 := flatten_take_le ls (j + 1)
        have h2 : (ls.take (j + 1)).flatten.length = (ls.take j).flatten.length + l.length := by rw [flatten_take HL.out, List.length_append]
        have := HSM.out
        have := HLN.out
        omega
      clear hl hrow hb5 hcell0
      go_wp2_with fail
      go_loopw [24] (fun i wq => ∃ r : Nat, r ≤ l.length ∧ i = .int .i64 r ∧ Below w.heap.size w wq) (fun i _ => l.length - (intOf i).toNat)
      case atStart => exact ⟨0, Nat.zero_le _, rfl, HB5.out⟩
      case round =>
        obtain ⟨r, hr, rfl, hb7⟩ := hrel
        have HB7 := Lib.hid hb7
        by_cases hltr : r < l.length
        · obtain ⟨b', o', x, D, dn, dc, u, hA, hb', hx, hv, c0', c1', c2', c3', c4', c5'⟩ := (HROW.out.frame (w' := wr) (fun q _ h => HB7.out.block q (Nat.lt_of_lt_of_le h HBW.out)) (Nat.le_refl _) (Nat.le_refl _)).at_ hltr
          have hxc := HCOL.out j l HL.out x (List.mem_of_getElem? hx)
          have hr0 : (0 : Int) ≤ (r : Int) := Int.natCast_nonneg _
          have hr1 : (r : Int) < (l.length : Int) := by omega
          have hnot := not_u16 j (by omega)
          obtain ⟨ci, hci⟩ : ∃ ci, ci = 65535 - x.col := ⟨_, rfl⟩
          rw [← hci] at c5'
          have hb1 : (ci != bits BinOp.xor IntKind.u16 IntKind.u16.max (j : Int)) = false := by rw [hnot]; simp; omega
          have hb2 : (ci != bits BinOp.xor IntKind.u16 (if IntKind.u16.signed = true then -1 else IntKind.u16.max) (j : Int)) = false := hb1
          have hb3 : (ci == bits BinOp.xor IntKind.u16 IntKind.u16.max (j : Int)) = true := by rw [hnot]; simp; omega
          have hb4 : (ci == bits BinOp.xor IntKind.u16 (if IntKind.u16.signed = true then -1 else IntKind.u16.max) (j : Int)) = true := hb3
          have HBQ : Hid (∀ o, Below w.heap.size w (wr.alloc o)) := Lib.hid fun o => HB7.out.alloc HB7.out.size o
          rw [hA]
          clear hx hv hxc hnot hci hA hb7
          go_wp2_with fail
          refine ⟨⟨r + 1, by omega, by go_num, HBQ.out _⟩, by simp [intOf]; omega⟩
        · obtain rfl : r = l.length := by omega
          clear hb7
          go_wp2_with fail
          refine ⟨⟨j + 1, s + l.length, by omega, by go_num, by go_num, Lib.hid (by rw [flatten_take HL.out, List.length_append, HSM.out]), HB7.out⟩, by simp [intOf]; omega⟩
    · obtain rfl : j = n := by omega
      have hls : ls.take j = ls := List.take_of_length_le (by have := HLEN.out; omega)
      have hs : s = ls.flatten.length := by have := HSM.out; rwa [hls] at this
      have HS := Lib.hid hs
      have hs2 : s ≤ 2000000 := by have := HLN.out; omega
      have HBW5 : Hid (B ≤ wr.heap.size) := Lib.hid (Nat.le_trans HBW.out hb5.size)
      have HOWN := Lib.hid (HOWN0.out.kept (row := none) ⟨hb5.os, hb5.tape, hb5.output, hb5.size, fun k hk _ => hb5.block k hk⟩ (by cases (Value.slice A1 n0 c0).ownBlock <;> simp))
      have HFLAT : Hid (FlatV wr lo0 wr.heap.size (.slice A1 n0 c0) xs0 cs0) := Lib.hid (HFLAT0.out.frame (fun q _ h _ => hb5.block q h) (fun g h => .inl h) (Nat.le_refl _) hb5.size)
      have HVS5 := Lib.hid (HVS.out.frame (w' := wr) (fun q _ h => hb5.block q (Nat.lt_of_lt_of_le h HBW.out)) (Nat.le_refl _) (Nat.le_refl _))
      have hn00 : (0 : Int) ≤ (n0 : Int) := Int.natCast_nonneg _
      have hc01 : (n0 : Int) ≤ (c0 : Int) := by omega
      have hc02 : (c0 : Int) ≤ 9223372036854775807 := by omega
      clear hls hs hb5
      by_cases hcap : (c0 : Int) - (n0 : Int) < (s : Int)
      · have hcd : decide ((c0 : Int) - (n0 : Int) < (s : Int)) = true := decide_eq_true hcap
        obtain ⟨m, hm⟩ : ∃ m, m = n0 + s := ⟨_, rfl⟩
        have hmk : ∀ w, (Instr.makeSlice 63 (.int .i64 0) (.int .i64 ((n0 : Int) + (s : Int)))).run Tryz.prog w = .ok (.slice (some ⟨w.heap.size, 0, none⟩) 0 m) (w.alloc (.cells (madeCells (vCells none 0 0 0 0 0 0 0) (m * 6)) 76)) := fun w => by
          have h := make_row m (by omega) w
          rw [show ((m : Nat) : Int) = (n0 : Int) + (s : Int) by omega] at h
          exact h
        have HM := Lib.hid hm
        clear hm
        have HBB : Hid (base ≤ wr.heap.size) := Lib.hid (Nat.le_trans HBASE.out HB5.out.size)
        have HNEW := Lib.hid (own_made (w := wr) (m := m) HBB.out (by have := HM.out; omega) rfl)
        have HCELLS : Hid (∀ o ad, A1 = some ad → ∀ j u, xs0[j]? = some u → (wr.alloc o).cell? (ad.add j) = some u) := Lib.hid fun o ad hA j u hu => by
          obtain ⟨g, rfl⟩ := HC4.out ad hA
          subst hA
          exact (HOWN.out.alloc o).cells rfl j u hu
        go_wp2_with (at_builtin; refine wpList_append3 _ rfl _ _ 63 63 rfl base 76 76 i76 _ 6 40 Tryz.underlying63 Tryz.underlying63 J1.out J2.out J3.out J4.out rfl (by decide) (.slice (some ⟨wr.heap.size, 0, none⟩) 0 m) 0 [] (by rfl) HNEW.out A1 n0 c0 xs0 (by rfl) HC3.out (by rw [HOWN.out.1]) (HCELLS.out _) HFLAT.out.one (by simp only [maxLen]; omega) (by omega) (by have := HBB.out; rw [size_alloc1]; omega) ?_; intro v' w' hown' hgrow' hat')
        have hws := hgrow'.size
        rw [size_alloc1] at hws
        have hblk : ∀ q, q < wr.heap.size → w'.heap[q]? = wr.heap[q]? := fun q hq => (hgrow'.block q (by rw [size_alloc1]; omega) (fun he => by simp [Value.ownBlock] at he; omega)).trans (Below.heap_alloc wr _ q hq)
        have hnew : ∀ g, v'.ownBlock = some g → wr.heap.size ≤ g := fun g hg => by
          rcases hat' with h | h
          · rw [h] at hg; simp [Value.ownBlock] at hg; omega
          · rw [h, size_alloc1] at hg; injection hg with hg; omega
        rw [Nat.zero_add, List.nil_append] at hown'
        have hfl : FlatV w' lo0 w'.heap.size v' xs0 cs0 := HFLAT.out.frame (fun q _ h _ => hblk q h) (fun g hg => .inr (hnew g hg)) (Nat.le_refl _) (by omega)
        have hvs := HVS5.out.frame (w' := w') (fun q _ h => hblk q (Nat.lt_of_lt_of_le h HBW5.out)) (Nat.le_refl _) (Nat.le_refl _)
        have hb7 : Below base w w' := ⟨hgrow'.os.trans HB5.out.os, hgrow'.tape.trans HB5.out.tape, hgrow'.output.trans HB5.out.output, by have := HB5.out.size; omega, fun q hq => (hblk q (Nat.lt_of_lt_of_le hq HBB.out)).trans (HB5.out.block q (Nat.lt_of_lt_of_le hq HBASE.out))⟩
        have HB7 := Lib.hid hb7
        have H81 := Lib.hid (append81r base lo B lo0 n0 v' xs0 cs0 ls A0 j c A cc w' hown' hfl HCS.out hvs (by have := HBW5.out; omega) (by have := HBB.out; omega) HLO.out.1 HLO.out.2 (fun g hg => .inr (Nat.le_trans HBW5.out (hnew g hg))) (by omega) (by have := HS.out; omega))
        clear hws hblk hnew hfl hvs hb7 hown' hgrow' hat'
        refine H81.out.mono ?_
        rintro e w9 ⟨A9, c9, he, hrow9, hb9⟩
        obtain ⟨N, hN⟩ : ∃ N, N = (cs0 ++ ls.flatten).length := ⟨_, rfl⟩
        rw [← hN] at he hrow9
        subst he
        have HN := Lib.hid hN
        have HR9 := Lib.hid hrow9
        have HB9 : Hid (Below base w w9) := Lib.hid (HB7.out.trans hb9)
        clear hN hrow9 hb9
        go_wp2_with fail
        go_ret
        exact ⟨A9, c9, by rw [← HN.out]; rfl, by rw [← HN.out]; exact HR9.out, HB9.out⟩
      · have hcd : decide ((c0 : Int) - (n0 : Int) < (s : Int)) = false := decide_eq_false hcap
        go_wp2_with fail
        refine (append81r base lo B lo0 n0 _ xs0 cs0 ls A0 j c A cc wr HOWN.out HFLAT.out HCS.out HVS5.out HBW5.out (Nat.le_trans HBASE.out HB5.out.size) HLO.out.1 HLO.out.2 HAV.out (by omega) (by have := HS.out; omega)).mono ?_
        rintro e w9 ⟨A9, c9, he, hrow9, hb9⟩
        obtain ⟨N, hN⟩ : ∃ N, N = (cs0 ++ ls.flatten).length := ⟨_, rfl⟩
        rw [← hN] at he hrow9
        subst he
        have HN := Lib.hid hN
        have HR9 := Lib.hid hrow9
        have HB9 : Hid (Below base w w9) := Lib.hid ((HB5.out.mono HBASE.out).trans hb9)
        clear hN hrow9 hb9
        go_wp2_with fail
        go_ret
        exact ⟨A9, c9, by rw [← HN.out]; rfl, by rw [← HN.out]; exact HR9.out, HB9.out⟩
theorem RowIn.row {w : World} {lo B : Nat} {A : Option Addr} {n c : Nat} {cs : List Cl} (h : RowIn w lo B A n c cs) : RowAt w B A n c cs := by
  obtain ⟨h1, h2, h3⟩ := h
  refine ⟨h1, h2, fun hn => ?_⟩
  obtain ⟨b, o, hA, hb, h⟩ := h3 hn
  refine ⟨b, o, hA, hb.2, fun i x hx => ?_⟩
  obtain ⟨A', n', c', u', hv, r⟩ := h i x hx
  exact ⟨A', n', c', u', hv.frame (fun _ _ _ => rfl) (Nat.zero_le _) (Nat.le_refl _), r⟩
theorem make63 (ls : List (List Cl)) (A0 : Option Addr) (n c : Nat) (A : Nat → Option Addr) (cc : Nat → Nat) (lo : Nat) (w : World) (hvs : VsAt w lo w.heap.size A0 n c ls A cc) (hlo : lo ≤ w.heap.size) (hn : n ≤ 300) (hlen : ls.flatten.length ≤ 2000000) (hcol : ∀ (k : Nat) (l : List Cl), ls[k]? = some l → ∀ x ∈ l, x.col = (k : Int)) :
    Calls Tryz.prog 63 #[.slice A0 n c] w (GivesIn w.heap.size lo ls.flatten w) := by
  have H := Lib.hid (append61 w.heap.size lo w.heap.size lo 0 0 none [] [] ls A0 n c A cc w (World.ownsRow_nil _ _ _ _) (FlatV.nil _ _ _ _) rfl hvs (Nat.le_refl _) (Nat.le_refl _) (Nat.le_refl _) hlo (fun g hg => by simp [Value.ownBlock] at hg) hn (by omega) hlen hcol)
  rw [List.nil_append] at H
  clear hvs hcol hlen
  go_enter Tryz.func63, Tryz.ntmps63
  go_wp2_with fail
  refine H.out.mono ?_
  rintro e w9 ⟨A9, c9, he, hrow9, hb9⟩
  obtain ⟨N, hN⟩ : ∃ N, N = ls.flatten.length := ⟨_, rfl⟩
  rw [← hN] at he hrow9
  subst he
  have HN := Lib.hid hN
  have HR9 := Lib.hid hrow9
  have HB9 := Lib.hid hb9
  clear hN hrow9 hb9
  go_wp2_with fail
  go_ret
  exact ⟨A9, c9, by rw [← HN.out]; rfl, by rw [← HN.out]; exact HR9.out, HB9.out⟩
end Go.Proofs.YtglgclkgppomiaaGreat

namespace Go.Proofs.YtglgclkgppomiaaGreat
open Go Go.RowKit

/-- Columns that spec.AreColumns lets in. -/
structure GoodCols (ls : List (List Cl)) : Prop where
  len : ls.length ≤ 300
  each : ∀ l ∈ ls, l.length ≤ 5000
  good : ∀ l ∈ ls, ∀ x ∈ l, Good x
  col : ∀ (k : Nat) (l : List Cl), ls[k]? = some l → ∀ x ∈ l, x.col = (k : Int)
theorem flatten_length_le {α : Type} (k : Nat) : ∀ (ls : List (List α)), (∀ l ∈ ls, l.length ≤ k) → ls.flatten.length ≤ ls.length * k
  | [], _ => by simp
  | l :: r, h => by
    have h1 := flatten_length_le k r (fun m hm => h m (List.mem_cons_of_mem _ hm))
    have h2 := h l List.mem_cons_self
    rw [List.flatten_cons, List.length_append, List.length_cons, Nat.succ_mul]
    omega
theorem GoodCols.flat {ls : List (List Cl)} (h : GoodCols ls) : ls.flatten.length ≤ 1500000 := by
  have h1 := flatten_length_le 5000 ls h.each
  have h2 := h.len
  have : ls.length * 5000 ≤ 300 * 5000 := Nat.mul_le_mul_right _ h2
  omega
theorem GoodCols.mem {ls : List (List Cl)} (h : GoodCols ls) : ∀ x ∈ ls.flatten, Good x := fun x hx => by
  obtain ⟨l, hl, hxl⟩ := List.mem_flatten.1 hx
  exact h.good l hl x hxl
theorem GoodCols.ok {ls : List (List Cl)} (h : GoodCols ls) : ∀ l ∈ ls, l.length ≤ 1000000000 ∧ ∀ x ∈ l, ClOk x ∧ x.text.size ≤ 1000000000000 := fun l hl =>
  ⟨by have := h.each l hl; omega, fun x hx => ⟨(h.good l hl x hx).ok, by have := (h.good l hl x hx).text; omega⟩⟩
theorem colsFrom_get : ∀ (ls : List (List Cl)) (i : Nat), colsFrom i ls = true → ∀ (k : Nat) (l : List Cl), ls[k]? = some l → colOk (i + k) l = true
  | [], _, _, k, l, h => by simp at h
  | m :: r, i, h, 0, l, hk => by
    rw [colsFrom, Bool.and_eq_true] at h
    simp at hk
    subst hk
    simpa using h.1
  | m :: r, i, h, k + 1, l, hk => by
    rw [colsFrom, Bool.and_eq_true] at h
    have := colsFrom_get r (i + 1) h.2 k l (by simpa using hk)
    rwa [show i + 1 + k = i + (k + 1) by omega] at this
theorem areCols_cols {ls : List (List Cl)} (h : areCols ls = true) (hf : ∀ l ∈ ls, ∀ y ∈ l, -9223372036854775808 ≤ y.num ∧ y.num ≤ 9223372036854775807) : GoodCols ls := by
  unfold areCols at h
  simp only [Bool.and_eq_true, decide_eq_true_eq] at h
  have hg : ∀ (k : Nat) (l : List Cl), ls[k]? = some l → areCl l = true ∧ ∀ x ∈ l, x.col = (k : Int) := fun k l hk => by
    have := colsFrom_get ls 0 h.1 k l hk
    rw [Nat.zero_add] at this
    unfold colOk at this
    simp only [Bool.and_eq_true, List.all_eq_true, decide_eq_true_eq] at this
    exact this
  have ha : ∀ l ∈ ls, areCl l = true := fun l hl => by
    obtain ⟨k, hk⟩ := List.mem_iff_getElem?.1 hl
    exact (hg k l hk).1
  refine ⟨h.2, fun l hl => ?_, fun l hl x hx => ?_, fun k l hk => (hg k l hk).2⟩
  · have := ha l hl
    unfold areCl at this
    simp only [Bool.and_eq_true, decide_eq_true_eq] at this
    exact this.2
  · have := ha l hl
    unfold areCl at this
    simp only [Bool.and_eq_true, decide_eq_true_eq, List.all_eq_true] at this
    exact ⟨this.1 x hx, hf l hl x hx⟩

set_option maxRecDepth 100000 in
set_option maxHeartbeats 4000000 in
theorem make40 (ls : List (List Cl)) (A0 : Option Addr) (n c : Nat) (A : Nat → Option Addr) (cc : Nat → Nat) (w : World) (hls : LsAt w w.heap.size A0 n c ls A cc) (hc : GoodCols ls) :
    Calls Tryz.prog 40 #[.slice A0 n c] w (GivesCls ls.flatten w) := by
  have HC := Lib.hid hc
  have H62 := Lib.hid (columns62 ls A0 n c A cc w hls hc.ok (by have := hls.len; have := hc.len; omega))
  obtain ⟨N0, hN0⟩ : ∃ N0, N0 = ls.length := ⟨_, rfl⟩
  have HN0 := Lib.hid hN0
  clear hls hc hN0
  go_enter Tryz.func40, Tryz.ntmps40
  go_wp2_with fail
  refine H62.out.mono ?_
  rintro e w1 ⟨A1, c1, Ar, cr, he, hvs, hb1⟩
  rw [← HN0.out] at he hvs
  subst he
  have HB1 := Lib.hid hb1
  have H63 := Lib.hid (make63 ls A1 _ c1 Ar cr w.heap.size w1 hvs hb1.size (by have := HN0.out; have := HC.out.len; omega) (by have := HC.out.flat; omega) HC.out.col)
  clear hvs hb1
  go_wp2_with fail
  refine H63.out.mono ?_
  rintro e w2 ⟨A2, c2, he, hrow, hb2⟩
  obtain ⟨N, hN⟩ : ∃ N, N = ls.flatten.length := ⟨_, rfl⟩
  rw [← hN] at he hrow
  subst he
  have HN := Lib.hid hN
  have HB2 := Lib.hid (HB1.out.trans (hb2.mono HB1.out.size))
  have H47 := Lib.hid (cells47 ls.flatten A2 N c2 w2 hrow.row (fun x hx => (HC.out.mem x hx).ok) (by have := HC.out.flat; omega))
  clear hN hrow hb2
  go_wp2_with fail
  refine H47.out.mono ?_
  rintro e w3 ⟨A3, c3, he, hcls, hb3⟩
  rw [← HN.out] at he hcls
  subst he
  have HB3 := Lib.hid (HB2.out.trans (hb3.mono HB2.out.size))
  have HCLS := Lib.hid hcls
  clear hb3 hcls
  go_wp2_with fail
  go_ret
  exact ⟨A3, c3, by rw [← HN.out]; rfl, by rw [← HN.out]; exact HCLS.out, HB3.out⟩

set_option maxRecDepth 100000 in
set_option maxHeartbeats 4000000 in
theorem append38 (fr : List Cl) (ls : List (List Cl)) (A5 A0 : Option Addr) (n5 c5 n c : Nat) (A : Nat → Option Addr) (cc : Nat → Nat) (w : World) (hfr : ClsAt w w.heap.size A5 n5 c5 fr) (hls : LsAt w w.heap.size A0 n c ls A cc) (hg : ∀ x ∈ fr, Good x) (hfl : fr.length ≤ 5000) (hc : GoodCols ls) :
    Calls Tryz.prog 38 #[.slice A5 n5 c5, .slice A0 n c] w (GivesCls (fr ++ ls.flatten) w) := by
  have HC := Lib.hid hc
  have HG := Lib.hid hg
  have HLS := Lib.hid hls
  have H53 := Lib.hid (row53o fr A5 n5 c5 w hfr (fun x hx => ⟨(hg x hx).ok, by have := (hg x hx).text; omega⟩) (by have := hfr.1; omega))
  obtain ⟨N0, hN0⟩ : ∃ N0, N0 = ls.length := ⟨_, rfl⟩
  have HN0 := Lib.hid hN0
  obtain ⟨N5, hN5⟩ : ∃ N5, N5 = fr.length := ⟨_, rfl⟩
  have HN5 := Lib.hid hN5
  have hN5l : N5 ≤ 5000 := by omega
  clear hfr hls hg hc hN0 hN5 hfl
  go_enter Tryz.func38, Tryz.ntmps38
  go_wp2_with fail
  refine H53.out.mono ?_
  rintro e w1 ⟨v, xs, rfl, hown, hflat, hb1⟩
  rw [← HN5.out] at hown
  obtain ⟨A6, c6, rfl⟩ := own_slice hown
  have HB1 := Lib.hid hb1
  have HOWN := Lib.hid hown
  have HFLAT := Lib.hid hflat
  have hls1 := HLS.out.mono hb1 hb1.size
  have H62 := Lib.hid (columns62 ls A0 n c A cc w1 hls1 HC.out.ok (by have := hls1.len; have := HC.out.len; omega))
  clear hown hflat hb1 hls1
  go_wp2_with fail
  refine H62.out.mono ?_
  rintro e w2 ⟨A1, c1, Ar, cr, he, hvs, hb2⟩
  rw [← HN0.out] at he hvs
  subst he
  have HB2 := Lib.hid (HB1.out.trans (hb2.mono HB1.out.size))
  have hown2 := HOWN.out.kept (row := none) ⟨hb2.os, hb2.tape, hb2.output, hb2.size, fun k hk _ => hb2.block k hk⟩ (by cases (Value.slice A6 N5 c6).ownBlock <;> simp)
  have hfl2 : FlatV w2 w.heap.size w2.heap.size (.slice A6 N5 c6) xs fr := HFLAT.out.frame (fun q _ h _ => hb2.block q h) (fun g h => .inl h) (Nat.le_refl _) hb2.size
  have H61 := Lib.hid (append61 w.heap.size w1.heap.size w2.heap.size w.heap.size N5 c6 A6 xs fr ls A1 N0 c1 Ar cr w2 hown2 hfl2 HN5.out.symm hvs (Nat.le_refl _) HB2.out.size HB1.out.size (Nat.le_refl _) (fun g hg => .inl (HOWN.out.lt g hg).2) (by have := HN0.out; have := HC.out.len; omega) hN5l (by have := HC.out.flat; omega) HC.out.col)
  clear hvs hb2 hown2 hfl2
  go_wp2_with fail
  refine H61.out.mono ?_
  rintro e w3 ⟨A2, c2, he, hrow, hb3⟩
  obtain ⟨N, hN⟩ : ∃ N, N = (fr ++ ls.flatten).length := ⟨_, rfl⟩
  rw [← hN] at he hrow
  subst he
  have HN := Lib.hid hN
  have HB3 := Lib.hid (HB2.out.trans hb3)
  have H47 := Lib.hid (cells47 (fr ++ ls.flatten) A2 N c2 w3 hrow.row (fun x hx => by
    rcases List.mem_append.1 hx with hx | hx
    · exact (HG.out x hx).ok
    · exact (HC.out.mem x hx).ok) (by have := HC.out.flat; have := HN5.out; have := HN.out; rw [List.length_append] at this; omega))
  clear hN hrow hb3
  go_wp2_with fail
  refine H47.out.mono ?_
  rintro e w4 ⟨A3, c3, he, hcls, hb4⟩
  rw [← HN.out] at he hcls
  subst he
  have HB4 := Lib.hid (HB3.out.trans (hb4.mono HB3.out.size))
  have HCLS := Lib.hid hcls
  clear hb4 hcls
  go_wp2_with fail
  go_ret
  exact ⟨A3, c3, by rw [← HN.out]; rfl, by rw [← HN.out]; exact HCLS.out, HB4.out⟩

theorem ClsAt.list {w : World} {B : Nat} {A : Option Addr} {n c : Nat} {cs : List Cl} (h : ClsAt w B A n c cs) : (A = none → n = 0) ∧ ∀ ad, A = some ad → ∀ j u, (clFlat cs)[j]? = some u → w.cell? (ad.add j) = some u := by
  obtain ⟨h1, h2, h3⟩ := h
  by_cases hn : n = 0
  · subst hn
    have := List.eq_nil_of_length_eq_zero h1
    subst this
    exact ⟨fun _ => rfl, fun ad _ j u hj => by simp [clFlat] at hj⟩
  · obtain ⟨b, o, rfl, hb, h⟩ := h3 (by omega)
    refine ⟨fun h => (by cases h), fun ad had j u hj => ?_⟩
    injection had with had
    subst had
    rw [Addr.add_lit]
    have key : ∀ k, k ≤ cs.length → ∀ j u, (clFlat (cs.take k))[j]? = some u → w.cell? ⟨b, o + j, none⟩ = some u := by
      intro k
      induction k with
      | zero => intro _ j u hj; simp [clFlat] at hj
      | succ k ih =>
        intro hk j u hj
        have hx : cs[k]? = some cs[k] := List.getElem?_eq_getElem (by omega)
        have hl : (clFlat (cs.take k)).length = k * 7 := by rw [clFlat_length, List.length_take]; congr 1; omega
        rw [List.take_add_one, hx] at hj
        have e : clFlat (cs.take k ++ (some cs[k]).toList) = clFlat (cs.take k) ++ cs[k].vals := clFlat_snoc _ _
        rw [e] at hj
        by_cases hlt : j < k * 7
        · rw [List.getElem?_append_left (by omega)] at hj
          exact ih (by omega) j u hj
        · rw [List.getElem?_append_right (by omega), hl] at hj
          obtain ⟨g0, g1, g2, g3, g4, g5, g6⟩ := h k _ hx
          have hr : j - k * 7 < 7 := by
            have := (List.getElem?_eq_some_iff.1 hj).1
            simpa [Cl.vals] using this
          have hjj : j = k * 7 + (j - k * 7) := by omega
          generalize j - k * 7 = r at *
          subst hjj
          rw [← Nat.add_assoc]
          rcases (by omega : r = 0 ∨ r = 1 ∨ r = 2 ∨ r = 3 ∨ r = 4 ∨ r = 5 ∨ r = 6) with rfl | rfl | rfl | rfl | rfl | rfl | rfl <;> simp [Cl.vals] at hj <;> subst hj <;> assumption
    exact key cs.length (Nat.le_refl _) j u (by rwa [List.take_of_length_le (Nat.le_refl _)])

set_option maxRecDepth 100000 in
set_option maxHeartbeats 4000000 in
theorem joined39c (ls : List (List Cl)) (A0 : Option Addr) (n c : Nat) (A : Nat → Option Addr) (cc : Nat → Nat) (w : World) (hls : LsAt w w.heap.size A0 n c ls A cc) (hc : GoodCols ls) :
    Calls Tryz.prog 39 #[.slice A0 n c] w (GivesCls ls.flatten w) := by
  have HLS := Lib.hid hls
  have HC := Lib.hid hc
  have HLEN := Lib.hid hls.len.1
  have hn3 : n ≤ 300 := by have := hls.len.1; have := hc.len; omega
  obtain ⟨i39, j1, j2, j3, j4⟩ := info_parts info39
  have J1 := Lib.hid j1
  have J2 := Lib.hid j2
  have J3 := Lib.hid j3
  have J4 := Lib.hid j4
  clear hls hc j1 j2 j3 j4
  go_enter Tryz.func39, Tryz.ntmps39
  go_wp2_with fail
  go_loopw [3, 8] (fun v i wr => ∃ (j m : Nat), j ≤ n ∧ i = .int .i64 j ∧ Hid (m = (ls.take j).flatten.length) ∧ wr.ownsRow w.heap.size 39 7 v m (clFlat (ls.take j).flatten) ∧ Below w.heap.size w wr) (fun _ i _ => n - (intOf i).toNat)
  case atStart => exact ⟨0, 0, Nat.zero_le _, rfl, Lib.hid (by simp), World.ownsRow_nil _ _ _ _, Below.refl _ _⟩
  case round =>
    obtain ⟨j, m, hj, rfl, HM, hown, hb5⟩ := hrel
    have HOWN := Lib.hid hown
    have HB5 := Lib.hid hb5
    clear hown
    by_cases hlt : j < n
    · obtain ⟨l, hl⟩ : ∃ l, ls[j]? = some l := ⟨_, List.getElem?_eq_getElem (by have := HLEN.out; omega)⟩
      have HL := Lib.hid hl
      obtain ⟨b, o, rfl, hbl, hcell, hcl⟩ := (HLS.out.mono hb5 hb5.size).at_ j l hl
      have Y := Lib.hid hcl.list
      have hj0 : (0 : Int) ≤ (j : Int) := Int.natCast_nonneg _
      have hj1 : (j : Int) < (n : Int) := by omega
      have hsz := hb5.size
      have hml : m + l.length ≤ 2000000 := by
        have h1 := flatten_take_le ls (j + 1)
        have h2 : (ls.take (j + 1)).flatten.length = (ls.take j).flatten.length + l.length := by rw [flatten_take HL.out, List.length_append]
        have := HM.out
        have := HC.out.flat
        omega
      have HML := Lib.hid hml
      clear hl hcl hb5 hml
      go_wp2_with (at_builtin; refine wpList_append3 _ rfl _ _ 26 26 rfl w.heap.size 39 39 i39 _ 7 64 Tryz.underlying26 Tryz.underlying26 J1.out J2.out J3.out J4.out rfl (by decide) u3 m (clFlat (ls.take j).flatten) (by rfl) HOWN.out (A j) l.length (cc j) (clFlat l) (by rfl) Y.out.1 (clFlat_length _) Y.out.2 (cls_one _) (by have := HML.out; simp only [maxLen]; omega) (by have := HML.out; omega) hsz ?_; intro v' w' hown' hgrow' hat')
      have hb6 : Below w.heap.size w w' := HB5.out.trans (below_grownRow hgrow' hsz (fun k hk => (HOWN.out.lt k hk).1))
      refine ⟨⟨j + 1, m + l.length, by omega, by go_num, Lib.hid (by rw [flatten_take HL.out, List.length_append, HM.out]), ?_, hb6⟩, by simp [intOf]; omega⟩
      rw [flatten_take HL.out, cls_append]
      exact hown'
    · obtain rfl : j = n := by omega
      go_wp2_with fail
      go_ret
      have hls : ls.take j = ls := List.take_of_length_le (by have := HLEN.out; omega)
      have hown := HOWN.out
      have hm := HM.out
      rw [hls] at hown hm
      obtain ⟨A', c', rfl, hcls⟩ := clsAt_owns hown hm.symm
      exact ⟨A', c', by rw [← hm]; rfl, by rw [← hm]; exact hcls, HB5.out⟩
end Go.Proofs.YtglgclkgppomiaaGreat
