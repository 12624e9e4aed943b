/- The walks of spec.onceIn, spec.dataIn, spec.rowIn and spec.IsRow: how many data there are in a row, or none. The walks of spec.rowIn and spec.IsRow. -/
import Derived.Test.YtglgclkgppomiaaGreatZ02
import Derived.Test.YtglgclkgppomiaaGreatZ22
import Derived.Deep.RegionHeld3
import Derived.StillTailTactics
set_option linter.unusedVariables false
set_option linter.unusedSimpArgs false
namespace Go.Proofs.YtglgclkgppomiaaGreat
open Go Go.RowKit

def RwIn (N : Nat) : Prop := ∀ (fs : List Fd) (ds : List Dt) (A : Option Addr) (n c : Nat) (A2 : Option Addr) (n2 c2 : Nat) (w : World), fdsSize fs ≤ N → FdsAt w w.heap.size A n c fs → DtsAt w w.heap.size A2 n2 c2 ds → TextsFit ds → n2 ≤ 1000000000000 →
      Calls Tryz.prog 46 #[.slice A n c, .slice A2 n2 c2] w fun e w' => e = .returned (.int .i64 (optInt (rowGo fs ds 0))) ∧ Below w.heap.size w w'
def OnIn (N : Nat) : Prop := ∀ (f : Fd) (d : Dt) (A : Option Addr) (n c : Nat) (A2 : Option Addr) (n2 c2 : Nat) (w : World), fdSize f ≤ N → FdsAt w w.heap.size A n c f.kids → DtsAt w w.heap.size A2 n2 c2 d.items → TextsFit d.items → d.text.size ≤ 1000000000000 → n2 ≤ 1000000000000 →
      Calls Tryz.prog 98 #[.agg #[.string f.name, .int .i64 f.way, .int .i64 f.kind, .slice A n c], dtVal d A2 n2 c2] w fun e w' => e = .returned (.int .i64 (optInt (onceC f d))) ∧ Below w.heap.size w w'
def DtIn (N : Nat) : Prop := ∀ (f : Fd) (d : Dt) (A : Option Addr) (n c : Nat) (A2 : Option Addr) (n2 c2 : Nat) (w : World), fdSize f ≤ N → FdsAt w w.heap.size A n c f.kids → DtsAt w w.heap.size A2 n2 c2 d.items → TextsFit d.items → d.text.size ≤ 1000000000000 → n2 ≤ 1000000000000 →
      Calls Tryz.prog 70 #[.agg #[.string f.name, .int .i64 f.way, .int .i64 f.kind, .slice A n c], dtVal d A2 n2 c2] w fun e w' => e = .returned (.int .i64 (optInt (dataC f d))) ∧ Below w.heap.size w w'

set_option maxRecDepth 100000 in
set_option maxHeartbeats 1000000 in
theorem onceIn_step (N : Nat) (_hN : N ≤ 1000000000) (ih : RwIn N) : OnIn (N + 1) := by
  intro f d A n c A2 n2 c2 w hf hk hi ht hts hn2
  have IH := Lib.hid ih
  clear ih
  obtain ⟨hkl, _⟩ := hk.len
  obtain ⟨hil, _⟩ := hi.len
  have hs := fdSize_kids f
  have hte := toList_empty d.text
  obtain ⟨nn, num, txt, its⟩ := d
  simp only [Dt.items, Dt.text] at hi ht hts hil hte
  show Calls Tryz.prog 98 #[.agg #[.string f.name, .int .i64 f.way, .int .i64 f.kind, .slice A n c], .agg #[.bool nn, .int .i64 num, .string txt, .slice A2 n2 c2]] w _
  have hb2 : Below w.heap.size w ((w.alloc (.cells #[.string f.name, .int .i64 f.way, .int .i64 f.kind, .slice A n c] 41)).alloc (.cells #[.bool nn, .int .i64 num, .string txt, .slice A2 n2 c2] 43)) :=
    ((Below.refl _ _).alloc (Nat.le_refl _) _).alloc (by simp) _
  by_cases hkd : f.kids = []
  · have hz : ((n : Int) == 0) = true := by simp [← hkl, hkd]
    have hon := Lib.hid (onceC_leaf hkd (.mk nn num txt its))
    clear hkd hkl hte
    cases hp : plainOk f.kind (.mk nn num txt its) with
    | true =>
      have HP := Lib.hid hp
      clear hp
      go_enter Tryz.func98, Tryz.ntmps98
      go_wp2_with fail
      refine (isPlain_any f.kind (.mk nn num txt its) A2 n2 c2 _ hil hts).mono ?_
      rintro e w1 ⟨rfl, hb⟩
      have hc2 : w1.cell? ⟨w.heap.size + 1, 2, none⟩ = some (.string txt) := (bcell hb (by simp)).trans (by simp)
      rw [HP.out]
      go_wp2_with fail
      go_ret
      exact ⟨ret_int (by rw [hon.out, HP.out]; simp [optInt, Dt.text]), hb2.trans (hb.mono (by simp; omega))⟩
    | false =>
      have HP := Lib.hid hp
      clear hp
      go_enter Tryz.func98, Tryz.ntmps98
      go_wp2_with fail
      refine (isPlain_any f.kind (.mk nn num txt its) A2 n2 c2 _ hil hts).mono ?_
      rintro e w1 ⟨rfl, hb⟩
      rw [HP.out]
      go_wp2_with fail
      go_ret
      exact ⟨ret_int (by rw [hon.out, HP.out]; simp [optInt]), hb2.trans (hb.mono (by simp; omega))⟩
  · have hz : ((n : Int) == 0) = false := by
      have : f.kids.length ≠ 0 := by simpa using hkd
      simp; omega
    have hon := onceC_group hkd (.mk nn num txt its)
    clear hkd hkl
    cases nn with
    | true =>
      have HO : Hid (onceC f (.mk true num txt its) = none) := by show _ = _; rw [hon, bareOf_none]; rfl
      clear hon hte
      go_enter Tryz.func98, Tryz.ntmps98
      go_wp2_with fail
      go_ret
      exact ⟨ret_int (by rw [HO.out]; rfl), hb2⟩
    | false =>
      rw [bareOf_mk] at hon
      by_cases hm : num = 0
      · have m0 : (num != 0) = false := by simp [hm]
        by_cases htz : txt.size = 0
        · have t1 : txt.toList = [] := by simpa [htz] using hte
          have t2 : txt.toList.isEmpty = true := by simpa [htz] using hte
          have HO : Hid (onceC f (.mk false num txt its) = (rowGo f.kids its 0).map (· + 1)) := by
            show _ = _
            rw [hon, if_pos (by simp [hm, htz])]
            show _ = Option.map _ (rowGo f.kids its 0)
            simp only [Dt.items]
            cases rowGo f.kids its 0 <;> rfl
          clear hon hte htz hm
          go_enter Tryz.func98, Tryz.ntmps98
          go_wp2_with fail
          refine (IH.out f.kids its A n c A2 n2 c2 _ (by omega) (hk.mono hb2 (by simp; omega)) (hi.mono hb2 (by simp; omega)) ht hn2).mono ?_
          rintro e w1 ⟨rfl, hb⟩
          cases hr : rowGo f.kids its 0 with
          | none =>
            have HR := Lib.hid hr
            clear hr
            simp only [optInt]
            go_wp2_with fail
            go_ret
            exact ⟨ret_int (by rw [HO.out, HR.out]; rfl), hb2.trans (hb.mono (by simp; omega))⟩
          | some m =>
            have hle := rowGo_le _ _ _ _ hr
            have HR := Lib.hid hr
            have hm0 : decide ((m : Int) < 0) = false := by simp
            clear hr
            simp only [optInt]
            go_wp2_with fail
            go_ret
            exact ⟨ret_int (by rw [HO.out, HR.out]; simp [optInt]), hb2.trans (hb.mono (by simp; omega))⟩
        · have t1 : ¬ txt.toList = [] := by simpa [htz] using hte
          have t2 : txt.toList.isEmpty = false := by simpa [htz] using hte
          have HO : Hid (onceC f (.mk false num txt its) = none) := by show _ = _; rw [hon]; simp [htz]
          clear hon hte htz hm
          go_enter Tryz.func98, Tryz.ntmps98
          go_wp2_with fail
          go_ret
          exact ⟨ret_int (by rw [HO.out]; rfl), hb2⟩
      · have m0 : (num != 0) = true := by simp [hm]
        have HO : Hid (onceC f (.mk false num txt its) = none) := by show _ = _; rw [hon]; simp [hm]
        clear hon hte hm
        go_enter Tryz.func98, Tryz.ntmps98
        go_wp2_with fail
        go_ret
        exact ⟨ret_int (by rw [HO.out]; rfl), hb2⟩

set_option maxRecDepth 100000 in
set_option maxHeartbeats 1000000 in
theorem dataIn_step (N : Nat) (ih : OnIn N) : DtIn N := by
  intro f d A n c A2 n2 c2 w hf hk hi ht hts hn2
  have IH := Lib.hid ih
  clear ih
  obtain ⟨hil, _⟩ := hi.len
  have hte := toList_empty d.text
  obtain ⟨nn, num, txt, its⟩ := d
  simp only [Dt.items, Dt.text] at hi ht hts hil hte
  show Calls Tryz.prog 70 #[.agg #[.string f.name, .int .i64 f.way, .int .i64 f.kind, .slice A n c], .agg #[.bool nn, .int .i64 num, .string txt, .slice A2 n2 c2]] w _
  have hb2 : Below w.heap.size w ((w.alloc (.cells #[.string f.name, .int .i64 f.way, .int .i64 f.kind, .slice A n c] 41)).alloc (.cells #[.bool nn, .int .i64 num, .string txt, .slice A2 n2 c2] 43)) :=
    ((Below.refl _ _).alloc (Nat.le_refl _) _).alloc (by simp) _
  have hsz2 : (its.length = 0) ↔ n2 = 0 := by omega
  by_cases hnone : f.way = 1 ∧ nn = true
  · obtain ⟨hw1, rfl⟩ := hnone
    have e1 : (f.way == 1) = true := by simp [hw1]
    have hd : dataC f (.mk true num txt its) = (if num = 0 ∧ txt.size = 0 ∧ its.length = 0 then some 1 else none) := by
      unfold dataC dataOf; rw [if_pos ⟨hw1, rfl⟩]; rfl
    by_cases hm : num = 0
    · have m0 : (num != 0) = false := by simp [hm]
      by_cases htz : txt.size = 0
      · have t1 : txt.toList = [] := by simpa [htz] using hte
        have t2 : txt.toList.isEmpty = true := by simpa [htz] using hte
        by_cases hn0 : n2 = 0
        · have HD : Hid (dataC f (.mk true num txt its) = some 1) := by show _ = _; rw [hd, if_pos ⟨hm, htz, hsz2.2 hn0⟩]
          have e2 : decide (0 < n2) = false := by simp [hn0]
          clear hd hw1 hm htz hte hsz2 hn0
          go_enter Tryz.func70, Tryz.ntmps70
          go_wp2_with fail
          go_ret
          exact ⟨ret_int (by rw [HD.out]; rfl), hb2⟩
        · have HD : Hid (dataC f (.mk true num txt its) = none) := by show _ = _; rw [hd, if_neg (by intro h; exact hn0 (hsz2.1 h.2.2))]
          have e2 : decide (0 < n2) = true := by simp; omega
          clear hd hw1 hm htz hte hsz2 hn0
          go_enter Tryz.func70, Tryz.ntmps70
          go_wp2_with fail
          go_ret
          exact ⟨ret_int (by rw [HD.out]; rfl), hb2⟩
      · have t1 : ¬ txt.toList = [] := by simpa [htz] using hte
        have t2 : txt.toList.isEmpty = false := by simpa [htz] using hte
        have HD : Hid (dataC f (.mk true num txt its) = none) := by show _ = _; rw [hd, if_neg (by intro h; exact htz h.2.1)]
        clear hd hw1 hm htz hte hsz2
        go_enter Tryz.func70, Tryz.ntmps70
        go_wp2_with fail
        go_ret
        exact ⟨ret_int (by rw [HD.out]; rfl), hb2⟩
    · have m0 : (num != 0) = true := by simp [hm]
      have HD : Hid (dataC f (.mk true num txt its) = none) := by show _ = _; rw [hd, if_neg (by intro h; exact hm h.1)]
      clear hd hw1 hm hte hsz2
      go_enter Tryz.func70, Tryz.ntmps70
      go_wp2_with fail
      go_ret
      exact ⟨ret_int (by rw [HD.out]; rfl), hb2⟩
  · by_cases hw2 : f.way = 2
    · have e1 : (f.way == 1) = false := by simp [hw2]
      have e2 : (f.way != 2) = false := by simp [hw2]
      have hd : dataC f (.mk nn num txt its) = (if bareOf (.mk nn num txt its) then itemsGo (fun x => onceC f x) its 1 else none) := by
        unfold dataC dataOf; rw [if_neg (by simpa [Dt.none] using hnone), if_pos hw2]; rfl
      clear hw2 hnone hsz2
      cases nn with
      | true =>
        have HD : Hid (dataC f (.mk true num txt its) = none) := by show _ = _; rw [hd, bareOf_none]; rfl
        clear hd hte
        go_enter Tryz.func70, Tryz.ntmps70
        go_wp2_with fail
        go_ret
        exact ⟨ret_int (by rw [HD.out]; rfl), hb2⟩
      | false =>
        rw [bareOf_mk] at hd
        by_cases hm : num = 0
        · have m0 : (num != 0) = false := by simp [hm]
          by_cases htz : txt.size = 0
          · have t1 : txt.toList = [] := by simpa [htz] using hte
            have t2 : txt.toList.isEmpty = true := by simpa [htz] using hte
            have HD : Hid (dataC f (.mk false num txt its) = itemsGo (fun x => onceC f x) its 1) := by show _ = _; rw [hd, if_pos (by simp [hm, htz])]
            clear hd hm htz hte
            subst hil
            go_enter Tryz.func70, Tryz.ntmps70
            go_wp2_with fail
            go_loopw [5, 51] (fun m i wr => ∃ k a : Nat, k ≤ its.length ∧ i = .int .i64 k ∧ m = .int .i64 a ∧ a ≤ 20000 ∧ itemsGo (fun x => onceC f x) (its.take k) 1 = some a ∧
                wr.cell? ⟨w.heap.size, 0, none⟩ = some (.string f.name) ∧ wr.cell? ⟨w.heap.size, 1, none⟩ = some (.int .i64 f.way) ∧ wr.cell? ⟨w.heap.size, 2, none⟩ = some (.int .i64 f.kind) ∧ wr.cell? ⟨w.heap.size, 3, none⟩ = some (.slice A n c) ∧
                w.heap.size + 2 ≤ wr.heap.size ∧ Below w.heap.size w wr) (fun _ i _ => its.length - (intOf i).toNat)
            case atStart => exact ⟨0, 1, Nat.zero_le _, rfl, rfl, by omega, by simp [itemsGo], by simp, by simp, by simp, by simp, by simp, hb2⟩
            case round =>
              obtain ⟨k, a, hkk, rfl, rfl, ha, hgo, x0, x1, x2, x3, hsz, hb⟩ := hrel
              have Hgo := Lib.hid hgo
              clear hgo
              by_cases hlt : k < its.length
              · obtain ⟨b, o, d, A3, c3, rfl, hbl, hkd, c0, c1, c2, c3', hr⟩ := hi.at_ hlt
                obtain ⟨hts1, hts2, hts3⟩ := ht.at_ hkd
                have d0 := (bcell hb hbl).trans c0
                have d1 := (bcell hb hbl).trans c1
                have d2 := (bcell hb hbl).trans c2
                have d3 := (bcell hb hbl).trans c3'
                have Hkd := Lib.hid hkd
                have HT := Lib.hid hts3
                have hne := fun (x : Value) (t : TypeId) (j : Nat) => World.cell?_alloc_lt wr (.cells #[.bool d.none, .int .i64 d.num, .string d.text, .slice A3 d.items.length c3] 43) ⟨w.heap.size, j, none⟩ (by show w.heap.size < _; omega)
                have y0 := (hne (.bool true) 0 0).trans x0
                have y1 := (hne (.bool true) 0 1).trans x1
                have y2 := (hne (.bool true) 0 2).trans x2
                have y3 := (hne (.bool true) 0 3).trans x3
                clear c0 c1 c2 c3' hkd hts3 hne
                go_wp2_with fail
                refine (IH.out f d A n c A3 _ c3 _ hf (hk.mono (hb.alloc hb.size _) (by have := hb.size; simp; omega)) (hr.mono (hb.alloc hb.size _) (by have := hb.size; simp; omega)) HT.out hts1 hts2).mono ?_
                rintro e w1 ⟨rfl, hb1⟩
                have hb3 : Below w.heap.size w w1 := (hb.alloc hb.size _).trans (hb1.mono (by have := hb.size; simp; omega))
                have z0 := (bcell hb1 (b := w.heap.size) (o := 0) (by simp; omega)).trans y0
                have z1 := (bcell hb1 (b := w.heap.size) (o := 1) (by simp; omega)).trans y1
                have z2 := (bcell hb1 (b := w.heap.size) (o := 2) (by simp; omega)).trans y2
                have z3 := (bcell hb1 (b := w.heap.size) (o := 3) (by simp; omega)).trans y3
                have hsz3 : w.heap.size + 2 ≤ w1.heap.size := by have := hb1.size; simp at this; omega
                clear x0 x1 x2 x3 y0 y1 y2 y3
                cases hr2 : onceC f d with
                | none =>
                  have hbad := Lib.hid (itemsGo_bad (once := fun x => onceC f x) Hkd.out Hgo.out (.inl hr2))
                  clear hr2
                  simp only [optInt]
                  go_wp2_with fail
                  go_ret
                  exact ⟨ret_int (by rw [HD.out, hbad.out]; rfl), hb3⟩
                | some m =>
                  have hle := onceC_le _ _ _ hr2
                  have hm0 : decide ((m : Int) < 0) = false := by simp
                  simp only [optInt]
                  by_cases hbig : 20000 < a + m
                  · have hbad := Lib.hid (itemsGo_bad (once := fun x => onceC f x) Hkd.out Hgo.out (.inr ⟨m, hr2, hbig⟩))
                    have e3 : decide ((20000 : Int) < (a : Int) + (m : Int)) = true := by simp; omega
                    clear hr2 hbig
                    go_wp2_with fail
                    go_ret
                    exact ⟨ret_int (by rw [HD.out, hbad.out]; rfl), hb3⟩
                  · have hgood := Lib.hid (itemsGo_snoc (once := fun x => onceC f x) Hkd.out Hgo.out hr2 hbig)
                    have e3 : decide ((20000 : Int) < (a : Int) + (m : Int)) = false := by simp; omega
                    have hbig' : a + m ≤ 20000 := by omega
                    clear hr2 hbig
                    go_wp2_with fail
                    go_roundw
                    case rel => exact ⟨k + 1, a + m, by omega, by go_num, by go_num, by omega, hgood.out, z0, z1, z2, z3, hsz3, hb3⟩
                    case measure => simp [intOf]; omega
              · obtain rfl : k = its.length := by omega
                have hfin : itemsGo (fun x => onceC f x) its 1 = some a := by have := Hgo.out; rwa [List.take_of_length_le (Nat.le_refl _)] at this
                have HF := Lib.hid hfin
                clear hfin
                go_wp2_with fail
                go_ret
                exact ⟨ret_int (by rw [HD.out, HF.out]; rfl), hb⟩
          · have t1 : ¬ txt.toList = [] := by simpa [htz] using hte
            have t2 : txt.toList.isEmpty = false := by simpa [htz] using hte
            have HD : Hid (dataC f (.mk false num txt its) = none) := by show _ = _; rw [hd]; simp [htz]
            clear hd hm htz hte
            go_enter Tryz.func70, Tryz.ntmps70
            go_wp2_with fail
            go_ret
            exact ⟨ret_int (by rw [HD.out]; rfl), hb2⟩
        · have m0 : (num != 0) = true := by simp [hm]
          have HD : Hid (dataC f (.mk false num txt its) = none) := by show _ = _; rw [hd]; simp [hm]
          clear hd hm hte
          go_enter Tryz.func70, Tryz.ntmps70
          go_wp2_with fail
          go_ret
          exact ⟨ret_int (by rw [HD.out]; rfl), hb2⟩
    · have e2 : (f.way != 2) = true := by simp [hw2]
      have HD : Hid (dataC f (.mk nn num txt its) = onceC f (.mk nn num txt its)) := by
        show _ = _; unfold dataC dataOf; rw [if_neg (by simpa [Dt.none] using hnone), if_neg hw2]
      clear hte hsz2
      have hgo : ∀ w1, Below w.heap.size w w1 → w.heap.size ≤ w1.heap.size → Calls Tryz.prog 98 #[.agg #[.string f.name, .int .i64 f.way, .int .i64 f.kind, .slice A n c], .agg #[.bool nn, .int .i64 num, .string txt, .slice A2 n2 c2]] w1
          fun e w' => e = .returned (.int .i64 (optInt (dataC f (.mk nn num txt its)))) ∧ Below w1.heap.size w1 w' := fun w1 hb hs => by
        rw [HD.out]
        exact IH.out f (.mk nn num txt its) A n c A2 n2 c2 w1 hf (hk.mono hb hs) (hi.mono hb hs) ht hts hn2
      have HG := Lib.hid hgo
      clear hgo hw2
      cases hw1 : (f.way == 1) with
      | true =>
        have : nn = false := by
          cases nn with
          | false => rfl
          | true => exact absurd ⟨by simpa using hw1, rfl⟩ hnone
        subst this
        clear hnone
        go_enter Tryz.func70, Tryz.ntmps70
        go_wp2_with fail
        refine (HG.out _ hb2 hb2.size).mono ?_
        rintro e w1 ⟨rfl, hb⟩
        go_wp2_with fail
        go_ret
        exact ⟨rfl, hb2.trans (hb.mono (by simp; omega))⟩
      | false =>
        clear hnone
        go_enter Tryz.func70, Tryz.ntmps70
        go_wp2_with fail
        refine (HG.out _ hb2 hb2.size).mono ?_
        rintro e w1 ⟨rfl, hb⟩
        go_wp2_with fail
        go_ret
        exact ⟨rfl, hb2.trans (hb.mono (by simp; omega))⟩
end Go.Proofs.YtglgclkgppomiaaGreat

namespace Go.Proofs.YtglgclkgppomiaaGreat
open Go Go.RowKit

set_option maxRecDepth 100000 in
set_option maxHeartbeats 1000000 in
theorem rowIn_all (N : Nat) : N ≤ 1000000000 → RwIn N := by
  induction N with
  | zero =>
    intro _ fs ds A n c A2 n2 c2 w hs h hd ht hn2
    have hl := fdsSize_length fs
    obtain ⟨hn, _⟩ := h.len
    obtain ⟨hn3, _⟩ := hd.len
    obtain rfl : fs = [] := List.eq_nil_of_length_eq_zero (by omega)
    obtain rfl : n = 0 := by simpa using hn.symm
    clear h hl hn hs
    by_cases h0 : n2 = 0
    · subst h0
      obtain rfl : ds = [] := List.eq_nil_of_length_eq_zero hn3
      clear hd hn3
      go_enter Tryz.func46, Tryz.ntmps46
      go_wp2_with fail
      go_loopw [5, 16] (fun m i wr => i = .int .i64 (0 : Nat) ∧ m = .int .i64 (0 : Nat) ∧ wr = w) (fun _ _ _ => 0)
      case atStart => exact ⟨rfl, rfl, rfl⟩
      case round =>
        obtain ⟨rfl, rfl, rfl⟩ := hrel
        go_wp2_with fail
        go_ret
        exact ⟨ret_int (by simp [rowGo, optInt]), Below.refl _ _⟩
    · have HR : Hid (rowGo [] ds 0 = none) := by
        show _ = _
        cases ds with
        | nil => simp at hn3; omega
        | cons a r => rfl
      have e1 : ((0 : Int) != (n2 : Int)) = true := by simp; omega
      clear hd hn3 h0
      go_enter Tryz.func46, Tryz.ntmps46
      go_wp2_with fail
      go_ret
      exact ⟨ret_int (by rw [HR.out]; rfl), Below.refl _ _⟩
  | succ N ih =>
    intro hN fs ds A n c A2 n2 c2 w hs h hd ht hn2
    have step := dataIn_step (N + 1) (onceIn_step N (by omega) (ih (by omega)))
    have Hstep := Lib.hid step
    clear ih step
    obtain ⟨hn, hc⟩ := h.len
    obtain ⟨hn3, hc3⟩ := hd.len
    have hl := fdsSize_length fs
    subst hn
    by_cases h0 : fs.length = n2
    · have e1 : ((fs.length : Int) != (n2 : Int)) = false := by simp [h0]
      have H0 := Lib.hid h0
      have H3 := Lib.hid hn3
      clear h0 hn3
      go_enter Tryz.func46, Tryz.ntmps46
      go_wp2_with fail
      go_loopw [5, 16] (fun m i wr => ∃ k a : Nat, k ≤ fs.length ∧ i = .int .i64 k ∧ m = .int .i64 a ∧ a ≤ 20000 ∧ rowGo (fs.take k) (ds.take k) 0 = some a ∧ Below w.heap.size w wr) (fun _ i _ => fs.length - (intOf i).toNat)
      case atStart => exact ⟨0, 0, Nat.zero_le _, rfl, rfl, by omega, by simp [rowGo], Below.refl _ _⟩
      case round =>
        obtain ⟨k, a, hk, rfl, rfl, ha, hgo, hb⟩ := hrel
        have Hgo := Lib.hid hgo
        clear hgo
        by_cases hlt : k < fs.length
        · obtain ⟨b, o, f, A', c', rfl, hbl, hkf, c0, c1, c2', c3, hr⟩ := h.at_ hlt
          obtain ⟨b', o', d, A3, c3', rfl, hbl', hkd, g0, g1, g2, g3, hr'⟩ := hd.at_ (k := k) (by have := H0.out; omega)
          obtain ⟨hts1, hts2, hts3⟩ := ht.at_ hkd
          have hfs := fdsSize_get fs k f hkf
          have d0 := (bcell hb hbl).trans c0
          have d1 := (bcell hb hbl).trans c1
          have d2 := (bcell hb hbl).trans c2'
          have d3 := (bcell hb hbl).trans c3
          have hne := fun (j : Nat) => World.cell?_alloc_lt wr (.cells #[.string f.name, .int .i64 f.way, .int .i64 f.kind, .slice A' f.kids.length c'] 41) ⟨b', j, none⟩ (Nat.lt_of_lt_of_le hbl' hb.size)
          have q0 := (hne _).trans ((bcell hb hbl').trans g0)
          have q1 := (hne _).trans ((bcell hb hbl').trans g1)
          have q2 := (hne _).trans ((bcell hb hbl').trans g2)
          have q3 := (hne _).trans ((bcell hb hbl').trans g3)
          have Hkf := Lib.hid hkf
          have Hkd := Lib.hid hkd
          have HT := Lib.hid hts3
          have hk0 : (0 : Int) ≤ (k : Int) := Int.natCast_nonneg _
          have hk1 : (k : Int) < (n2 : Int) := by have := H0.out; omega
          have hk2 : k < n2 := by have := H0.out; omega
          clear c0 c1 c2' c3 hkf g0 g1 g2 g3 hkd hts3 hne
          go_wp2_with fail
          refine still_tail 5 (by kernel_rfl) (by kernel_rfl) ?_
          simp only [List.take_succ_cons, List.take_zero, List.drop_succ_cons, List.drop_zero]
          repeat still_step
          refine wpStill_nil ?_
          have hb2 : Below w.heap.size w (World.drew (wr.alloc (.cells #[.string f.name, .int .i64 f.way, .int .i64 f.kind, .slice A' f.kids.length c'] 41))) := (hb.alloc hb.size _).drew
          go_wp2_with fail
          refine (Hstep.out f d A' _ c' A3 _ c3' _ (by omega) (hr.mono hb2 (by have := hb.size; simp; omega)) (hr'.mono hb2 (by have := hb.size; simp; omega)) HT.out hts1 hts2).mono ?_
          rintro e w1 ⟨rfl, hb1⟩
          have hb3 : Below w.heap.size w w1 := hb2.trans (hb1.mono (by have := hb.size; simp; omega))
          cases hr2 : dataC f d with
          | none =>
            have hbad := Lib.hid (rowGo_bad Hkf.out Hkd.out Hgo.out (.inl hr2))
            clear hr2
            simp only [optInt]
            go_wp2_with fail
            go_ret
            exact ⟨ret_int (by rw [hbad.out]; rfl), hb3⟩
          | some m =>
            have hle := dataC_le _ _ _ hr2
            have hm0 : decide ((m : Int) < 0) = false := by simp
            simp only [optInt]
            by_cases hbig : 20000 < a + m
            · have hbad := Lib.hid (rowGo_bad Hkf.out Hkd.out Hgo.out (.inr ⟨m, hr2, hbig⟩))
              have e3 : decide ((20000 : Int) < (a : Int) + (m : Int)) = true := by simp; omega
              clear hr2 hbig
              go_wp2_with fail
              go_ret
              exact ⟨ret_int (by rw [hbad.out]; rfl), hb3⟩
            · have hgood := Lib.hid (rowGo_snoc Hkf.out Hkd.out Hgo.out hr2 hbig)
              have e3 : decide ((20000 : Int) < (a : Int) + (m : Int)) = false := by simp; omega
              have hbig' : a + m ≤ 20000 := by omega
              clear hr2 hbig
              go_wp2_with fail
              go_roundw
              case rel => exact ⟨k + 1, a + m, by omega, by go_num, by go_num, by omega, hgood.out, hb3⟩
              case measure => simp [intOf]; omega
        · obtain rfl : k = fs.length := by omega
          have hfin : rowGo fs ds 0 = some a := by
            have := Hgo.out
            rwa [List.take_of_length_le (Nat.le_refl _), List.take_of_length_le (by have := H0.out; have := H3.out; omega)] at this
          have HF := Lib.hid hfin
          clear hfin
          go_wp2_with fail
          go_ret
          exact ⟨ret_int (by rw [HF.out]; rfl), hb⟩
    · have HR : Hid (rowGo fs ds 0 = none) := by
        show _ = _
        cases hr : rowGo fs ds 0 with
        | none => rfl
        | some m => have := (rowGo_len _ _ _ _ hr).1; omega
      have e1 : ((fs.length : Int) != (n2 : Int)) = true := by simp; omega
      clear hn3 h0
      go_enter Tryz.func46, Tryz.ntmps46
      go_wp2_with fail
      go_ret
      exact ⟨ret_int (by rw [HR.out]; rfl), Below.refl _ _⟩

set_option maxHeartbeats 400000 in
/-- spec.IsRow tells what 'isRow' says. -/
theorem isRow_any (fs : List Fd) (ds : List Dt) (A : Option Addr) (n c : Nat) (A2 : Option Addr) (n2 c2 : Nat) (w : World) (hs : fdsSize fs ≤ 1000000000) (h : FdsAt w w.heap.size A n c fs) (hf : NamesFit fs)
    (hd : DtsAt w w.heap.size A2 n2 c2 ds) (ht : TextsFit ds) (hn2 : n2 ≤ 1000000000000) :
    Calls Tryz.prog 19 #[.slice A n c, .slice A2 n2 c2] w fun e w' => e = .returned (.bool (isRow fs ds)) ∧ Below w.heap.size w w' := by
  cases ha : areFields fs with
  | false =>
    have HI : Hid (isRow fs ds = false) := by show _ = _; simp [isRow, ha]
    have HA := Lib.hid ha
    clear ha
    go_enter Tryz.func19, Tryz.ntmps19
    go_wp2_with fail
    refine (areFields_any fs A n c w hs h hf).mono ?_
    rintro e w1 ⟨rfl, hb⟩
    rw [HA.out]
    go_wp2_with fail
    go_ret
    exact ⟨ret_bool HI.out.symm, hb⟩
  | true =>
    have HI : Hid (isRow fs ds = (rowGo fs ds 0).isSome) := by show _ = _; simp [isRow, ha]
    have HA := Lib.hid ha
    clear ha
    go_enter Tryz.func19, Tryz.ntmps19
    go_wp2_with fail
    refine (areFields_any fs A n c w hs h hf).mono ?_
    rintro e w1 ⟨rfl, hb⟩
    rw [HA.out]
    go_wp2_with fail
    refine (rowIn_all _ (Nat.le_refl _) fs ds A n c A2 n2 c2 w1 hs (h.mono hb hb.size) (hd.mono hb hb.size) ht hn2).mono ?_
    rintro e w2 ⟨rfl, hb1⟩
    have hb2 : Below w.heap.size w w2 := hb.trans (hb1.mono hb.size)
    cases hr : rowGo fs ds 0 with
    | none =>
      have HR := Lib.hid hr
      clear hr
      simp only [optInt]
      go_wp2_with fail
      go_ret
      exact ⟨ret_bool (by rw [HI.out, HR.out]; rfl), hb2⟩
    | some m =>
      have HR := Lib.hid hr
      have hm0 : decide ((0 : Int) ≤ (m : Int)) = true := by simp
      clear hr
      simp only [optInt]
      go_wp2_with fail
      go_ret
      exact ⟨ret_bool (by rw [HI.out, HR.out]; rfl), hb2⟩
end Go.Proofs.YtglgclkgppomiaaGreat
