/- The walks of spec.isName, spec.isKind, spec.fieldsIn and spec.AreFields. The walks of spec.fieldsIn and spec.AreFields: how many fields there are in some, or none if they are no fields of a group. -/
import Derived.Test.YtglgclkgppomiaaGreatZ02
import Derived.Deep.QuietTactic
import Derived.Deep.CutRange
import Derived.BigQuiet
set_option linter.unusedVariables false
set_option linter.unusedSimpArgs false
namespace Go.Proofs.YtglgclkgppomiaaGreat
open Go Go.RowKit

set_option maxHeartbeats 400000 in
theorem isKind_any (k : Int) (w : World) : Calls Tryz.prog 64 #[.int .i64 k] w fun e w' => e = .returned (.bool (isKd k)) ∧ w = w' := by
  unfold isKd
  by_cases h0 : 0 ≤ k
  · by_cases h6 : k ≤ 6
    · go_enter Tryz.func64, Tryz.ntmps64
      go_wp2_with fail
      go_ret
      exact ⟨ret_bool (by simp [h0, h6]; rfl), rfl⟩
    · go_enter Tryz.func64, Tryz.ntmps64
      go_wp2_with fail
      go_ret
      exact ⟨ret_bool (by simp; omega), rfl⟩
  · go_enter Tryz.func64, Tryz.ntmps64
    go_wp2_with fail
    go_ret
    exact ⟨ret_bool (by simp; omega), rfl⟩

set_option maxHeartbeats 400000 in
theorem isName_any (s : ByteArray) (w : World) (_hs : s.size ≤ 1000000000000) : Calls Tryz.prog 89 #[.string s] w fun e w' => e = .returned (.bool (isNm s)) ∧ w = w' := by
  go_enter Tryz.func89, Tryz.ntmps89
  go_wp2
  go_loop [6] (fun i => ∃ k : Nat, k ≤ s.size ∧ i = .int .i64 k ∧ (s.data.toList.take k).all (fun c => nmByte c.toNat) = true) (fun i => s.size - (intOf i).toNat)
  case atStart => exact ⟨0, Nat.zero_le _, rfl, by simp⟩
  case round =>
    obtain ⟨k, hk, rfl, hall⟩ := hrel
    have Hall := Lib.hid hall
    clear hall
    by_cases hlt : k < s.size
    · have hsn := Lib.hid (all_snoc s k hlt (fun c => nmByte c.toNat))
      have hc0 : (0 : Int) ≤ (s[k].toNat : Int) := Int.natCast_nonneg _
      have hpart : (97 ≤ (s[k].toNat : Int) ∧ (s[k].toNat : Int) ≤ 122) ∨ (48 ≤ (s[k].toNat : Int) ∧ (s[k].toNat : Int) ≤ 57) ∨ ((s[k].toNat : Int) < 48 ∨ (57 < (s[k].toNat : Int) ∧ (s[k].toNat : Int) < 97) ∨ 122 < (s[k].toNat : Int)) := by omega
      rcases hpart with ⟨g1, g2⟩ | ⟨g1, g2⟩ | g
      · go_wp2_with fail
        go_round
        case rel => exact ⟨k + 1, by omega, by go_num, by rw [hsn.out, Hall.out]; simp [nmByte, g1, g2]⟩
        case measure => simp [intOf]; omega
      · go_wp2_with fail
        go_round
        case rel => exact ⟨k + 1, by omega, by go_num, by rw [hsn.out, Hall.out]; simp [nmByte, g1, g2]⟩
        case measure => simp [intOf]; omega
      · have hbad := Lib.hid (isNm_bad s k hlt (by simp only [nmByte, Bool.or_eq_false_iff, Bool.and_eq_false_iff, decide_eq_false_iff_not]; omega))
        rcases g with g | ⟨g, g'⟩ | g
        · go_wp2_with fail
          go_ret
          exact ⟨ret_bool hbad.out.symm, rfl⟩
        all_goals
          have e1 : decide ((s[k].toNat : Int) ≤ 57) = false := by simp; omega
          go_wp2_with fail
          all_goals first
            | (go_ret; exact ⟨ret_bool hbad.out.symm, rfl⟩)
            | (exfalso; rename_i hz; simp only [decide_eq_true_eq, Bool.not_eq_eq_eq_not, Bool.not_false] at hz; omega)
    · obtain rfl : k = s.size := by omega
      have hfin := isNm_all s (by have := Hall.out; rwa [List.take_of_length_le (by simp)] at this)
      have ht := toList_empty s
      clear Hall hk hlt
      by_cases h0 : s.size = 0
      · have h1 : s.toList = [] := by simpa [h0] using ht
        have Hf := Lib.hid hfin
        clear hfin
        have H0 := Lib.hid h0
        clear h0
        clear ht
        go_wp2_with fail
        go_ret
        exact ⟨ret_bool (by rw [Hf.out]; simp [H0.out]), rfl⟩
      · have h1 : (!s.toList.isEmpty) = true := by simp [ht, h0]
        have h2 : ¬ s.toList = [] := by simpa [h0] using ht
        have Hf := Lib.hid hfin
        clear hfin
        have H0 := Lib.hid h0
        clear ht h0
        go_wp2_with fail
        go_ret
        refine ⟨ret_bool ?_, rfl⟩
        rw [Hf.out]
        have := H0.out
        rw [Bool.eq_iff_iff]
        simp
        omega
end Go.Proofs.YtglgclkgppomiaaGreat

namespace Go.Proofs.YtglgclkgppomiaaGreat
open Go Go.RowKit

theorem isName_quiet (s : ByteArray) (w : World) (n : Nat) (b : Bool) (hb : isNm s = b) (hs : s.size ≤ 1000000000000) : Calls Tryz.prog 89 #[.string s] (w.drewN n) fun e w'' => e = .returned (.bool b) ∧ ∃ m, w'' = w.drewN m :=
  (isName_any s _ hs).mono fun _ _ ⟨h1, h2⟩ => ⟨by rw [h1, hb], n, h2.symm⟩

def FsIn (N : Nat) : Prop := ∀ (fs : List Fd) (A : Option Addr) (n c : Nat) (d : Int) (w : World), fdsSize fs ≤ N → 0 ≤ d → d ≤ 1000000000000 - N → FdsAt w w.heap.size A n c fs → NamesFit fs →
      Calls Tryz.prog 56 #[.slice A n c, .int .i64 d] w fun e w' => e = .returned (.int .i64 (optInt (cntL none fs d))) ∧ Below w.heap.size w w'

set_option maxRecDepth 100000 in
set_option maxHeartbeats 4000000 in
theorem fieldsIn_all (N : Nat) : N ≤ 1000000000 → FsIn N := by
  induction N with
  | zero =>
    intro _ fs A n c d w hs hd0 hd1 h hsz
    have hl := fdsSize_length fs
    obtain ⟨hn, _⟩ := h.len
    obtain rfl : fs = [] := List.eq_nil_of_length_eq_zero (by omega)
    obtain rfl : n = 0 := by simpa using hn.symm
    clear h hl hn hs
    go_enter Tryz.func56, Tryz.ntmps56
    go_wp2_with fail
    go_loopw [5, 11] (fun m i wr => i = .int .i64 (0 : Nat) ∧ m = .int .i64 (0 : Nat) ∧ wr = w) (fun _ _ _ => 0)
    case atStart => exact ⟨rfl, rfl, rfl⟩
    case round =>
      obtain ⟨rfl, rfl, rfl⟩ := hrel
      go_wp2_with fail
      go_ret
      exact ⟨ret_int (by simp [cntL, optInt]), Below.refl _ _⟩
  | succ N ih =>
    intro hN fs A n c d w hs hd0 hd1 h hsz
    have IH := Lib.hid (ih (by omega))
    clear ih
    obtain ⟨hn, hc⟩ := h.len
    have hl := fdsSize_length fs
    subst hn
    have HSZ := Lib.hid hsz
    clear hsz
    go_enter Tryz.func56, Tryz.ntmps56
    go_wp2_with fail
    go_loopw [5, 11] (fun m i wr => ∃ k a : Nat, k ≤ fs.length ∧ i = .int .i64 k ∧ m = .int .i64 a ∧ a ≤ fdsSize fs ∧ cntL none (fs.take k) d = some a ∧ Below w.heap.size w wr) (fun _ i _ => fs.length - (intOf i).toNat)
    case atStart => exact ⟨0, 0, Nat.zero_le _, rfl, rfl, Nat.zero_le _, by simp [cntL], Below.refl _ _⟩
    case round =>
      obtain ⟨k, a, hk, rfl, rfl, ha, hcnt, hb⟩ := hrel
      have Hcnt := Lib.hid hcnt
      clear hcnt
      by_cases hlt : k < fs.length
      · obtain ⟨b, o, f, A', c', rfl, hbl, hkf, c0, c1, c2, c3, hr⟩ := h.at_ hlt
        have hfs := fdsSize_get fs k f hkf
        have hkids := fdSize_kids f
        have hnmz : f.name.size ≤ 1000000000000 := (HSZ.out.at_ hkf).1
        have hkidz := Lib.hid (HSZ.out.at_ hkf).2
        have d0 := (bcell hb hbl).trans c0
        have d1 := (bcell hb hbl).trans c1
        have d2 := (bcell hb hbl).trans c2
        have d3 := (bcell hb hbl).trans c3
        have Hkf := Lib.hid hkf
        clear c0 c1 c2 c3 hkf
        go_upto_region 5 with (fail)
        go_cut [48] from 16 to 48 (fun r w' => ∃ bad : Bool, r = .bool bad ∧ Hid (bad = !okHead (lastNm none (fs.take k)) f d) ∧ ∃ q, w' = (wr.alloc (.cells #[.string f.name, .int .i64 f.way, .int .i64 f.kind, .slice A' f.kids.length c'] 41)).drewN q)
        case first =>
          by_cases g1 : isNm f.name = true
          · have G1 := Lib.hid g1
            rcases Nat.eq_zero_or_pos k with hk0 | hk0
            · have hlast : lastNm none (fs.take k) = none := by rw [hk0]; rfl
              have hok : okHead (lastNm none (fs.take k)) f d = (decide (0 ≤ f.way) && decide (f.way ≤ 2) && decide (d ≤ 60)) := by simp [okHead, hlast, g1]
              have e0 : decide (0 < k) = false := by simp; omega
              clear g1 hlast hk0
              rcases (by omega : f.way < 0 ∨ (0 ≤ f.way ∧ 2 < f.way) ∨ (0 ≤ f.way ∧ f.way ≤ 2 ∧ 60 < d) ∨ (0 ≤ f.way ∧ f.way ≤ 2 ∧ d ≤ 60)) with g2 | ⟨g2, g3⟩ | ⟨g2, g3, g4⟩ | ⟨g2, g3, g4⟩
              · have G2 : (decide (0 ≤ f.way) && decide (f.way ≤ 2) && decide (d ≤ 60)) = false := by simp; omega
                have HOK := Lib.hid (hok.trans G2)
                have e2 : decide (f.way < 0) = true := by simp; omega
                clear g2 G2 hok
                go_quiet ((go_at_call 89; exact isName_quiet _ _ _ _ G1.out hnmz))
                go_wp2_with fail
                go_meet
                case rel => exact ⟨_, rfl, by show _ = _; rw [HOK.out]; rfl, _, rfl⟩
              · have G2 : (decide (0 ≤ f.way) && decide (f.way ≤ 2) && decide (d ≤ 60)) = false := by simp; omega
                have HOK := Lib.hid (hok.trans G2)
                have e2 : decide (f.way < 0) = false := by simp; omega
                have e3 : decide (2 < f.way) = true := by simp; omega
                clear g2 g3 G2 hok
                go_quiet ((go_at_call 89; exact isName_quiet _ _ _ _ G1.out hnmz))
                go_wp2_with fail
                go_meet
                case rel => exact ⟨_, rfl, by show _ = _; rw [HOK.out]; rfl, _, rfl⟩
              · have G2 : (decide (0 ≤ f.way) && decide (f.way ≤ 2) && decide (d ≤ 60)) = false := by simp; omega
                have HOK := Lib.hid (hok.trans G2)
                have e2 : decide (f.way < 0) = false := by simp; omega
                have e3 : decide (2 < f.way) = false := by simp; omega
                have e4 : decide (60 < d) = true := by simp; omega
                clear g2 g3 g4 G2 hok
                go_quiet ((go_at_call 89; exact isName_quiet _ _ _ _ G1.out hnmz))
                go_wp2_with fail
                go_meet
                case rel => exact ⟨_, rfl, by show _ = _; rw [HOK.out]; rfl, _, rfl⟩
              · have G2 : (decide (0 ≤ f.way) && decide (f.way ≤ 2) && decide (d ≤ 60)) = true := by simp; omega
                have HOK := Lib.hid (hok.trans G2)
                have e2 : decide (f.way < 0) = false := by simp; omega
                have e3 : decide (2 < f.way) = false := by simp; omega
                have e4 : decide (60 < d) = false := by simp; omega
                clear g2 g3 g4 G2 hok
                go_quiet ((go_at_call 89; exact isName_quiet _ _ _ _ G1.out hnmz))
                go_wp2_with fail
                go_meet
                case rel => exact ⟨_, rfl, by show _ = _; rw [HOK.out]; rfl, _, rfl⟩
            · obtain ⟨b2, o2, p, A2, c2', hA2, _, hkp, p0, _, _, _, _⟩ := h.at_ (k := k - 1) (by omega)
              injection hA2 with hA2
              injection hA2 with hb2 ho2
              subst hb2 ho2
              have q0 : wr.cell? ⟨b, o + (k - 1) * 4, none⟩ = some (.string p.name) := (bcell hb hbl).trans p0
              have q1 : (wr.alloc (.cells #[.string f.name, .int .i64 f.way, .int .i64 f.kind, .slice A' f.kids.length c'] 41)).cell? ⟨b, o + (k - 1) * 4, none⟩ = some (.string p.name) :=
                (World.cell?_alloc_lt wr _ _ (Nat.lt_of_lt_of_le hbl hb.size)).trans q0
              have hlast : lastNm none (fs.take k) = some p.name := by
                rw [lastNm_take fs k (by omega), dif_pos (by omega), (List.getElem?_eq_some_iff.1 hkp).2]
              have hj0 : (0 : Int) ≤ (k : Int) - 1 := by omega
              have hj1 : (k : Int) - 1 < (fs.length : Int) := by omega
              have hj2 : (1 : Int) ≤ (k : Int) := by omega
              have hj3 : 1 ≤ k := by omega
              have hj4 : (k : Int) < (fs.length : Int) + 1 := by omega
              have hj5 : k < fs.length + 1 := by omega
              have e0 : decide (0 < k) = true := by simp; omega
              clear p0 hkp hk0
              by_cases g5 : Op.bytesLess p.name.toList f.name.toList = true
              · have hok : okHead (lastNm none (fs.take k)) f d = (decide (0 ≤ f.way) && decide (f.way ≤ 2) && decide (d ≤ 60)) := by simp [okHead, hlast, g1, g5]
                clear g1 hlast
                rcases (by omega : f.way < 0 ∨ (0 ≤ f.way ∧ 2 < f.way) ∨ (0 ≤ f.way ∧ f.way ≤ 2 ∧ 60 < d) ∨ (0 ≤ f.way ∧ f.way ≤ 2 ∧ d ≤ 60)) with g2 | ⟨g2, g3⟩ | ⟨g2, g3, g4⟩ | ⟨g2, g3, g4⟩
                · have G2 : (decide (0 ≤ f.way) && decide (f.way ≤ 2) && decide (d ≤ 60)) = false := by simp; omega
                  have HOK := Lib.hid (hok.trans G2)
                  have e2 : decide (f.way < 0) = true := by simp; omega
                  clear g2 G2 hok
                  have w1 : IntKind.i64.wrap ((k : Int) - 1) = (k : Int) - 1 := IntWalk.i64_in _ (by omega)
                  have w2 : ((k : Int) - 1).toNat = k - 1 := by omega
                  go_quiet ((go_at_call 89; exact isName_quiet _ _ _ _ G1.out hnmz))
                  go_wp2_with fail
                  go_meet
                  case rel => exact ⟨_, rfl, by show _ = _; rw [HOK.out]; rfl, _, rfl⟩
                · have G2 : (decide (0 ≤ f.way) && decide (f.way ≤ 2) && decide (d ≤ 60)) = false := by simp; omega
                  have HOK := Lib.hid (hok.trans G2)
                  have e2 : decide (f.way < 0) = false := by simp; omega
                  have e3 : decide (2 < f.way) = true := by simp; omega
                  clear g2 g3 G2 hok
                  have w1 : IntKind.i64.wrap ((k : Int) - 1) = (k : Int) - 1 := IntWalk.i64_in _ (by omega)
                  have w2 : ((k : Int) - 1).toNat = k - 1 := by omega
                  go_quiet ((go_at_call 89; exact isName_quiet _ _ _ _ G1.out hnmz))
                  go_wp2_with fail
                  go_meet
                  case rel => exact ⟨_, rfl, by show _ = _; rw [HOK.out]; rfl, _, rfl⟩
                · have G2 : (decide (0 ≤ f.way) && decide (f.way ≤ 2) && decide (d ≤ 60)) = false := by simp; omega
                  have HOK := Lib.hid (hok.trans G2)
                  have e2 : decide (f.way < 0) = false := by simp; omega
                  have e3 : decide (2 < f.way) = false := by simp; omega
                  have e4 : decide (60 < d) = true := by simp; omega
                  clear g2 g3 g4 G2 hok
                  have w1 : IntKind.i64.wrap ((k : Int) - 1) = (k : Int) - 1 := IntWalk.i64_in _ (by omega)
                  have w2 : ((k : Int) - 1).toNat = k - 1 := by omega
                  go_quiet ((go_at_call 89; exact isName_quiet _ _ _ _ G1.out hnmz))
                  go_wp2_with fail
                  go_meet
                  case rel => exact ⟨_, rfl, by show _ = _; rw [HOK.out]; rfl, _, rfl⟩
                · have G2 : (decide (0 ≤ f.way) && decide (f.way ≤ 2) && decide (d ≤ 60)) = true := by simp; omega
                  have HOK := Lib.hid (hok.trans G2)
                  have e2 : decide (f.way < 0) = false := by simp; omega
                  have e3 : decide (2 < f.way) = false := by simp; omega
                  have e4 : decide (60 < d) = false := by simp; omega
                  clear g2 g3 g4 G2 hok
                  have w1 : IntKind.i64.wrap ((k : Int) - 1) = (k : Int) - 1 := IntWalk.i64_in _ (by omega)
                  have w2 : ((k : Int) - 1).toNat = k - 1 := by omega
                  go_quiet ((go_at_call 89; exact isName_quiet _ _ _ _ G1.out hnmz))
                  go_wp2_with fail
                  go_meet
                  case rel => exact ⟨_, rfl, by show _ = _; rw [HOK.out]; rfl, _, rfl⟩
              · have g6 : Op.bytesLess p.name.toList f.name.toList = false := by simpa using g5
                have HOK : Hid (okHead (lastNm none (fs.take k)) f d = false) := by show _ = _; simp [okHead, hlast, g6]
                clear g1 hlast g5
                have w1 : IntKind.i64.wrap ((k : Int) - 1) = (k : Int) - 1 := IntWalk.i64_in _ (by omega)
                have w2 : ((k : Int) - 1).toNat = k - 1 := by omega
                go_quiet ((go_at_call 89; exact isName_quiet _ _ _ _ G1.out hnmz))
                go_wp2_with fail
                go_meet
                case rel => exact ⟨_, rfl, by show _ = _; rw [HOK.out]; rfl, _, rfl⟩
          · have g1' : isNm f.name = false := by simpa using g1
            have G1 := Lib.hid g1'
            have HOK : Hid (okHead (lastNm none (fs.take k)) f d = false) := by show _ = _; simp [okHead, g1']
            clear g1 g1'
            go_quiet ((go_at_call 89; exact isName_quiet _ _ _ _ G1.out hnmz))
            go_wp2_with fail
            go_meet
            case rel => exact ⟨_, rfl, by show _ = _; rw [HOK.out]; rfl, _, rfl⟩
        case rest =>
          obtain ⟨bad, rfl, HB, q, rfl⟩ := hcut
          have hb2 : Below w.heap.size w ((wr.alloc (.cells #[.string f.name, .int .i64 f.way, .int .i64 f.kind, .slice A' f.kids.length c'] 41)).drewN q) := by
            have := hb.alloc hb.size (.cells #[.string f.name, .int .i64 f.way, .int .i64 f.kind, .slice A' f.kids.length c'] 41)
            exact ⟨this.os, this.tape, this.output, this.size, this.block⟩
          have hsz2 := hb.size
          cases bad with
          | false =>
            have G : Hid (okHead (lastNm none (fs.take k)) f d = true) := by
              have := HB.out
              show _ = _
              cases hx : okHead (lastNm none (fs.take k)) f d <;> simp [hx] at this ⊢
            clear HB
            by_cases hkd : f.kids = []
            · have hz : ((f.kids.length : Int) == 0) = true := by simp [hkd]
              have hcf := Lib.hid (cntF_leaf hkd d)
              clear hkd
              by_cases g7 : isKd f.kind = true
              · have hgood := Lib.hid (cntL_good Hkf.out Hcnt.out G.out (by rw [hcf.out, if_pos g7]))
                have hle := cntL_le _ _ _ _ hgood.out
                have hle2 := fdsSize_take fs (k + 1)
                have g7' := g7
                have G7 := Lib.hid g7
                clear g7 g7'
                go_wp2_with (go_at_call 64; refine (isKind_any _ _).mono ?_; rintro e w1 ⟨rfl, rfl⟩; rw [G7.out])
                go_roundw
                case rel => exact ⟨k + 1, a + 1, by omega, by go_num, by go_num, by omega, hgood.out, hb2⟩
                case measure => simp [intOf]; omega
              · have g7' : isKd f.kind = false := by simpa using g7
                have G7 := Lib.hid g7'
                have hbad := Lib.hid (cntL_bad Hkf.out (.inr (by rw [hcf.out, if_neg g7])))
                clear g7 g7'
                go_wp2_with (go_at_call 64; refine (isKind_any _ _).mono ?_; rintro e w1 ⟨rfl, rfl⟩; rw [G7.out])
                go_ret
                exact ⟨ret_int (by rw [hbad.out]; rfl), hb2⟩
            · have hz : ((f.kids.length : Int) == 0) = false := by simp [hkd]
              have hcf := Lib.hid (cntF_group hkd d)
              clear hkd
              have hdd : d ≤ 60 := by
                have := G.out
                simp only [okHead, Bool.and_eq_true, decide_eq_true_eq] at this
                exact this.2
              have hbox : f.kids.length = f.kids.length := rfl
              clear hbox
              go_wp2_with fail
              refine (IH.out f.kids A' _ c' _ _ (by omega) (by omega) (by omega) (hr.mono hb2 (by have := hb2.size; simpa using this)) hkidz.out).mono ?_
              rintro e w1 ⟨rfl, hb1⟩
              have hb3 : Below w.heap.size w w1 := hb2.trans (hb1.mono (by have := hb2.size; simpa using this))
              have hbx0 : w1.cell? ⟨wr.heap.size, 2, none⟩ = some (.int .i64 f.kind) := (bcell hb1 (by simp)).trans (by simp)
              cases hck : cntL none f.kids (d + 1) with
              | none =>
                have hbad := Lib.hid (cntL_bad Hkf.out (.inr (by rw [hcf.out, hck])))
                clear hck
                simp only [optInt]
                go_wp2_with fail
                go_ret
                exact ⟨ret_int (by rw [hbad.out]; rfl), hb3⟩
              | some m =>
                have hm := cntL_le _ _ _ _ hck
                simp only [optInt]
                by_cases g8 : f.kind = 0
                · have hgood := Lib.hid (cntL_good Hkf.out Hcnt.out G.out (by rw [hcf.out, hck]; simp only []; rw [if_pos g8]))
                  have hle := cntL_le _ _ _ _ hgood.out
                  have hle2 := fdsSize_take fs (k + 1)
                  have g9 : (f.kind != 0) = false := by simp [g8]
                  have hm0 : decide ((m : Int) < 0) = false := by simp
                  clear hck g8
                  go_wp2_with fail
                  go_roundw
                  case rel => exact ⟨k + 1, a + (1 + m), by omega, by go_num, by go_num, by omega, hgood.out, hb3⟩
                  case measure => simp [intOf]; omega
                · have hbad := Lib.hid (cntL_bad Hkf.out (.inr (by rw [hcf.out, hck]; simp only []; rw [if_neg g8])))
                  have g9 : (f.kind != 0) = true := by simp [g8]
                  clear hck g8
                  go_wp2_with fail
                  go_ret
                  exact ⟨ret_int (by rw [hbad.out]; rfl), hb3⟩
          | true =>
            have hbad : Hid (cntL none fs d = none) := by
              have := HB.out
              refine cntL_bad Hkf.out (.inl ?_)
              cases hx : okHead (lastNm none (fs.take k)) f d <;> simp [hx] at this ⊢
            clear HB
            go_wp2_with fail
            go_ret
            exact ⟨ret_int (by rw [hbad.out]; rfl), hb2⟩
      · obtain rfl : k = fs.length := by omega
        have hfin : cntL none fs d = some a := by have := Hcnt.out; rwa [List.take_of_length_le (Nat.le_refl _)] at this
        have HF := Lib.hid hfin
        clear hfin
        go_wp2_with fail
        go_ret
        exact ⟨ret_int (by rw [HF.out]; rfl), hb⟩

set_option maxHeartbeats 400000 in
/-- spec.AreFields tells what 'areFields' says. -/
theorem areFields_any (fs : List Fd) (A : Option Addr) (n c : Nat) (w : World) (hs : fdsSize fs ≤ 1000000000) (h : FdsAt w w.heap.size A n c fs) (hf : NamesFit fs) :
    Calls Tryz.prog 30 #[.slice A n c] w fun e w' => e = .returned (.bool (areFields fs)) ∧ Below w.heap.size w w' := by
  have hle : ∀ m, cntL none fs 0 = some m → m ≤ fdsSize fs := fun m hm => cntL_le _ _ _ _ hm
  unfold areFields
  generalize hx : optInt (cntL none fs 0) = x
  have hx1 : x ≤ 1000000000 := by
    cases hc : cntL none fs 0 with
    | none => rw [hc] at hx; simp only [optInt] at hx; omega
    | some m => rw [hc] at hx; simp only [optInt] at hx; have := hle m hc; omega
  have HX := Lib.hid hx
  clear hx hle
  go_enter Tryz.func30, Tryz.ntmps30
  go_wp2_with fail
  refine (fieldsIn_all _ (Nat.le_refl _) fs A n c 0 w hs (by omega) (by omega) h hf).mono ?_
  rintro e w1 ⟨rfl, hb⟩
  rw [HX.out]
  by_cases h1 : 1 ≤ x
  · go_wp2_with fail
    go_ret
    exact ⟨ret_bool (by simp [h1]), hb⟩
  · go_wp2_with fail
    go_ret
    exact ⟨ret_bool (by simp; omega), hb⟩
end Go.Proofs.YtglgclkgppomiaaGreat
