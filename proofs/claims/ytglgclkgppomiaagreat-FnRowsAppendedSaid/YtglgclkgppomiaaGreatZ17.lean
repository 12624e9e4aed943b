/- What the closures that take a row apart do: by induction. The walk of NewSchema. The walk of Schema.Deconstruct. -/
import Derived.Test.YtglgclkgppomiaaGreatZ10
import Derived.Test.YtglgclkgppomiaaGreatZ13
set_option linter.unusedVariables false
set_option linter.unusedSimpArgs false
namespace Go.Proofs.YtglgclkgppomiaaGreat
open Go Go.RowKit

theorem func_inj {f g : FuncId} {c d : Array Value} (h : Value.func (.func f) #[] c = .func (.func g) #[] d) : f = g ∧ c = d := by
  injection h with h1 _ h3
  injection h1 with h1
  exact ⟨h1, h3⟩

theorem IsDec.enters {w : World} {lo B : Nat} {v : Value} {col : Nat} {o r : Bool} {k : Int} {kids : List Fd} (h : IsDec w lo B v col o r k kids) : ∀ f cap, v = .func (.func f) #[] cap → Enters f := by
  intro f cap hv
  cases h with
  | opt => obtain ⟨rfl, _⟩ := func_inj hv; exact ent136
  | rep => obtain ⟨rfl, _⟩ := func_inj hv; exact ent139
  | leaf => obtain ⟨rfl, _⟩ := func_inj hv; exact ent153
  | grp => obtain ⟨rfl, _⟩ := func_inj hv; exact ent155
/-- Nothing is taken apart: one cell without a value in each column. -/
def RunsNone (w : World) (B cb n : Nat) (f : FuncId) (cap : Array Value) (col m : Nat) : Prop :=
  ∀ (W : World) (log : List Cl) (K : Nat → Prop) (rd rl dl : Nat), Below B w W → B ≤ W.heap.size → (∀ g, K g → g < W.heap.size) → ColsK W B cb n log K → log.length + m ≤ 1000000000 →
    Calls Tryz.prog f (decArgs cb n rd rl dl noTree ++ cap) W (Took B cb n (log ++ nonesOf m col rl dl) K W)

theorem dec_none {w : World} {lo B : Nat} {v : Value} {col : Nat} {o r : Bool} {k : Int} {kids : List Fd} (h : IsDec w lo B v col o r k kids) (cb n : Nat) (hn : n ≤ 65535) (hlen : kids.length ≤ 1000000) (hbig : ∀ f, f ∈ kids → True) :
    col + nodeLeaves kids ≤ n → fdsSize kids ≤ 1000000 → ∀ f cap, v = .func (.func f) #[] cap → Enters f ∧ RunsNone w B cb n f cap col (nodeLeaves kids) := by
  clear hlen hbig
  induction h with
  | opt a col f cap r k kids hlo hb hc h ih =>
    intro hcol hsz f' cap' hv
    obtain ⟨rfl, rfl⟩ := func_inj hv
    obtain ⟨he, hr⟩ := ih hcol hsz f cap rfl
    refine ⟨ent136, fun W log K rd rl dl hbW hBW hK hcols hl => ?_⟩
    exact opt136_none B cb n a rd rl dl f cap _ K W hK he ((bcell hbW hb).trans hc) (by omega) hBW (fun W' hb' => hr W' log K rd rl dl (hbW.trans (hb'.mono hBW)) (Nat.le_trans hBW hb'.size) (fun g hg => Nat.lt_of_lt_of_le (hK g hg) hb'.size) (hcols.keep hb') hl)
  | rep a col f cap k kids hlo hb hc h ih =>
    intro hcol hsz f' cap' hv
    obtain ⟨rfl, rfl⟩ := func_inj hv
    obtain ⟨he, hr⟩ := ih hcol hsz f cap rfl
    refine ⟨ent139, fun W log K rd rl dl hbW hBW hK hcols hl => ?_⟩
    exact rep139_none B cb n a rd rl dl f cap _ K W hK he ((bcell hbW hb).trans hc) (by omega) hBW (fun W' hb' => hr W' log K rd rl dl (hbW.trans (hb'.mono hBW)) (Nat.le_trans hBW hb'.size) (fun g hg => Nat.lt_of_lt_of_le (hK g hg) hb'.size) (hcols.keep hb') hl)
  | leaf a1 a2 a3 col k h1 h2 h3 hc1 hc2 hc3 =>
    intro hcol hsz f' cap' hv
    obtain ⟨rfl, rfl⟩ := func_inj hv
    have hnl : nodeLeaves [] = 1 := rfl
    rw [hnl] at hcol ⊢
    refine ⟨ent153, fun W log K rd rl dl hbW hBW hK hcols hl => ?_⟩
    exact leaf153_none B cb n a1 a2 a3 col rd rl dl k log K W hK hcols (by omega) (by omega) hn hBW h1.2 h2.2 h3.2 ((bcell hbW h1.2).trans hc1) ((bcell hbW h2.2).trans hc2) ((bcell hbW h3.2).trans hc3)
  | grp a fb col m kids F C hne hlo hfb hm hc hk hr ih =>
    intro hcol hsz f' cap' hv
    obtain ⟨rfl, rfl⟩ := func_inj hv
    have hnl : nodeLeaves kids = leaves kids := by unfold nodeLeaves; rw [if_neg hne]
    rw [hnl] at hcol ⊢
    have hkid : ∀ i, i < m → Enters (F i) ∧ RunsNone _ B cb n (F i) (C i) (col + leaves (kids.take i)) (leavesOf (fdAt kids i)) := fun i hi => by
      have hg : kids[i]? = some (kids[i]'(by omega)) := List.getElem?_eq_getElem _
      have h1 := leaves_snoc kids i _ hg
      have h2 : leaves (kids.take (i + 1)) ≤ leaves kids := by
        have := leaves_append (kids.take (i + 1)) (kids.drop (i + 1))
        rw [List.take_append_drop] at this
        omega
      have h3 := fdsSize_get kids i _ hg
      have h4 := fdSize_kids (kids[i]'(by omega))
      rw [fdAt_some hg, leavesOf_eq]
      exact ih i _ hg (by rw [← leavesOf_eq]; omega) (by omega) (F i) (C i) rfl
    refine ⟨ent155, fun W log K rd rl dl hbW hBW hK hcols hl => ?_⟩
    have hfull := nones_parts kids col rl dl kids.length (Nat.le_refl _)
    rw [List.take_length] at hfull
    rw [← hfull, hm]
    have hmk := fdsSize_length kids
    refine grp155_none B cb n a fb rd rl dl m _ F C log K W hK (fun i hi => (hkid i hi).1) ((bcell hbW hlo.2).trans hc) (fun i hi => (bcell hbW hfb.2).trans (hk i _ (List.getElem?_eq_getElem (by omega)))) hlo.2 hfb.2 hBW hcols (by omega) ?_
    intro W' j K' hj hb' hB' hK' hcols'
    rw [parts_succ, ← List.append_assoc]
    refine (hkid j hj).2 W' _ K' rd rl dl (hbW.trans hb') hB' hK' hcols' ?_
    have hple := parts_length_le (fun j => nonesOf (leavesOf (fdAt kids j)) (col + leaves (kids.take j)) rl dl) (show j + 1 ≤ m from hj)
    rw [parts_succ, List.length_append, nonesOf_length, ← hm, hfull, nonesOf_length] at hple
    rw [List.length_append]
    omega

/-- What a field has is taken apart. -/
def RunsSome (w : World) (B cb n : Nat) (f : FuncId) (cap : Array Value) (col : Nat) (o r : Bool) (k : Int) (kids : List Fd) (dp : Int) : Prop :=
  ∀ (W : World) (log : List Cl) (K : Nat → Prop) (rd rl dl : Nat) (d : Dt) (D : Option Addr) (dn dc : Nat) (u : Int) (A : Option Addr) (c : Nat), Below B w W → B ≤ W.heap.size → (∀ g, K g → g < W.heap.size) → ColsK W B cb n log K →
    TrAt W 0 B (trField (wayOf o r) (fun d => trOnce (bareFd k kids) d) d) D dn dc u A c → (rd : Int) + (if o || r then 1 else 0) ≤ dp → (dl : Int) + (if o || r then 1 else 0) ≤ dp →
    (log ++ shField (wayOf o r) (nodeLeaves kids) (fun d col dep rep de => shOnce (bareFd k kids) d col dep rep de) d col rd rl dl).length ≤ 1000000000 → dtSize d ≤ 1000000000 →
    Calls Tryz.prog f (decArgs cb n rd rl dl (trVal (trField (wayOf o r) (fun d => trOnce (bareFd k kids) d) d).k D dn dc u (kdOf ((trField (wayOf o r) (fun d => trOnce (bareFd k kids) d) d).k != 2) (trField (wayOf o r) (fun d => trOnce (bareFd k kids) d) d).lk) A (trField (wayOf o r) (fun d => trOnce (bareFd k kids) d) d).items.length c) ++ cap) W
      (Took B cb n (log ++ shField (wayOf o r) (nodeLeaves kids) (fun d col dep rep de => shOnce (bareFd k kids) d col dep rep de) d col rd rl dl) K W)

theorem dtSize_head (l : List Dt) (j : Nat) : dtSize (headDt (l.drop j)) ≤ 1 + dtsSize l := by
  cases h : l.drop j with
  | nil => simp [headDt, dtSize, dtsSize]
  | cons d r =>
    have h2 : l[j]? = some d := by
      have := List.head?_drop (l := l) (i := j)
      rw [h] at this
      simpa using this.symm
    have := dtsSize_get l j d h2
    simp only [headDt]
    omega
theorem dec_some {w : World} {lo B : Nat} {v : Value} {col : Nat} {o r : Bool} {k : Int} {kids : List Fd} (h : IsDec w lo B v col o r k kids) (cb n : Nat) (hn : n ≤ 65535) :
    ∀ dp : Int, dp ≤ 61 → OkN kids k dp → col + nodeLeaves kids ≤ n → fdsSize kids ≤ 1000000 → ∀ f cap, v = .func (.func f) #[] cap → RunsSome w B cb n f cap col o r k kids dp := by
  induction h with
  | opt a col f cap r k kids hlo hb hc h ih =>
    intro dp hdp hok hcol hsz f' cap' hv
    obtain ⟨rfl, rfl⟩ := func_inj hv
    have hs := ih dp hdp hok hcol hsz f cap rfl
    obtain ⟨he, hnn⟩ := dec_none h cb n hn (by have := fdsSize_length kids; omega) (fun _ _ => trivial) hcol hsz f cap rfl
    intro W log K rd rl dl d D dn dc u A c hbW hBW hK hcols htr hrd hdl hlen hds
    simp only [Bool.true_or, if_true] at hrd hdl
    by_cases hd : d.none = true
    · have e1 : trField (wayOf true r) (fun d => trOnce (bareFd k kids) d) d = .mk 1 0 0 .empty [] := by simp [trField, wayOf, hd]
      have e2 : shField (wayOf true r) (nodeLeaves kids) (fun d col dep rep de => shOnce (bareFd k kids) d col dep rep de) d col rd rl dl = nonesOf (nodeLeaves kids) col rl dl := by simp [shField, wayOf, hd]
      rw [e1, e2]
      rw [e2, List.length_append, nonesOf_length] at hlen
      exact opt136_null B cb n a rd rl dl D dn dc u _ A 0 c f cap _ K W hK he ((bcell hbW hb).trans hc) (by omega) hBW (fun W' hb' => hnn W' log K rd rl dl (hbW.trans (hb'.mono hBW)) (Nat.le_trans hBW hb'.size) (fun g hg => Nat.lt_of_lt_of_le (hK g hg) hb'.size) (hcols.keep hb') hlen)
    · have hd' : d.none = false := by simpa using hd
      have e1 : trField (wayOf true r) (fun d => trOnce (bareFd k kids) d) d = trOnce (bareFd k kids) d := by simp [trField, wayOf, hd']
      have e2 : shField (wayOf true r) (nodeLeaves kids) (fun d col dep rep de => shOnce (bareFd k kids) d col dep rep de) d col rd rl dl = shOnce (bareFd k kids) d col rd rl (dl + 1) := by simp [shField, wayOf, hd']
      have e3 : trField (wayOf false false) (fun d => trOnce (bareFd k kids) d) d = trOnce (bareFd k kids) d := by simp [trField, wayOf]
      have e4 : shField (wayOf false false) (nodeLeaves kids) (fun d col dep rep de => shOnce (bareFd k kids) d col dep rep de) d col rd rl (dl + 1) = shOnce (bareFd k kids) d col rd rl (dl + 1) := by simp [shField, wayOf]
      rw [e1, e2]
      rw [e1] at htr
      rw [e2] at hlen
      refine opt136_some B cb n a rd rl dl _ (trOnce_k k kids d) D dn dc u _ A _ c (by omega) f cap _ K W hK he ((bcell hbW hb).trans hc) (by omega) hBW (fun W' hb' => ?_)
      have := hs W' log K rd rl (dl + 1) d D dn dc u A c (hbW.trans (hb'.mono hBW)) (Nat.le_trans hBW hb'.size) (fun g hg => Nat.lt_of_lt_of_le (hK g hg) hb'.size) (hcols.keep hb') (by rw [e3]; exact htr.mono (hb'.mono hBW) (Nat.le_refl _)) (by simp; omega) (by simp; omega) (by rw [e4]; exact hlen) hds
      rw [e3, e4] at this
      exact this
  | rep a col f cap k kids hlo hb hc h ih =>
    intro dp hdp hok hcol hsz f' cap' hv
    obtain ⟨rfl, rfl⟩ := func_inj hv
    have hs := ih dp hdp hok hcol hsz f cap rfl
    obtain ⟨he, hnn⟩ := dec_none h cb n hn (by have := fdsSize_length kids; omega) (fun _ _ => trivial) hcol hsz f cap rfl
    intro W log K rd rl dl d D dn dc u A c hbW hBW hK hcols htr hrd hdl hlen hds
    simp only [Bool.or_true, if_true] at hrd hdl
    have e1 : trField (wayOf false true) (fun d => trOnce (bareFd k kids) d) d = .mk 3 0 0 .empty (d.items.map fun d => trOnce (bareFd k kids) d) := by simp [trField, wayOf]
    have hw : wayOf false true = 2 := rfl
    rw [e1]
    rw [e1] at htr
    rw [hw] at hlen ⊢
    by_cases hit : d.items = []
    · have e2 : shField 2 (nodeLeaves kids) (fun d col dep rep de => shOnce (bareFd k kids) d col dep rep de) d col rd rl dl = nonesOf (nodeLeaves kids) col rl dl := by simp [shField, hit]
      rw [e2]
      rw [e2, List.length_append, nonesOf_length] at hlen
      rw [hit]
      exact rep139_empty B cb n a rd rl dl D dn dc u _ A c f cap _ K W hK he ((bcell hbW hb).trans hc) (by omega) hBW (fun W' hb' => hnn W' log K rd rl dl (hbW.trans (hb'.mono hBW)) (Nat.le_trans hBW hb'.size) (fun g hg => Nat.lt_of_lt_of_le (hK g hg) hb'.size) (hcols.keep hb') hlen)
    · have hil : 0 < d.items.length := List.length_pos_iff.2 hit
      have hlm : (d.items.map fun d => trOnce (bareFd k kids) d).length = d.items.length := List.length_map _
      have hdm := dtSize_items d
      have hdl2 := dtsSize_length d.items
      rw [rep_parts _ _ _ hit] at hlen ⊢
      have htr2 := htr.2
      simp only [Tr.items] at htr2
      rw [hlm] at htr2
      have hlm2 : (Tr.mk 3 0 0 .empty (d.items.map fun d => trOnce (bareFd k kids) d)).items.length = d.items.length := hlm
      rw [hlm2]
      refine rep139_some B cb n a rd rl dl (by omega) (by omega) D dn dc u _ A d.items.length c hil (d.items.map fun d => trOnce (bareFd k kids) d) _ f cap log K W hK he ((bcell hbW hb).trans hc) hb hBW htr2 hcols (by omega) ?_
      intro W' j t D' dn' dc' u' A' c' K' ht hat hb' hB' hK' hcols'
      have hj : j < d.items.length := by have := (List.getElem?_eq_some_iff.1 ht).1; rw [hlm] at this; exact this
      have hg : d.items[j]? = some d.items[j] := List.getElem?_eq_getElem hj
      have hhd : headDt (d.items.drop j) = d.items[j] := by rw [List.drop_eq_getElem_cons hj]; rfl
      rw [List.getElem?_map, hg, Option.map_some] at ht
      injection ht with ht
      subst ht
      have e3 : trField (wayOf false false) (fun d => trOnce (bareFd k kids) d) d.items[j] = trOnce (bareFd k kids) d.items[j] := by simp [trField, wayOf]
      have e4 : shField (wayOf false false) (nodeLeaves kids) (fun d col dep rep de => shOnce (bareFd k kids) d col dep rep de) d.items[j] col (rd + 1) (repAt rl rd j) (dl + 1) = shOnce (bareFd k kids) d.items[j] col (rd + 1) (repAt rl rd j) (dl + 1) := by simp [shField, wayOf]
      have hle := parts_length_le (fun j => shOnce (bareFd k kids) (headDt (d.items.drop j)) col (rd + 1) (repAt rl rd j) (dl + 1)) (show j + 1 ≤ d.items.length from hj)
      rw [parts_succ, hhd] at hle ⊢
      rw [← List.append_assoc]
      have hsz2 := dtsSize_get d.items j _ hg
      have := hs W' (log ++ parts (fun j => shOnce (bareFd k kids) (headDt (d.items.drop j)) col (rd + 1) (repAt rl rd j) (dl + 1)) j) K' (rd + 1) (repAt rl rd j) (dl + 1) d.items[j] D' dn' dc' u' A' c' (hbW.trans hb') hB' hK' hcols' (by rw [e3]; exact hat) (by simp; omega) (by simp; omega)
        (by rw [e4]; simp only [List.length_append] at hlen hle ⊢; omega) (by omega)
      rw [e3, e4] at this
      exact this
  | leaf a1 a2 a3 col k h1 h2 h3 hc1 hc2 hc3 =>
    intro dp hdp hok hcol hsz f' cap' hv
    obtain ⟨rfl, rfl⟩ := func_inj hv
    have hnl : nodeLeaves [] = 1 := rfl
    rw [hnl] at hcol
    have hkd := hok.1 rfl
    have hk7 : 0 ≤ k ∧ k ≤ 7 := by simp [isKd] at hkd; omega
    intro W log K rd rl dl d D dn dc u A c hbW hBW hK hcols htr hrd hdl hlen hds
    have e1 : trField (wayOf false false) (fun d => trOnce (bareFd k []) d) d = .mk 2 k d.num d.text [] := by simp [trField, wayOf, trOnce]
    have e2 : shField (wayOf false false) (nodeLeaves []) (fun d col dep rep de => shOnce (bareFd k []) d col dep rep de) d col rd rl dl = [⟨col, rl, dl, false, k, d.num, d.text⟩] := by simp [shField, wayOf, shOnce]
    rw [e1, e2]
    rw [e1] at htr
    rw [e2, List.length_append] at hlen
    exact leaf153_some B cb n a1 a2 a3 col rd rl dl k hk7 d.num d.text D dn dc u A 0 c log K W htr.1 hK hcols (by omega) (by omega) hn hBW h1.2 h2.2 h3.2 ((bcell hbW h1.2).trans hc1) ((bcell hbW h2.2).trans hc2) ((bcell hbW h3.2).trans hc3)
  | grp a fb col m kids F C hne hlo hfb hm hc hk hr ih =>
    intro dp hdp hok hcol hsz f' cap' hv
    obtain ⟨rfl, rfl⟩ := func_inj hv
    have hnl : nodeLeaves kids = leaves kids := by unfold nodeLeaves; rw [if_neg hne]
    rw [hnl] at hcol
    have hokL := hok.2 hne
    intro W log K rd rl dl d D dn dc u A c hbW hBW hK hcols htr hrd hdl hlen hds
    have e1 : trField (wayOf false false) (fun d => trOnce (bareFd 0 kids) d) d = .mk 4 0 0 .empty (trFields kids d.items) := by rw [← trOnce_group 0 kids hne]; simp [trField, wayOf]
    have e2 : shField (wayOf false false) (nodeLeaves kids) (fun d col dep rep de => shOnce (bareFd 0 kids) d col dep rep de) d col rd rl dl = parts (shPart kids d.items col rd rl dl) m := by
      rw [← hm, ← shFields_parts, ← shOnce_group 0 kids hne]; simp [shField, wayOf]
    rw [e1, e2]
    rw [e1] at htr
    rw [e2] at hlen
    have hlm : (trFields kids d.items).length = m := by rw [trFields_length, hm]
    have htr2 := htr.2
    simp only [Tr.items] at htr2
    rw [hlm] at htr2
    have hmk := fdsSize_length kids
    have hdm := dtSize_items d
    simp only [Bool.or_false, Bool.false_eq_true, if_false] at hrd hdl
    have hlm2 : (Tr.mk 4 0 0 .empty (trFields kids d.items)).items.length = m := hlm
    rw [hlm2]
    have hgj : ∀ i (hi : i < m), ∃ g, kids[i]? = some g := fun i hi => ⟨_, List.getElem?_eq_getElem (by omega)⟩
    refine grp155_some B cb n a fb rd rl dl m D dn dc u _ A c (trFields kids d.items) _ F C log K W hK (fun i hi => ?_) ((bcell hbW hlo.2).trans hc) (fun i hi => (bcell hbW hfb.2).trans (hk i _ (List.getElem?_eq_getElem (by omega)))) hlo.2 hfb.2 hBW hcols htr2 (by omega) ?_
    · obtain ⟨g, hg⟩ := hgj i hi
      exact (hr i g hg).enters _ _ rfl
    · intro W' j t D' dn' dc' u' A' c' K' hj ht hat hb' hB' hK' hcols'
      obtain ⟨g, hg⟩ := hgj j hj
      obtain ⟨hw0, hw2, hd60, _, _⟩ := hokL.at_ hg
      have h1 := leaves_snoc kids j _ hg
      have h2 : leaves (kids.take (j + 1)) ≤ leaves kids := by
        have := leaves_append (kids.take (j + 1)) (kids.drop (j + 1))
        rw [List.take_append_drop] at this
        omega
      have h3 := fdsSize_get kids j _ hg
      have h4 := fdSize_kids g
      have hs := ih j g hg (dp + 1) (by omega) (hokL.kid hg) (by rw [← leavesOf_eq]; omega) (by omega) (F j) (C j) rfl
      rw [trFields_get _ _ _ _ hg] at ht
      injection ht with ht
      subst ht
      have e3 : trField (wayOf (g.way == 1) (g.way == 2)) (fun d => trOnce (bareFd g.kind g.kids) d) (headDt (d.items.drop j)) = trField g.way (fun d => trOnce g d) (headDt (d.items.drop j)) := by
        rw [wayOf_eq hw0 hw2]; congr 1; funext d; exact trOnce_bare g d
      have e4 : shField (wayOf (g.way == 1) (g.way == 2)) (nodeLeaves g.kids) (fun d col dep rep de => shOnce (bareFd g.kind g.kids) d col dep rep de) (headDt (d.items.drop j)) (col + leaves (kids.take j)) rd rl dl = shPart kids d.items col rd rl dl j := by
        unfold shPart
        rw [wayOf_eq hw0 hw2, fdAt_some hg, leavesOf_eq]
        congr 1; funext d col dep rep de; exact shOnce_bare g d col dep rep de
      have hle := parts_length_le (shPart kids d.items col rd rl dl) (show j + 1 ≤ m from hj)
      rw [parts_succ] at hle ⊢
      rw [← List.append_assoc]
      have hhs := dtSize_head d.items j
      have := hs W' (log ++ parts (shPart kids d.items col rd rl dl) j) K' rd rl dl (headDt (d.items.drop j)) D' dn' dc' u' A' c' (hbW.trans hb') hB' hK' hcols' (by rw [e3]; exact hat) (by split <;> omega) (by split <;> omega)
        (by rw [e4]; simp only [List.length_append] at hlen hle ⊢; omega) (by omega)
      rw [e3, e4] at this
      exact this
end Go.Proofs.YtglgclkgppomiaaGreat

namespace Go.Proofs.YtglgclkgppomiaaGreat
open Go Go.RowKit

/-- A schema: its number of columns, and its closures. -/
structure IsSchema (w : World) (lo B g : Nat) (kids : List Fd) : Prop where
  hlo : lo ≤ g
  lt : g < B
  c0 : w.cell? ⟨g, 0, none⟩ = some (.int .i64 (leaves kids : Nat))
  cD : ∃ f cap, w.cell? ⟨g, 1, none⟩ = some (.func (.func f) #[] cap) ∧ IsDec w lo B (.func (.func f) #[] cap) 0 false false 0 kids
  cR : ∃ f cap, w.cell? ⟨g, 2, none⟩ = some (.func (.func f) #[] cap) ∧ IsRec w lo B (.func (.func f) #[] cap) false false 0 kids
theorem IsSchema.keep {w w' : World} {lo B lo' B' g : Nat} {kids : List Fd} (h : IsSchema w lo B g kids) (hb : Below B w w') (hlo' : lo' ≤ lo) (hB' : B ≤ B') : IsSchema w' lo' B' g kids where
  hlo := Nat.le_trans hlo' h.hlo
  lt := Nat.lt_of_lt_of_le h.lt hB'
  c0 := (bcell hb h.lt).trans h.c0
  cD := by
    obtain ⟨f, cap, h1, h2⟩ := h.cD
    exact ⟨f, cap, (bcell hb h.lt).trans h1, h2.keep hb hlo' hB'⟩
  cR := by
    obtain ⟨f, cap, h1, h2⟩ := h.cR
    exact ⟨f, cap, (bcell hb h.lt).trans h1, h2.keep hb hlo' hB'⟩

set_option maxRecDepth 100000 in
set_option maxHeartbeats 2000000 in
theorem schema48 (kids : List Fd) (dp : Int) (d lo : Nat) (T : TypeId) (x : Value) (w : World) (hs : fdsSize kids ≤ 100000000) (hnd : IsNd w lo w.heap.size d T x false false 0 kids) (hd : d ≤ 10) (hne : kids ≠ []) (hok : OkL kids dp) (hl : leaves kids ≤ 65534) :
    Calls Tryz.prog 48 #[.iface T x] w fun e w' => ∃ g, e = .returned (.pointer (some ⟨g, 0, none⟩)) ∧ IsSchema w' w.heap.size w'.heap.size g kids ∧ Below w.heap.size w w' := by
  have HN := Lib.hid hnd
  have HNL : Hid (nodeLeaves kids = leaves kids) := by show _ = _; unfold nodeLeaves; rw [if_neg hne]
  have HOK : Hid (OkN kids 0 dp) := ⟨fun h => absurd h hne, fun _ => hok⟩
  clear hnd hne hok
  go_enter Tryz.func48, Tryz.ntmps48
  go_wp2_with fail
  refine (numLeaf_all _ (by omega : fdsSize kids ≤ 1000000000) kids 0 dp d lo T x false false 0 w (Nat.le_refl _) HN.out hd HOK.out (by omega) (by omega)).mono ?_
  rintro e w1 ⟨rfl, hb1⟩
  rw [HNL.out]
  simp only [Int.zero_add]
  have hw1 := hb1.size
  have hnd2 : IsNd (w1.alloc (.cells #[.int .i64 (leaves kids : Nat), .nilFunc, .nilFunc] 115)) lo (w1.alloc (.cells #[.int .i64 (leaves kids : Nat), .nilFunc, .nilFunc] 115)).heap.size d T x false false 0 kids :=
    HN.out.keep (hb1.alloc hw1 _) (Nat.le_refl _) (by simp only [size_alloc1]; omega)
  have HN2 := Lib.hid hnd2
  have r0 : RowB (w1.alloc (.cells #[.int .i64 (leaves kids : Nat), .nilFunc, .nilFunc] 115)) w1.heap.size 115 #[.int .i64 (leaves kids : Nat), .nilFunc, .nilFunc] := RowB.new _ _ _
  have hbA : Below w.heap.size w (w1.alloc (.cells #[.int .i64 (leaves kids : Nat), .nilFunc, .nilFunc] 115)) := hb1.alloc hw1 _
  have R0 := Lib.hid r0
  have HBA := Lib.hid hbA
  have hszA : (w1.alloc (.cells #[.int .i64 (leaves kids : Nat), .nilFunc, .nilFunc] 115)).heap.size = w1.heap.size + 1 := size_alloc1 _ _
  clear hnd2 r0 hbA hb1
  go_wp2_with fail
  refine (dec_any kids 0 dp d lo T x false false 0 _ hs HN2.out hd HOK.out (by rw [HNL.out]; omega)).mono ?_
  rintro e w2 ⟨f2, cap2, rfl, hdec, hb2⟩
  have r2 := R0.out.keep hb2 (by rw [hszA]; omega)
  have hw2 := hb2.size
  rw [hszA] at hw2
  obtain ⟨c0, c1, c2⟩ := r2.c3
  have y1 := r2.free 1
  have hx2 : IsNd (w2.setCell ⟨w1.heap.size, 1, none⟩ (.func (.func f2) #[] cap2)) lo (w2.setCell ⟨w1.heap.size, 1, none⟩ (.func (.func f2) #[] cap2)).heap.size d T x false false 0 kids := by
    refine HN.out.keep (below_setCell (HBA.out.trans (hb2.mono (by rw [hszA]; omega))) (p := ⟨w1.heap.size, 1, none⟩) hw1 _) (Nat.le_refl _) ?_
    rw [setCell_size]; omega
  have r3 : RowB (w2.setCell ⟨w1.heap.size, 1, none⟩ (.func (.func f2) #[] cap2)) w1.heap.size 115 #[.int .i64 (leaves kids : Nat), .func (.func f2) #[] cap2, .nilFunc] := r2.set 1 _
  have hb3 : Below w.heap.size w (w2.setCell ⟨w1.heap.size, 1, none⟩ (.func (.func f2) #[] cap2)) := below_setCell (HBA.out.trans (hb2.mono (by rw [hszA]; omega))) (p := ⟨w1.heap.size, 1, none⟩) hw1 _
  have hd3 : IsDec (w2.setCell ⟨w1.heap.size, 1, none⟩ (.func (.func f2) #[] cap2)) (w1.heap.size + 1) w2.heap.size (.func (.func f2) #[] cap2) 0 false false 0 kids :=
    (hdec.frame (fun b h1 _ => setCell_other (b := b) w2 ⟨w1.heap.size, 1, none⟩ _ (by rw [hszA] at h1; show b ≠ w1.heap.size; omega)) (by rw [hszA]; exact Nat.le_refl _) (Nat.le_refl _))
  have hs3 : (w2.setCell ⟨w1.heap.size, 1, none⟩ (.func (.func f2) #[] cap2)).heap.size = w2.heap.size := setCell_size _ _ _
  have HX2 := Lib.hid hx2
  have R3 := Lib.hid r3
  have HB3 := Lib.hid hb3
  have HD3 := Lib.hid hd3
  have HS3 := Lib.hid hs3
  clear hdec hb2 r2 hx2 r3 hb3 hd3 hs3
  go_wp2_with fail
  refine (rec_any kids 0 dp d lo T x false false 0 _ hs HX2.out hd HOK.out (by rw [HNL.out]; omega)).mono ?_
  rintro e w4 ⟨f4, cap4, rfl, hrec, hb4⟩
  have hs4 := hb4.size
  rw [HS3.out] at hs4
  have r4 := R3.out.keep hb4 (by rw [HS3.out]; omega)
  have hd4 := HD3.out.keep (hb4.mono (by rw [HS3.out]; exact Nat.le_refl _)) (Nat.le_refl _) (Nat.le_refl _)
  have hb5 := HB3.out.trans (hb4.mono (by rw [HS3.out]; omega))
  obtain ⟨g0, g1, g2⟩ := r4.c3
  have y2 := r4.free 2
  have R4 := Lib.hid r4
  have HD4 := Lib.hid hd4
  have HR4 := Lib.hid hrec
  have HB5 := Lib.hid hb5
  clear hb4 hrec r4 hd4 hb5 c0 c1 c2 y1
  go_wp2_with fail
  go_ret
  have r5 : RowB (w4.setCell ⟨w1.heap.size, 2, none⟩ (.func (.func f4) #[] cap4)) w1.heap.size 115 #[.int .i64 (leaves kids : Nat), .func (.func f2) #[] cap2, .func (.func f4) #[] cap4] := R4.out.set 2 _
  obtain ⟨k0, k1, k2⟩ := r5.c3
  refine ⟨w1.heap.size, rfl, ⟨hw1, by rw [setCell_size]; omega, k0, ⟨f2, cap2, k1, ?_⟩, ⟨f4, cap4, k2, ?_⟩⟩, below_setCell HB5.out (p := ⟨w1.heap.size, 2, none⟩) hw1 _⟩
  · exact HD4.out.frame (fun b h1 _ => setCell_other (b := b) w4 ⟨w1.heap.size, 2, none⟩ _ (by show b ≠ w1.heap.size; omega)) (by omega) (by rw [setCell_size]; omega)
  · refine HR4.out.frame (fun b h1 _ => setCell_other (b := b) w4 ⟨w1.heap.size, 2, none⟩ _ (by rw [HS3.out] at h1; show b ≠ w1.heap.size; omega)) (by rw [HS3.out]; omega) (by rw [setCell_size]; exact Nat.le_refl _)
end Go.Proofs.YtglgclkgppomiaaGreat

namespace Go.Proofs.YtglgclkgppomiaaGreat
open Go Go.RowKit

theorem info62 : (Tryz.prog.info? 62).map (fun i => (i.zero, i.size, i.bytes)) = some (some (.slice none 0 0), 1, 24) := by kernel_rfl
abbrev zeroVl : Array Value := #[.slice none 0 0, .int .u64 0, .int .i8 0, .int .u8 0, .int .u8 0, .int .u16 0]
/-- The first j columns are slices of one array. -/
structure Fresh (w : World) (cb vb n j : Nat) (cs : Array Value) : Prop where
  row : RowB w cb 62 cs
  size : cs.size = n
  get : ∀ i, i < j → cs[i]? = some (.slice (some ⟨vb, i * 6, none⟩) 0 1)
  vals : RowB w vb 76 (madeCells zeroVl (n * 6))
theorem Fresh.cols {w : World} {cb vb n : Nat} {cs : Array Value} (h : Fresh w cb vb n n cs) (B : Nat) (h1 : B ≤ cb) (h2 : B ≤ vb) (hne : vb ≠ cb) : ColsAt w B cb n [] cs (fun j => ⟨vb, j * 6, 1⟩) where
  row := h.row
  size := h.size
  cbB := h1
  slot := fun j hj => h.get j hj
  fit := fun j hj => Nat.zero_le _
  blk := fun j hj => ⟨h2, hne, h.vals.lt⟩
  room := fun j hj i hi => by
    have hi' : i < 1 * 6 := hi
    show (w.cell? ⟨vb, j * 6 + i, none⟩).isSome = true ∧ w.frozen? ⟨vb, j * 6 + i, none⟩ = false
    rw [h.vals.cell, madeCells_get _ _ _ (by omega)]
    exact ⟨rfl, h.vals.free _⟩
  vals := fun j i x hj hx => by simp [colOf] at hx
  apart := fun i j hi hj hij _ => by
    show i * 6 + 1 * 6 ≤ j * 6 ∨ j * 6 + 1 * 6 ≤ i * 6
    omega

set_option maxRecDepth 100000 in
set_option maxHeartbeats 2000000 in
theorem decon50 (kids : List Fd) (ds : List Dt) (dp : Int) (g lo : Nat) (A : Option Addr) (c : Nat) (w : World) (hS : IsSchema w lo w.heap.size g kids) (hs : fdsSize kids ≤ 1000000) (hne : kids ≠ []) (hok : OkL kids dp) (hdp : 0 ≤ dp ∧ dp ≤ 61) (hl : leaves kids ≤ 65534)
    (htr : TrsAt w 0 w.heap.size A kids.length c (trFields kids ds)) (hds : dtsSize ds ≤ 1000000) (hlen : (parts (colOf (shFields kids ds 0 0 0 0)) (leaves kids)).length ≤ 1000000000) (hlen2 : (shFields kids ds 0 0 0 0).length ≤ 1000000000) :
    Calls Tryz.prog 50 #[.pointer (some ⟨g, 0, none⟩), .slice none 0 0, trVal 4 none 0 0 0 0 A kids.length c] w (GivesRow (parts (colOf (shFields kids ds 0 0 0 0)) (leaves kids)) w) := by
  have HS := Lib.hid hS
  have HTR := Lib.hid htr
  have hnl : nodeLeaves kids = leaves kids := by unfold nodeLeaves; rw [if_neg hne]
  obtain ⟨f, cap, hcf, hdec⟩ := hS.cD
  have hrun := dec_some hdec (w.heap.size + 1) (leaves kids) (by omega) dp hdp.2 ⟨fun h => absurd h hne, fun _ => hok⟩ (by rw [hnl]; omega) hs f cap rfl
  have hent1 : ∀ args W, (callFunc f args).run Tryz.prog W = .ok (.enter f args) W := hdec.enters f cap rfl
  have hrun2 : ∀ W, Below w.heap.size w W → ColsK W w.heap.size (w.heap.size + 1) (leaves kids) [] (fun _ => False) →
      Calls Tryz.prog f (decArgs (w.heap.size + 1) (leaves kids) 0 0 0 (trVal 4 none 0 0 0 0 A kids.length c) ++ cap) W (Took w.heap.size (w.heap.size + 1) (leaves kids) (shFields kids ds 0 0 0 0) (fun _ => False) W) := fun W hW hcols => by
    have e1 : trField (wayOf false false) (fun d => trOnce (bareFd 0 kids) d) (Dt.mk false 0 .empty ds) = .mk 4 0 0 .empty (trFields kids ds) := by
      have := trOnce_group 0 kids hne (Dt.mk false 0 .empty ds)
      simp only [trField, wayOf, Bool.false_eq_true, if_false]
      rw [if_neg (by omega), if_pos (by decide)]
      exact this
    have e2 : shField (wayOf false false) (nodeLeaves kids) (fun d col dep rep de => shOnce (bareFd 0 kids) d col dep rep de) (Dt.mk false 0 .empty ds) 0 0 0 0 = shFields kids ds 0 0 0 0 := by
      have := shOnce_group 0 kids hne (Dt.mk false 0 .empty ds) 0 0 0 0
      simp only [shField, wayOf, Bool.false_eq_true, if_false]
      rw [if_neg (by decide), if_neg (by decide)]
      exact this
    have hlm : (Tr.mk 4 0 0 .empty (trFields kids ds)).items.length = kids.length := trFields_length _ _
    have h := hrun W [] (fun _ => False) 0 0 0 (Dt.mk false 0 .empty ds) none 0 0 0 A c hW hW.size (fun g hg => hg.elim) hcols
      (by rw [e1]; refine ⟨.null _ _ _, ?_⟩; rw [hlm]; exact HTR.out.mono hW (Nat.le_refl _)) (by simp; exact hdp.1) (by simp; exact hdp.1) (by rw [e2]; simpa using hlen2) (by simp [dtSize]; omega)
    rw [e1, e2, hlm] at h
    exact h
  have HRUN := Lib.hid hrun2
  have hc0 := hS.c0
  have hg := hS.lt
  have HNE := Lib.hid hne
  have hmk := make_n (t := 97) (e := 62) Tryz.underlying97 info62 (leaves kids) (by omega) (by omega)
  have hmk2 := make_n (t := 62) (e := 76) Tryz.underlying62 info76 (leaves kids) (by omega) (by omega)
  clear hS htr hdec hrun hrun2 hok hne
  generalize hn : leaves kids = n at *
  generalize hm : kids.length = m at *
  unfold trVal
  go_enter Tryz.func50, Tryz.ntmps50
  go_wp2_with fail
  have hb0 : Below w.heap.size w (((w.alloc (.cells (trCells 4 none 0 0 0 0 A m c) 79)).alloc (.cells (madeCells #[.slice none 0 0] n) 62)).alloc (.cells (madeCells zeroVl (n * 6)) 76)) :=
    (((Below.refl _ _).alloc (Nat.le_refl _) _).alloc (by simp) _).alloc (by simp; omega) _
  have r0 : RowB (((w.alloc (.cells (trCells 4 none 0 0 0 0 A m c) 79)).alloc (.cells (madeCells #[.slice none 0 0] n) 62)).alloc (.cells (madeCells zeroVl (n * 6)) 76)) w.heap.size 79 (trCells 4 none 0 0 0 0 A m c) := ((RowB.new w 79 _).alloc _).alloc _
  have r1 : RowB (((w.alloc (.cells (trCells 4 none 0 0 0 0 A m c) 79)).alloc (.cells (madeCells #[.slice none 0 0] n) 62)).alloc (.cells (madeCells zeroVl (n * 6)) 76)) (w.heap.size + 1) 62 (madeCells #[.slice none 0 0] n) := (rowB_new (by simp)).alloc _
  have r2 : RowB (((w.alloc (.cells (trCells 4 none 0 0 0 0 A m c) 79)).alloc (.cells (madeCells #[.slice none 0 0] n) 62)).alloc (.cells (madeCells zeroVl (n * 6)) 76)) (w.heap.size + 1 + 1) 76 (madeCells zeroVl (n * 6)) := rowB_new (by simp)
  have HB0 := Lib.hid hb0
  have R0 := Lib.hid r0
  have R1 := Lib.hid r1
  have R2 := Lib.hid r2
  clear hb0 r0 r1 r2 hmk hmk2
  go_loopw [22] (fun i wr => ∃ (j : Nat) (cs : Array Value), j ≤ n ∧ i = .int .i64 j ∧ Fresh wr (w.heap.size + 1) (w.heap.size + 1 + 1) n j cs ∧ RowB wr w.heap.size 79 (trCells 4 none 0 0 0 0 A m c) ∧ Below w.heap.size w wr) (fun i _ => n - (intOf i).toNat)
  case atStart => exact ⟨0, _, Nat.zero_le _, rfl, ⟨R1.out, by rw [size_madeCells], fun i hi => absurd hi (by omega), R2.out⟩, R0.out, HB0.out⟩
  case round =>
    obtain ⟨j, cs, hj, rfl, hfr, hrow, hb5⟩ := hrel
    have HFR := Lib.hid hfr
    have HROW := Lib.hid hrow
    have HB5 := Lib.hid hb5
    by_cases hlt : j < n
    · have hst : ∃ v, wr.cell? ⟨w.heap.size + 1, j, none⟩ = some v := ⟨cs[j]'(by rw [hfr.size]; exact hlt), by rw [hfr.row.cell]; exact Array.getElem?_eq_getElem _⟩
      obtain ⟨v0, hv0⟩ := hst
      have hfz := hfr.row.free j
      have hj0 : (0 : Int) ≤ (j : Int) := Int.natCast_nonneg _
      have hj1 : (j : Int) + 1 ≤ (n : Int) := by omega
      clear hfr hrow hb5
      go_wp2_with fail
      refine ⟨⟨j + 1, cs.setIfInBounds j (.slice (some ⟨w.heap.size + 1 + 1, j * 6, none⟩) 0 1), by omega, by go_num, ⟨HFR.out.row.set j _, by simp [HFR.out.size], fun i hi => ?_, HFR.out.vals.of_eq (setCell_other _ _ _ (by show w.heap.size + 1 + 1 ≠ w.heap.size + 1; omega))⟩, HROW.out.of_eq (setCell_other _ _ _ (by show w.heap.size ≠ w.heap.size + 1; omega)), below_setCell HB5.out (p := ⟨w.heap.size + 1, j, none⟩) (by show _ ≤ w.heap.size + 1; omega) _⟩, by simp [intOf]; omega⟩
      by_cases he : i = j
      · subst he
        rw [Array.getElem?_setIfInBounds_self_of_lt (by rw [HFR.out.size]; exact hlt)]
      · rw [Array.getElem?_setIfInBounds_ne (Ne.symm he)]
        exact HFR.out.get i (by omega)
    · obtain rfl : j = n := by omega
      have hcf5 : wr.cell? ⟨g, 1, none⟩ = some (.func (.func f) #[] cap) := (bcell hb5 hg).trans hcf
      obtain ⟨t0, t1, t2, t3, t4, t5, t6, t7⟩ := hrow.c8
      have hCA := hfr.cols w.heap.size (by omega) (by omega) (by omega)
      have hCK : ColsK wr.drew w.heap.size (w.heap.size + 1) j [] (fun _ => False) := ⟨_, _, hCA.keep (Below.refl _ _).drew, fun h => h, fun _ _ h => h⟩
      have HCK := Lib.hid hCK
      clear hfr hrow hb5 hCA hCK
      go_wp2_with fail
      refine still_tail 7 (by kernel_rfl) (by kernel_rfl) ?_
      simp only [List.take_succ_cons, List.take_zero, List.drop_succ_cons, List.drop_zero]
      repeat still_step
      refine wpStill_nil ?_
      go_wp2_with fail
      refine (HRUN.out _ HB5.out.drew HCK.out).mono ?_
      rintro e w7 ⟨rfl, ⟨cs7, R7, hC7, _, _⟩, hb7, _⟩
      have HC7 := Lib.hid hC7
      have hsz7 := hb7.size
      have hsz5 := HB5.out.size
      clear hC7
      go_wp2_with fail
      refine (append81 w.heap.size (w.heap.size + 1) j (shFields kids ds 0 0 0 0) cs7 R7 w7 HC7.out (by omega) (by have : wr.heap.size ≤ w7.heap.size := hsz7; omega) hlen).mono ?_
      rintro e w8 ⟨A8, N8, c8, rfl, hrow8, hb8⟩
      have HR8 := Lib.hid hrow8
      clear hrow8
      go_wp2_with fail
      go_ret
      exact ⟨A8, N8, c8, rfl, HR8.out, (HB5.out.drew.trans hb7).trans (hb8.mono (by have : wr.heap.size ≤ w7.heap.size := hsz7; omega))⟩
end Go.Proofs.YtglgclkgppomiaaGreat
