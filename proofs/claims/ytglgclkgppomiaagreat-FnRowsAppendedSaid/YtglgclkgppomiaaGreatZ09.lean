/- The walks of impl.node and impl.group: the nodes of a schema are made. The walk of impl.group: a group of fields is made. -/
import Derived.Test.YtglgclkgppomiaaGreatZ03
import Derived.Deep.RegionHeld3
import Derived.MapKept
set_option linter.unusedVariables false
set_option linter.unusedSimpArgs false
namespace Go.Proofs.YtglgclkgppomiaaGreat
open Go Go.RowKit

theorem bytes_ne {a b : ByteArray} (h : a ≠ b) : (a == b) = false := by
  obtain ⟨a⟩ := a
  obtain ⟨b⟩ := b
  have h' : a ≠ b := fun hx => h (by rw [hx])
  show (a == b) = false
  rw [beq_eq_false_iff_ne]
  exact h'
/-- A store of a new key into a map of text keys. -/
theorem run_mapUpdate_new {P : Program} {w : World} (mty kt et : TypeId) (r clock : Nat) (es : Array MapEntry) (s : ByteArray) (val : Value) (hm : P.underlying mty = some (.map kt et)) (hk : P.underlying kt = some .string)
    (hb : w.heap[r]? = some (.map es clock)) (hnew : ∀ e ∈ es.toList, ∃ s' : ByteArray, e.key = .string s' ∧ s' ≠ s) :
    (Instr.mapUpdate mty (.map (some r)) (.string s) val).run P w = .ok () (putObj w r (.map (es.push (MapEntry.mk (.string s) val clock)) (clock + 1))) := by
  have hf : ∀ (l : List MapEntry) (i : Nat), (∀ e ∈ l, ∃ s' : ByteArray, e.key = .string s' ∧ s' ≠ s) → Instr.findNow .string (.string s) l i = some none := by
    intro l
    induction l with
    | nil => intro i _; rfl
    | cons e l ih =>
      intro i h
      obtain ⟨s', he, hne⟩ := h e (by simp)
      have : (s == s') = false := bytes_ne fun hx => hne hx.symm
      simp only [Instr.findNow, he, Instr.sameNow, this]
      exact ih (i + 1) fun e' h' => h e' (by simp [h'])
  have hc : (Instr.checkKey false 10000 kt (.string s)).run P w = .ok () w := MapKept.run_checkKey (k := .string s) hk (by simp [MapKept.IsKey]) false 9999
  simp [Instr.mapUpdate, run_underlying hm, MapKept.run_getObj_map hb, hc, MapKept.run_findKey hk (hf es.toList 0 hnew), MapKept.run_setObj_map _ hb, Result.andThen, putObj]

/-- The call makes a node. -/
def MakesNd (d : Nat) (o r : Bool) (k : Int) (kids : List Fd) (w : World) (e : Ending) (w' : World) : Prop :=
  ∃ T x, e = .returned (.iface T x) ∧ IsNd w' w.heap.size w'.heap.size d T x o r k kids ∧ Below w.heap.size w w'

set_option maxHeartbeats 400000 in
theorem required_any (T : TypeId) (x : Value) (w : World) :
    Calls Tryz.prog 114 #[.iface T x] w fun e w' => e = .returned (.iface 167 (.pointer (some ⟨w.heap.size, 0, none⟩))) ∧ w' = w.alloc (.cells #[.iface T x] 169) := by
  go_enter Tryz.func114, Tryz.ntmps114
  go_wp2_with fail
  go_ret
  exact ⟨rfl, rfl⟩
set_option maxHeartbeats 400000 in
theorem optional_any (T : TypeId) (x : Value) (w : World) :
    Calls Tryz.prog 118 #[.iface T x] w fun e w' => e = .returned (.iface 174 (.pointer (some ⟨w.heap.size, 0, none⟩))) ∧ w' = w.alloc (.cells #[.iface T x] 175) := by
  go_enter Tryz.func118, Tryz.ntmps118
  go_wp2_with fail
  go_ret
  exact ⟨rfl, rfl⟩
set_option maxHeartbeats 400000 in
theorem repeated_any (T : TypeId) (x : Value) (w : World) :
    Calls Tryz.prog 119 #[.iface T x] w fun e w' => e = .returned (.iface 176 (.pointer (some ⟨w.heap.size, 0, none⟩))) ∧ w' = w.alloc (.cells #[.iface T x] 177) := by
  go_enter Tryz.func119, Tryz.ntmps119
  go_wp2_with fail
  go_ret
  exact ⟨rfl, rfl⟩
set_option maxHeartbeats 400000 in
theorem typeOf_any (k : Int) (w : World) :
    Calls Tryz.prog 117 #[.int .i8 k] w fun e w' => e = .returned (.iface 173 (.int .i8 k)) ∧ w = w' := by
  go_enter Tryz.func117, Tryz.ntmps117
  go_wp2_with fail
  go_ret
  exact ⟨rfl, rfl⟩
set_option maxHeartbeats 400000 in
theorem leaf_any (T : TypeId) (x : Value) (w : World) :
    Calls Tryz.prog 116 #[.iface T x] w fun e w' => e = .returned (.iface 170 (.pointer (some ⟨w.heap.size, 0, none⟩))) ∧ w' = w.alloc (.cells #[.iface T x] 172) := by
  go_enter Tryz.func116, Tryz.ntmps116
  go_wp2_with fail
  go_ret
  exact ⟨rfl, rfl⟩

section
variable {W : World} {lo d : Nat} {T : TypeId} {x : Value} {o r : Bool} {k : Int} {kids : List Fd} {t : TypeId}
theorem cell_new1 (W : World) (v : Value) (t : TypeId) : (W.alloc (.cells #[v] t)).cell? ⟨W.heap.size, 0, none⟩ = some v := by simp
theorem IsNd.up (h : IsNd W lo W.heap.size d T x o r k kids) (O : Obj) : IsNd (W.alloc O) lo (W.heap.size + 1) d T x o r k kids :=
  h.keep ((Below.refl _ _).alloc (Nat.le_refl _) _) (Nat.le_refl _) (Nat.le_succ _)
theorem mk_leaf (hlo : lo ≤ W.heap.size) : IsNd (W.alloc (.cells #[.iface 173 (.int .i8 k)] 172)) lo (W.alloc (.cells #[.iface 173 (.int .i8 k)] 172)).heap.size 0 170 (.pointer (some ⟨W.heap.size, 0, none⟩)) false false k [] :=
  .leaf W.heap.size k hlo (by simp) (cell_new1 _ _ _)
theorem mk_req (h : IsNd W lo W.heap.size d T x o r k kids) (hlo : lo ≤ W.heap.size) : IsNd (W.alloc (.cells #[.iface T x] 169)) lo (W.alloc (.cells #[.iface T x] 169)).heap.size (d + 1) 167 (.pointer (some ⟨W.heap.size, 0, none⟩)) false false k kids :=
  .req d W.heap.size T x o r k kids hlo (by simp) (cell_new1 _ _ _) (by have := h.up (.cells #[.iface T x] 169); simpa using this)
theorem mk_opt (h : IsNd W lo W.heap.size d T x o r k kids) (hlo : lo ≤ W.heap.size) : IsNd (W.alloc (.cells #[.iface T x] 175)) lo (W.alloc (.cells #[.iface T x] 175)).heap.size (d + 1) 174 (.pointer (some ⟨W.heap.size, 0, none⟩)) true false k kids :=
  .opt d W.heap.size T x o r k kids hlo (by simp) (cell_new1 _ _ _) (by have := h.up (.cells #[.iface T x] 175); simpa using this)
theorem mk_rep (h : IsNd W lo W.heap.size d T x o r k kids) (hlo : lo ≤ W.heap.size) : IsNd (W.alloc (.cells #[.iface T x] 177)) lo (W.alloc (.cells #[.iface T x] 177)).heap.size (d + 1) 176 (.pointer (some ⟨W.heap.size, 0, none⟩)) false true k kids :=
  .rep d W.heap.size T x o r k kids hlo (by simp) (cell_new1 _ _ _) (by have := h.up (.cells #[.iface T x] 177); simpa using this)
end

def GroupIn (N : Nat) : Prop := ∀ (fs : List Fd) (A : Option Addr) (n c : Nat) (d : Int) (w : World), fdsSize fs ≤ N → FdsAt w w.heap.size A n c fs → OkL fs d → fs ≠ [] →
      Calls Tryz.prog 49 #[.slice A n c] w (MakesNd 0 false false 0 fs w)
def NodeIn (N : Nat) : Prop := ∀ (f : Fd) (A : Option Addr) (n c : Nat) (d : Int) (w : World), fdSize f ≤ N → FdsAt w w.heap.size A n c f.kids → 0 ≤ f.way → f.way ≤ 2 → (f.kids = [] → isKd f.kind = true) → (f.kids ≠ [] → f.kind = 0 ∧ OkL f.kids (d + 1)) →
      Calls Tryz.prog 80 #[.agg #[.string f.name, .int .i64 f.way, .int .i64 f.kind, .slice A n c]] w (MakesNd 1 (f.way == 1) (f.way == 2) f.kind f.kids w)

set_option maxHeartbeats 1000000 in
theorem node_step (N : Nat) (ih : GroupIn N) : NodeIn (N + 1) := by
  intro f A n c d w hf hk hw0 hw2 hkind hgrp
  have IH := Lib.hid ih
  clear ih
  obtain ⟨hkl, _⟩ := hk.len
  have hs := fdSize_kids f
  have hb1 : Below w.heap.size w (w.alloc (.cells #[.string f.name, .int .i64 f.way, .int .i64 f.kind, .slice A n c] 41)) := (Below.refl _ _).alloc (Nat.le_refl _) _
  have hpart : f.way = 0 ∨ f.way = 1 ∨ f.way = 2 := by omega
  obtain ⟨name, way, kind, kids⟩ := f
  simp only [Fd.name, Fd.way, Fd.kind, Fd.kids] at *
  by_cases hkd : kids = []
  · subst hkd
    obtain rfl : n = 0 := by simpa using hkl.symm
    have hki := hkind rfl
    simp only [isKd, Bool.and_eq_true, decide_eq_true_eq] at hki
    have hk0 : 0 ≤ kind := hki.1.1
    have hk6 : kind ≤ 6 := hki.1.2
    have hconv : IntKind.i8.wrap kind = kind := IntWalk.i8_in _ (by omega)
    clear hkl hkind hgrp hki hs hw0 hw2
    rcases hpart with hw | hw | hw
    all_goals
      subst hw
      go_enter Tryz.func80, Tryz.ntmps80
      go_wp2_with fail
      refine (typeOf_any _ _).mono ?_
      rintro e w1 ⟨rfl, rfl⟩
      go_wp2_with fail
      refine (leaf_any _ _ _).mono ?_
      rintro e w1 ⟨rfl, rfl⟩
      go_wp2_with fail
      first
        | (go_at_call 114; refine (required_any _ _ _).mono ?_)
        | (go_at_call 118; refine (optional_any _ _ _).mono ?_)
        | (go_at_call 119; refine (repeated_any _ _ _).mono ?_)
      rintro e w1 ⟨rfl, rfl⟩
      go_wp2_with fail
      go_ret
      refine ⟨_, _, rfl, ?_, (hb1.alloc (by simp) _).alloc (by simp; omega) _⟩
      first
        | (have hl := mk_leaf (W := w.alloc (.cells #[.string name, .int .i64 0, .int .i64 kind, .slice A 0 c] 41)) (lo := w.heap.size) (k := kind) (by simp); have h2 := mk_req hl (by simp; omega); simpa using h2)
        | (have hl := mk_leaf (W := w.alloc (.cells #[.string name, .int .i64 1, .int .i64 kind, .slice A 0 c] 41)) (lo := w.heap.size) (k := kind) (by simp); have h2 := mk_opt hl (by simp; omega); simpa using h2)
        | (have hl := mk_leaf (W := w.alloc (.cells #[.string name, .int .i64 2, .int .i64 kind, .slice A 0 c] 41)) (lo := w.heap.size) (k := kind) (by simp); have h2 := mk_rep hl (by simp; omega); simpa using h2)
  · obtain ⟨hk0, hok⟩ := hgrp hkd
    subst hk0
    have hz : ((n : Int) == 0) = false := by
      have : kids.length ≠ 0 := by simpa using hkd
      simp; omega
    have HOK := Lib.hid hok
    have HKD := Lib.hid hkd
    clear hok hkd hkl hkind hgrp hw0 hw2
    rcases hpart with hw | hw | hw
    all_goals
      subst hw
      go_enter Tryz.func80, Tryz.ntmps80
      go_wp2_with fail
      refine (IH.out kids A n c (d + 1) _ (by omega) (hk.mono hb1 (by simp)) HOK.out HKD.out).mono ?_
      rintro e w1 ⟨T, x, rfl, hnd, hb2⟩
      have hsz1 : w.heap.size + 1 ≤ w1.heap.size := by have := hb2.size; simpa using this
      have hw1 : ∀ o : Nat, w1.cell? ⟨w.heap.size, o, none⟩ = (w.alloc (.cells #[.string name, .int .i64 _, .int .i64 0, .slice A n c] 41)).cell? ⟨w.heap.size, o, none⟩ := fun o => bcell hb2 (by simp)
      have hc1 := (hw1 1).trans (by simp; rfl)
      clear hw1
      go_wp2_with fail
      first
        | (go_at_call 114; refine (required_any _ _ _).mono ?_)
        | (go_at_call 118; refine (optional_any _ _ _).mono ?_)
        | (go_at_call 119; refine (repeated_any _ _ _).mono ?_)
      rintro e w2 ⟨rfl, rfl⟩
      go_wp2_with fail
      go_ret
      have hb3 : Below w.heap.size w w1 := hb1.trans (hb2.mono (by simp))
      refine ⟨_, _, rfl, ?_, hb3.alloc (by omega) _⟩
      have hnd2 := hnd.keep (lo' := w.heap.size) (B' := w1.heap.size) (Below.refl _ _) (by simp) (Nat.le_refl _)
      first
        | (have h2 := mk_req hnd2 (by omega); simpa using h2)
        | (have h2 := mk_opt hnd2 (by omega); simpa using h2)
        | (have h2 := mk_rep hnd2 (by omega); simpa using h2)
end Go.Proofs.YtglgclkgppomiaaGreat

namespace Go.Proofs.YtglgclkgppomiaaGreat
open Go Go.RowKit

/-- The nodes of the first k fields stand in the map. -/
structure Made (wr : World) (m : Nat) (fs : List Fd) (k : Nat) (es : Array MapEntry) (T : Nat → TypeId) (X : Nat → Value) : Prop where
  hm : wr.heap[m]? = some (.map es k)
  hes : es.size = k
  hk : ∀ i f, i < k → fs[i]? = some f → es[i]? = some (MapEntry.mk (.string f.name) (.iface (T i) (X i)) i)
  hr : ∀ i f, i < k → fs[i]? = some f → IsNd wr (m + 1) wr.heap.size 1 (T i) (X i) (f.way == 1) (f.way == 2) f.kind f.kids
def SomeMade (wr : World) (m : Nat) (fs : List Fd) (k : Nat) : Prop := ∃ es T X, Made wr m fs k es T X

set_option maxRecDepth 100000 in
set_option maxHeartbeats 1000000 in
theorem group_step (N : Nat) (hN : N ≤ 1000000000) (ih : NodeIn N) : GroupIn N := by
  intro fs A n c d w hs h hok hne
  have IH := Lib.hid ih
  clear ih
  obtain ⟨hn, hc⟩ := h.len
  have hl := fdsSize_length fs
  subst hn
  have HNE := Lib.hid hne
  have HOK := Lib.hid hok
  clear hne hok
  have hmm := @run_makeMap Tryz.prog
  go_enter Tryz.func49, Tryz.ntmps49
  go_wp2_with fail
  go_loopw [9] (fun i wr => ∃ k : Nat, k ≤ fs.length ∧ i = .int .i64 k ∧ SomeMade wr w.heap.size fs k ∧ w.heap.size < wr.heap.size ∧ Below w.heap.size w wr) (fun i _ => fs.length - (intOf i).toNat)
  case atStart => exact ⟨0, Nat.zero_le _, rfl, ⟨#[], fun _ => 0, fun _ => .nilIface, ⟨heap_alloc_new w _, rfl, fun i f hi _ => absurd hi (by omega), fun i f hi _ => absurd hi (by omega)⟩⟩, by simp, (Below.refl _ _).alloc (Nat.le_refl _) _⟩
  case round =>
    obtain ⟨k, hk, rfl, hmade, hsz, hb⟩ := hrel
    have HM := Lib.hid hmade
    clear hmade
    by_cases hlt : k < fs.length
    · obtain ⟨b, o, f, A', c', rfl, hbl, hkf, c0, c1, c2, c3, hr⟩ := h.at_ hlt
      have hfs := fdsSize_get fs k f hkf
      have d0 := (bcell hb hbl).trans c0
      have d1 := (bcell hb hbl).trans c1
      have d2 := (bcell hb hbl).trans c2
      have d3 := (bcell hb hbl).trans c3
      have Hkf := Lib.hid hkf
      clear c0 c1 c2 c3 hkf
      obtain ⟨h1, h2, h3, h4, h5⟩ := HOK.out.at_ Hkf.out
      have HG := Lib.hid (show (f.kids = [] → isKd f.kind = true) ∧ (f.kids ≠ [] → f.kind = 0 ∧ OkL f.kids (d + 1)) from ⟨h4, h5⟩)
      clear h4 h5
      have hb2 := (hb.alloc hb.size (.cells #[.string f.name, .int .i64 f.way, .int .i64 f.kind, .slice A' f.kids.length c'] 41)).drew
      go_wp2_with fail
      obtain ⟨es, T0, X0, M⟩ := HM.out
      have hes := Lib.hid M.hes
      have hnew : ∀ e ∈ es.toList, ∃ s' : ByteArray, e.key = .string s' ∧ s' ≠ f.name := fun e he => by
        obtain ⟨i, hi, rfl⟩ := List.getElem_of_mem he
        have hik : i < k := by have := M.hes; simpa [this] using hi
        have hfi : fs[i]? = some (fs[i]'(by omega)) := List.getElem?_eq_getElem _
        have := M.hk i _ hik hfi
        have he2 : es.toList[i] = MapEntry.mk (.string (fs[i]'(by omega)).name) (.iface (T0 i) (X0 i)) i := by
          have h3 : es[i]? = some es.toList[i] := by rw [← Array.getElem?_toList]; exact List.getElem?_eq_getElem hi
          rw [h3] at this; injection this
        exact ⟨_, by rw [he2], HOK.out.ne hik hfi Hkf.out⟩
      have HMR := Lib.hid M
      have HNEW := Lib.hid hnew
      have hmap := Lib.hid M.hm
      clear hnew M
      go_region_held3 (fun w' => w'.cell? ⟨wr.heap.size, 0, none⟩ = some (.string f.name) ∧ w'.cell? ⟨wr.heap.size, 1, none⟩ = some (.int .i64 f.way) ∧ w'.cell? ⟨wr.heap.size, 2, none⟩ = some (.int .i64 f.kind) ∧ w'.cell? ⟨wr.heap.size, 3, none⟩ = some (.slice A' f.kids.length c'))
        (first
          | (simp; done)
          | (exact ⟨(bcell hb1 (by simp)).trans (by simp), (bcell hb1 (by simp)).trans (by simp), (bcell hb1 (by simp)).trans (by simp), (bcell hb1 (by simp)).trans (by simp)⟩)
          | (exact ⟨(putObj_cell _ _ _ (by omega)).trans ((bcell hb1 (by simp)).trans (by simp)), (putObj_cell _ _ _ (by omega)).trans ((bcell hb1 (by simp)).trans (by simp)), (putObj_cell _ _ _ (by omega)).trans ((bcell hb1 (by simp)).trans (by simp)), (putObj_cell _ _ _ (by omega)).trans ((bcell hb1 (by simp)).trans (by simp))⟩))
        ((go_at_call 80
          refine (IH.out f A' _ c' d _ (by omega) (hr.mono hb2 (by have := hb.size; simp; omega)) h1 h2 HG.out.1 HG.out.2).mono ?_
          rintro e w1 ⟨T, x, rfl, hnd, hb1⟩
          have hmw1 : w1.heap[w.heap.size]? = some (.map es k) := (hb1.block _ (by simp; omega)).trans ((Below.heap_alloc wr _ _ hsz).trans hmap.out)
          have hrun := run_mapUpdate_new 121 9 67 w.heap.size k es f.name (.iface T x) Tryz.underlying121 Tryz.underlying9 hmw1 HNEW.out
          clear hmw1))
      have hsz1 : wr.heap.size + 1 ≤ w1.heap.size := by have := hb1.size; simpa using this
      have hbw : Below w.heap.size w w1 := hb2.trans (hb1.mono (by have := hb.size; simp; omega))
      have hfin : SomeMade (putObj w1 w.heap.size (.map (es.push (MapEntry.mk (.string f.name) (.iface T x) k)) (k + 1))) w.heap.size fs (k + 1) := by
        refine ⟨_, fun i => if i = k then T else T0 i, fun i => if i = k then x else X0 i, ⟨putObj_same _ _ _ (by omega), by simp [hes.out], fun i g hi hg => ?_, fun i g hi hg => ?_⟩⟩
        · by_cases hik : i = k
          · subst hik
            rw [Hkf.out] at hg
            injection hg with hg
            subst hg
            rw [if_pos rfl, if_pos rfl, Array.getElem?_push, if_pos hes.out.symm]
          · simp only [hik, if_false]
            rw [Array.getElem?_push, if_neg (by rw [hes.out]; exact hik)]
            exact HMR.out.hk i g (by omega) hg
        · by_cases hik : i = k
          · subst hik
            rw [Hkf.out] at hg
            injection hg with hg
            subst hg
            simp only [if_true]
            exact hnd.frame (fun b hb _ => putObj_other _ _ _ (by simp at hb; omega)) (by simp; omega) (by rw [putObj_size]; exact Nat.le_refl _)
          · simp only [hik, if_false]
            have h7 := HMR.out.hr i g (by omega) hg
            exact h7.frame (fun b hb hb' => (putObj_other _ _ _ (by omega)).trans ((hb1.block b (by simp; omega)).trans (Below.heap_alloc wr _ b hb'))) (Nat.le_refl _) (by rw [putObj_size]; omega)
      have HFIN := Lib.hid hfin
      have hbf := below_putObj hbw (Nat.le_refl _) (.map (es.push (MapEntry.mk (.string f.name) (.iface T x) k)) (k + 1))
      have hszf := putObj_size w1 w.heap.size (.map (es.push (MapEntry.mk (.string f.name) (.iface T x) k)) (k + 1))
      have HSZ := Lib.hid hszf
      have HBF := Lib.hid hbf
      clear hfin hbf hszf hrun hnd HMR hmap HNEW
      go_wp2_with fail
      go_roundw
      case rel => exact ⟨k + 1, by omega, by go_num, HFIN.out, by rw [HSZ.out]; omega, HBF.out⟩
      case measure => simp [intOf]; omega
    · obtain rfl : k = fs.length := by omega
      go_wp2_with fail
      go_ret
      obtain ⟨es, T, X, M⟩ := HM.out
      exact ⟨_, _, rfl, .group _ es fs T X (Nat.le_refl _) hsz HNE.out M.hm M.hes (fun i f hf => M.hk i f (List.getElem?_eq_some_iff.1 hf).1 hf) (fun i f hf => (M.hr i f (List.getElem?_eq_some_iff.1 hf).1 hf).frame (fun _ _ _ => rfl) (Nat.le_succ _) (Nat.le_refl _)), hb⟩
theorem group_all (N : Nat) : N ≤ 1000000000 → GroupIn N := by
  induction N with
  | zero =>
    intro _ fs A n c d w hs h hok hne
    have := fdsSize_length fs
    exact absurd (List.eq_nil_of_length_eq_zero (by omega)) hne
  | succ N ih => exact fun hN => group_step _ hN (node_step N (ih (by omega)))
/-- impl.group makes the group of fields. -/
theorem group_any (fs : List Fd) (A : Option Addr) (n c : Nat) (d : Int) (w : World) (hs : fdsSize fs ≤ 1000000000) (h : FdsAt w w.heap.size A n c fs) (hok : OkL fs d) (hne : fs ≠ []) :
      Calls Tryz.prog 49 #[.slice A n c] w (MakesNd 0 false false 0 fs w) := group_all _ hs fs A n c d w (Nat.le_refl _) h hok hne
end Go.Proofs.YtglgclkgppomiaaGreat
