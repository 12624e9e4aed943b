/- How the plain data lie in memory: lists of fields, data and cells behind slices. The walk of spec.isPlain: is a datum the value of a leaf of a kind. The walk of spec.SameData: it tells whether data are the same. The walk of spec.SameCells: it tells whether cells are the same. The walks of spec.Leaves and spec.leavesOf: how many columns fields have. -/
import Derived.Test.YtglgclkgppomiaaGreatZ01
import Derived.Test.YtglgclkgppomiaaGreatProg
import Derived.WalkKit
import Derived.WalkSpells
import Derived.WalkLawsBesides
import Derived.Lib.Hide
import Derived.KernelRfl
import Derived.StillTailTactics
set_option linter.unusedVariables false
set_option linter.unusedSimpArgs false
namespace Go.Proofs.YtglgclkgppomiaaGreat
open Go Go.RowKit

/-- A world in which all blocks below B are as they were: what reads below B reads as before. -/
theorem bcell {B : Nat} {w w' : World} (h : Below B w w') {b o : Nat} (hb : b < B) : w'.cell? ⟨b, o, none⟩ = w.cell? ⟨b, o, none⟩ := h.cell (p := ⟨b, o, none⟩) hb

/-- A list of fields behind a slice (address, length, capacity); all below block B. -/
inductive FdsAt (w : World) (B : Nat) : Option Addr → Nat → Nat → List Fd → Prop where
  | nil (A : Option Addr) (c : Nat) : FdsAt w B A 0 c []
  | mk (b o n c : Nat) (fs : List Fd) (A : Nat → Option Addr) (c' : Nat → Nat) (hb : b < B) (hn : fs.length = n) (hnc : n ≤ c)
      (h : ∀ k f, fs[k]? = some f → w.cell? ⟨b, o + k * 4, none⟩ = some (.string f.name) ∧ w.cell? ⟨b, o + k * 4 + 1, none⟩ = some (.int .i64 f.way) ∧
        w.cell? ⟨b, o + k * 4 + 2, none⟩ = some (.int .i64 f.kind) ∧ w.cell? ⟨b, o + k * 4 + 3, none⟩ = some (.slice (A k) f.kids.length (c' k)))
      (hr : ∀ k f, fs[k]? = some f → FdsAt w B (A k) f.kids.length (c' k) f.kids) : FdsAt w B (some ⟨b, o, none⟩) n c fs

theorem FdsAt.len {w : World} {B : Nat} {A : Option Addr} {n c : Nat} {fs : List Fd} (h : FdsAt w B A n c fs) : fs.length = n ∧ n ≤ c := by
  cases h with
  | nil => simp
  | mk b o n c fs A c' hb hn hnc h hr => exact ⟨hn, hnc⟩
theorem FdsAt.mono {w w' : World} {B B' : Nat} (hb : Below B w w') (hB : B ≤ B') {A : Option Addr} {n c : Nat} {fs : List Fd} (h : FdsAt w B A n c fs) : FdsAt w' B' A n c fs := by
  induction h with
  | nil A c => exact .nil A c
  | mk b o n c fs A c' hlt hn hnc h hr ih =>
    refine .mk b o n c fs A c' (Nat.lt_of_lt_of_le hlt hB) hn hnc (fun k f hk => ?_) ih
    obtain ⟨h0, h1, h2, h3⟩ := h k f hk
    exact ⟨(bcell hb hlt).trans h0, (bcell hb hlt).trans h1, (bcell hb hlt).trans h2, (bcell hb hlt).trans h3⟩
/-- The k-th field: its cells, and its own fields. -/
theorem FdsAt.at_ {w : World} {B : Nat} {A : Option Addr} {n c : Nat} {fs : List Fd} (h : FdsAt w B A n c fs) {k : Nat} (hk : k < n) :
    ∃ b o f A' c', A = some ⟨b, o, none⟩ ∧ b < B ∧ fs[k]? = some f ∧ w.cell? ⟨b, o + k * 4, none⟩ = some (.string f.name) ∧ w.cell? ⟨b, o + k * 4 + 1, none⟩ = some (.int .i64 f.way) ∧
        w.cell? ⟨b, o + k * 4 + 2, none⟩ = some (.int .i64 f.kind) ∧ w.cell? ⟨b, o + k * 4 + 3, none⟩ = some (.slice A' f.kids.length c') ∧ FdsAt w B A' f.kids.length c' f.kids := by
  cases h with
  | nil => omega
  | mk b o n c fs A c' hb hn hnc h hr =>
    have hl : k < fs.length := by omega
    obtain ⟨h0, h1, h2, h3⟩ := h k fs[k] (List.getElem?_eq_getElem hl)
    exact ⟨b, o, fs[k], A k, c' k, rfl, hb, List.getElem?_eq_getElem hl, h0, h1, h2, h3, hr k _ (List.getElem?_eq_getElem hl)⟩

/-- A list of data behind a slice. -/
inductive DtsAt (w : World) (B : Nat) : Option Addr → Nat → Nat → List Dt → Prop where
  | nil (A : Option Addr) (c : Nat) : DtsAt w B A 0 c []
  | mk (b o n c : Nat) (ds : List Dt) (A : Nat → Option Addr) (c' : Nat → Nat) (hb : b < B) (hn : ds.length = n) (hnc : n ≤ c)
      (h : ∀ k d, ds[k]? = some d → w.cell? ⟨b, o + k * 4, none⟩ = some (.bool d.none) ∧ w.cell? ⟨b, o + k * 4 + 1, none⟩ = some (.int .i64 d.num) ∧
        w.cell? ⟨b, o + k * 4 + 2, none⟩ = some (.string d.text) ∧ w.cell? ⟨b, o + k * 4 + 3, none⟩ = some (.slice (A k) d.items.length (c' k)))
      (hr : ∀ k d, ds[k]? = some d → DtsAt w B (A k) d.items.length (c' k) d.items) : DtsAt w B (some ⟨b, o, none⟩) n c ds

theorem DtsAt.len {w : World} {B : Nat} {A : Option Addr} {n c : Nat} {fs : List Dt} (h : DtsAt w B A n c fs) : fs.length = n ∧ n ≤ c := by
  cases h with
  | nil => simp
  | mk b o n c fs A c' hb hn hnc h hr => exact ⟨hn, hnc⟩
theorem DtsAt.mono {w w' : World} {B B' : Nat} (hb : Below B w w') (hB : B ≤ B') {A : Option Addr} {n c : Nat} {ds : List Dt} (h : DtsAt w B A n c ds) : DtsAt w' B' A n c ds := by
  induction h with
  | nil A c => exact .nil A c
  | mk b o n c fs A c' hlt hn hnc h hr ih =>
    refine .mk b o n c fs A c' (Nat.lt_of_lt_of_le hlt hB) hn hnc (fun k f hk => ?_) ih
    obtain ⟨h0, h1, h2, h3⟩ := h k f hk
    exact ⟨(bcell hb hlt).trans h0, (bcell hb hlt).trans h1, (bcell hb hlt).trans h2, (bcell hb hlt).trans h3⟩
theorem DtsAt.at_ {w : World} {B : Nat} {A : Option Addr} {n c : Nat} {ds : List Dt} (h : DtsAt w B A n c ds) {k : Nat} (hk : k < n) :
    ∃ b o d A' c', A = some ⟨b, o, none⟩ ∧ b < B ∧ ds[k]? = some d ∧ w.cell? ⟨b, o + k * 4, none⟩ = some (.bool d.none) ∧ w.cell? ⟨b, o + k * 4 + 1, none⟩ = some (.int .i64 d.num) ∧
        w.cell? ⟨b, o + k * 4 + 2, none⟩ = some (.string d.text) ∧ w.cell? ⟨b, o + k * 4 + 3, none⟩ = some (.slice A' d.items.length c') ∧ DtsAt w B A' d.items.length c' d.items := by
  cases h with
  | nil => omega
  | mk b o n c ds A c' hb hn hnc h hr =>
    have hl : k < ds.length := by omega
    obtain ⟨h0, h1, h2, h3⟩ := h k ds[k] (List.getElem?_eq_getElem hl)
    exact ⟨b, o, ds[k], A k, c' k, rfl, hb, List.getElem?_eq_getElem hl, h0, h1, h2, h3, hr k _ (List.getElem?_eq_getElem hl)⟩

/-- The seven values of a cell. -/
def Cl.vals (c : Cl) : List Value := [.int .i64 c.col, .int .i64 c.rep, .int .i64 c.de, .bool c.null, .int .i64 c.kind, .int .i64 c.num, .string c.text]
/-- A list of cells behind a slice. -/
def ClsAt (w : World) (B : Nat) (A : Option Addr) (n c : Nat) (cs : List Cl) : Prop :=
  cs.length = n ∧ n ≤ c ∧ (0 < n → ∃ b o, A = some ⟨b, o, none⟩ ∧ b < B ∧ ∀ k x, cs[k]? = some x →
    w.cell? ⟨b, o + k * 7, none⟩ = some (.int .i64 x.col) ∧ w.cell? ⟨b, o + k * 7 + 1, none⟩ = some (.int .i64 x.rep) ∧ w.cell? ⟨b, o + k * 7 + 2, none⟩ = some (.int .i64 x.de) ∧
    w.cell? ⟨b, o + k * 7 + 3, none⟩ = some (.bool x.null) ∧ w.cell? ⟨b, o + k * 7 + 4, none⟩ = some (.int .i64 x.kind) ∧ w.cell? ⟨b, o + k * 7 + 5, none⟩ = some (.int .i64 x.num) ∧
    w.cell? ⟨b, o + k * 7 + 6, none⟩ = some (.string x.text))
theorem ClsAt.mono {w w' : World} {B B' : Nat} (hb : Below B w w') (hB : B ≤ B') {A : Option Addr} {n c : Nat} {cs : List Cl} (h : ClsAt w B A n c cs) : ClsAt w' B' A n c cs := by
  obtain ⟨h1, h2, h3⟩ := h
  refine ⟨h1, h2, fun hn => ?_⟩
  obtain ⟨b, o, hA, hlt, h⟩ := h3 hn
  refine ⟨b, o, hA, Nat.lt_of_lt_of_le hlt hB, fun k x hk => ?_⟩
  obtain ⟨g0, g1, g2, g3, g4, g5, g6⟩ := h k x hk
  exact ⟨(bcell hb hlt).trans g0, (bcell hb hlt).trans g1, (bcell hb hlt).trans g2, (bcell hb hlt).trans g3, (bcell hb hlt).trans g4, (bcell hb hlt).trans g5, (bcell hb hlt).trans g6⟩
theorem ClsAt.at_ {w : World} {B : Nat} {A : Option Addr} {n c : Nat} {cs : List Cl} (h : ClsAt w B A n c cs) {k : Nat} (hk : k < n) :
    ∃ b o x, A = some ⟨b, o, none⟩ ∧ b < B ∧ cs[k]? = some x ∧ w.cell? ⟨b, o + k * 7, none⟩ = some (.int .i64 x.col) ∧ w.cell? ⟨b, o + k * 7 + 1, none⟩ = some (.int .i64 x.rep) ∧ w.cell? ⟨b, o + k * 7 + 2, none⟩ = some (.int .i64 x.de) ∧
    w.cell? ⟨b, o + k * 7 + 3, none⟩ = some (.bool x.null) ∧ w.cell? ⟨b, o + k * 7 + 4, none⟩ = some (.int .i64 x.kind) ∧ w.cell? ⟨b, o + k * 7 + 5, none⟩ = some (.int .i64 x.num) ∧
    w.cell? ⟨b, o + k * 7 + 6, none⟩ = some (.string x.text) := by
  obtain ⟨h1, h2, h3⟩ := h
  obtain ⟨b, o, hA, hlt, h⟩ := h3 (by omega)
  have hl : k < cs.length := by omega
  exact ⟨b, o, cs[k], hA, hlt, List.getElem?_eq_getElem hl, h k _ (List.getElem?_eq_getElem hl)⟩
theorem ret_int {k : IntKind} {a b : Int} (h : a = b) : Ending.returned (.int k a) = .returned (.int k b) := by rw [h]
theorem ret_bool {a b : Bool} (h : a = b) : Ending.returned (.bool a) = .returned (.bool b) := by rw [h]
/-- A region that draws its order, whose first n operations only read, and whose others stand in one forced order: walked in the order of the text. -/
theorem still_tail {P : Program} {id : Nat} {Q : Exit → Act → World → Prop} {a : Act} {w : World} {l : List Oper} (n : Nat) (hm : P.follows .mixedOrders = true) (hB : Region.lexTailB .any l.toArray n = true)
    (h : wpStill P l.toArray w.drew (fun a' => wpList P l.toArray Q (l.drop n) a' w.drew) (l.take n) a) : (Code.region id l.toArray true).wp P Q a w :=
  wp_region_still_tail n hm hB h
theorem Below.drew {B : Nat} {w w' : World} (h : Below B w w') : Below B w w'.drew := ⟨h.os, h.tape, h.output, h.size, h.block⟩

end Go.Proofs.YtglgclkgppomiaaGreat

namespace Go.Proofs.YtglgclkgppomiaaGreat
open Go Go.RowKit
/-- The value of a datum by value. -/
abbrev dtVal (d : Dt) (A : Option Addr) (n c : Nat) : Value := .agg #[.bool d.none, .int .i64 d.num, .string d.text, .slice A n c]

set_option maxRecDepth 100000 in
set_option maxHeartbeats 2000000 in
theorem isPlain_any (kind : Int) (d : Dt) (A : Option Addr) (n c : Nat) (w : World) (hn' : d.items.length = n) (_ht : d.text.size ≤ 1000000000000) :
    Calls Tryz.prog 65 #[.int .i64 kind, dtVal d A n c] w fun e w' => e = .returned (.bool (plainOk kind d)) ∧ Below w.heap.size w w' := by
  obtain ⟨nn, num, txt, its⟩ := d
  simp only [Dt.items, Dt.text] at hn' _ht
  have hend : Below w.heap.size w (w.alloc (.cells #[.bool nn, .int .i64 num, .string txt, .slice A n c] 43)) := (Below.refl _ _).alloc (Nat.le_refl _) _
  have hte := toList_empty txt
  show Calls Tryz.prog 65 #[.int .i64 kind, .agg #[.bool nn, .int .i64 num, .string txt, .slice A n c]] w _
  cases nn with
  | true =>
    have HP : Hid (plainOk kind (.mk true num txt its) = false) := by show _ = _; simp [plainOk, Dt.none]
    clear hn' hte
    go_enter Tryz.func65, Tryz.ntmps65
    go_wp2_with fail
    go_ret
    exact ⟨ret_bool HP.out.symm, hend⟩
  | false =>
    by_cases hi : 0 < n
    · have HP : Hid (plainOk kind (.mk false num txt its) = false) := by show _ = _; simp [plainOk, Dt.items, hn', hi]
      have e1 : decide (0 < n) = true := by simpa using hi
      clear hn' hi hte
      go_enter Tryz.func65, Tryz.ntmps65
      go_wp2_with fail
      go_ret
      exact ⟨ret_bool HP.out.symm, hend⟩
    · have e1 : decide (0 < n) = false := by simpa using hi
      by_cases hz : 20000 < txt.size
      · have HP : Hid (plainOk kind (.mk false num txt its) = false) := by show _ = _; simp [plainOk, Dt.text, hz]
        have e2 : decide ((20000 : Int) < (txt.size : Int)) = true := by simp; omega
        clear hn' hi hte hz
        go_enter Tryz.func65, Tryz.ntmps65
        go_wp2_with fail
        go_ret
        exact ⟨ret_bool HP.out.symm, hend⟩
      · have e2 : decide ((20000 : Int) < (txt.size : Int)) = false := by simp; omega
        have hP : plainOk kind (.mk false num txt its) = (if kind = 0 then decide (txt.size = 0) && (decide (num = 0) || decide (num = 1))
            else if kind = 1 then decide (txt.size = 0) && (decide (-2147483648 ≤ num) && decide (num < 2147483648))
            else if kind = 4 then decide (txt.size = 0) && (decide (0 ≤ num) && decide (num < 4294967296))
            else if kind = 6 then decide (num = 0) else decide (txt.size = 0)) := by
          exact plainOk_rest kind (.mk false num txt its) rfl (by simp only [Dt.items, hn']; exact hi) hz
        clear hn' hi hz
        by_cases k6 : kind = 6
        · have HP : Hid (plainOk kind (.mk false num txt its) = decide (num = 0)) := by show _ = _; rw [hP]; simp [k6]
          subst k6
          clear hP hte
          go_enter Tryz.func65, Tryz.ntmps65
          go_wp2_with fail
          go_ret
          exact ⟨ret_bool (HP.out.symm), hend⟩
        · by_cases h0 : txt.size = 0
          · have t1 : txt.toList = [] := by simpa [h0] using hte
            have h0' := Lib.hid h0
            rcases (by omega : kind = 0 ∨ kind = 1 ∨ kind = 4 ∨ (kind ≠ 0 ∧ kind ≠ 1 ∧ kind ≠ 4 ∧ kind ≠ 6)) with k | k | k | ⟨k0, k1, k4, _⟩
            · have HP : Hid (plainOk kind (.mk false num txt its) = (decide (num = 0) || decide (num = 1))) := by show _ = _; rw [hP]; simp [k, h0]
              subst k
              clear hP hte h0 k6
              by_cases n0 : num = 0
              · have m0 : (num == 0) = true := by simpa using n0
                have N0 := Lib.hid n0
                clear n0
                go_enter Tryz.func65, Tryz.ntmps65
                go_wp2_with fail
                go_ret
                exact ⟨ret_bool (by rw [HP.out, N0.out]; rfl), hend⟩
              · have m0 : (num == 0) = false := by simpa using n0
                have N0 := Lib.hid n0
                clear n0
                go_enter Tryz.func65, Tryz.ntmps65
                go_wp2_with fail
                go_ret
                exact ⟨ret_bool (by rw [HP.out]; simp [N0.out]; rfl), hend⟩
            · have HP : Hid (plainOk kind (.mk false num txt its) = (decide (-2147483648 ≤ num) && decide (num < 2147483648))) := by show _ = _; rw [hP]; simp [k, h0]
              subst k
              clear hP hte h0 k6
              by_cases n0 : -2147483648 ≤ num
              · go_enter Tryz.func65, Tryz.ntmps65
                go_wp2_with fail
                go_ret
                exact ⟨ret_bool (by rw [HP.out]; simp [n0]), hend⟩
              · go_enter Tryz.func65, Tryz.ntmps65
                go_wp2_with fail
                go_ret
                exact ⟨ret_bool (by rw [HP.out]; simp; omega), hend⟩
            · have HP : Hid (plainOk kind (.mk false num txt its) = (decide (0 ≤ num) && decide (num < 4294967296))) := by show _ = _; rw [hP]; simp [k, h0]
              subst k
              clear hP hte h0 k6
              by_cases n0 : 0 ≤ num
              · go_enter Tryz.func65, Tryz.ntmps65
                go_wp2_with fail
                go_ret
                exact ⟨ret_bool (by rw [HP.out]; simp [n0]), hend⟩
              · go_enter Tryz.func65, Tryz.ntmps65
                go_wp2_with fail
                go_ret
                exact ⟨ret_bool (by rw [HP.out]; simp; omega), hend⟩
            · have HP : Hid (plainOk kind (.mk false num txt its) = true) := by show _ = _; rw [hP]; simp [k0, k1, k4, k6, h0]
              have x0 : (kind == 0) = false := by simpa using k0
              have x1 : (kind == 1) = false := by simpa using k1
              have x4 : (kind == 4) = false := by simpa using k4
              have x6 : (kind == 6) = false := by simpa using k6
              clear hP hte h0 k0 k1 k4 k6
              go_enter Tryz.func65, Tryz.ntmps65
              go_wp2_with fail
              go_ret
              exact ⟨ret_bool (HP.out.symm), hend⟩
          · have t1 : ¬ txt.toList = [] := by simpa [h0] using hte
            have t2 : txt.toList.isEmpty = false := by simpa [h0] using hte
            have HP : Hid (plainOk kind (.mk false num txt its) = false) := by show _ = _; rw [hP]; simp [k6, h0]
            have x6 : (kind == 6) = false := by simpa using k6
            clear hP hte h0
            rcases (by omega : kind = 0 ∨ kind = 1 ∨ kind = 4 ∨ (kind ≠ 0 ∧ kind ≠ 1 ∧ kind ≠ 4)) with k | k | k | ⟨k0, k1, k4⟩
            · subst k
              go_enter Tryz.func65, Tryz.ntmps65
              go_wp2_with fail
              go_ret
              exact ⟨ret_bool (HP.out.symm), hend⟩
            · subst k
              go_enter Tryz.func65, Tryz.ntmps65
              go_wp2_with fail
              go_ret
              exact ⟨ret_bool (HP.out.symm), hend⟩
            · subst k
              go_enter Tryz.func65, Tryz.ntmps65
              go_wp2_with fail
              go_ret
              exact ⟨ret_bool (HP.out.symm), hend⟩
            · have x0 : (kind == 0) = false := by simpa using k0
              have x1 : (kind == 1) = false := by simpa using k1
              have x4 : (kind == 4) = false := by simpa using k4
              clear k0 k1 k4 k6
              go_enter Tryz.func65, Tryz.ntmps65
              go_wp2_with fail
              go_ret
              exact ⟨ret_bool (HP.out.symm), hend⟩
end Go.Proofs.YtglgclkgppomiaaGreat

namespace Go.Proofs.YtglgclkgppomiaaGreat
open Go Go.RowKit

/-- The call tells whether p holds, and makes memory alone. -/
def Tells (p : Prop) (B : Nat) (w : World) (e : Ending) (w' : World) : Prop := ∃ b : Bool, e = .returned (.bool b) ∧ (b = true ↔ p) ∧ Below B w w'
theorem Tells.yes {p : Prop} {B : Nat} {w w' : World} (hp : p) (hb : Below B w w') : Tells p B w (.returned (.bool true)) w' := ⟨true, rfl, by simp [hp], hb⟩
theorem Tells.no {p : Prop} {B : Nat} {w w' : World} (hp : ¬ p) (hb : Below B w w') : Tells p B w (.returned (.bool false)) w' := ⟨false, rfl, by simp [hp], hb⟩

theorem text_eq {a b : ByteArray} : (a.toList == b.toList) = true ↔ a = b := by
  rw [ByteArray.toList_eq, ByteArray.toList_eq]
  cases a; cases b; simp
theorem take_same {α : Type} {a b : List α} {k : Nat} {x y : α} (ha : a[k]? = some x) (hb : b[k]? = some y) (h : a.take k = b.take k) (hxy : x = y) : a.take (k + 1) = b.take (k + 1) := by
  have h1 := List.getElem?_eq_some_iff.1 ha
  have h2 := List.getElem?_eq_some_iff.1 hb
  rw [List.take_succ_eq_append_getElem h1.1, List.take_succ_eq_append_getElem h2.1, h, h1.2, h2.2, hxy]
theorem differ_at {α : Type} {a b : List α} {k : Nat} {x y : α} (ha : a[k]? = some x) (hb : b[k]? = some y) (hxy : x ≠ y) : a ≠ b := by
  intro h; subst h; rw [ha] at hb; injection hb with hb; exact hxy hb

set_option maxRecDepth 100000 in
set_option maxHeartbeats 1000000 in
theorem sameData_all (N : Nat) : N ≤ 1000000000 → ∀ (ds es : List Dt) (A : Option Addr) (n c : Nat) (A2 : Option Addr) (n2 c2 : Nat) (w : World), dtsSize ds ≤ N → DtsAt w w.heap.size A n c ds → DtsAt w w.heap.size A2 n2 c2 es →
      Calls Tryz.prog 24 #[.slice A n c, .slice A2 n2 c2] w (Tells (ds = es) w.heap.size w) := by
  induction N with
  | zero =>
    intro _ ds es A n c A2 n2 c2 w hs h hd
    have hl := dtsSize_length ds
    obtain ⟨hn, _⟩ := h.len
    obtain ⟨hn3, _⟩ := hd.len
    obtain rfl : ds = [] := List.eq_nil_of_length_eq_zero (by omega)
    obtain rfl : n = 0 := by simpa using hn.symm
    clear h hl hn hs
    by_cases h0 : n2 = 0
    · subst h0
      obtain rfl : es = [] := List.eq_nil_of_length_eq_zero hn3
      clear hd hn3
      go_enter Tryz.func24, Tryz.ntmps24
      go_wp2_with fail
      go_loopw [15] (fun i wr => i = .int .i64 (0 : Nat) ∧ wr = w) (fun _ _ => 0)
      case atStart => exact ⟨rfl, rfl⟩
      case round =>
        obtain ⟨rfl, rfl⟩ := hrel
        go_wp2_with fail
        go_ret
        exact Tells.yes (by simp) (Below.refl _ _)
    · have hne : Hid (¬ ([] = es)) := by
        intro h; subst h; simp at hn3; omega
      have e1 : ((0 : Int) != (n2 : Int)) = true := by simp; omega
      clear hd hn3 h0
      go_enter Tryz.func24, Tryz.ntmps24
      go_wp2_with fail
      go_ret
      exact Tells.no hne.out (Below.refl _ _)
  | succ N ih =>
    intro hN ds es A n c A2 n2 c2 w hs h hd
    have IH := Lib.hid (ih (by omega))
    clear ih
    obtain ⟨hn, hc⟩ := h.len
    obtain ⟨hn3, hc3⟩ := hd.len
    have hl := dtsSize_length ds
    by_cases h0 : n = n2
    · subst h0
      have hnl : n ≤ 1000000000 := by omega
      have Hn := Lib.hid hn
      have Hn3 := Lib.hid hn3
      clear hn hn3 hl
      go_enter Tryz.func24, Tryz.ntmps24
      go_wp2_with fail
      go_loopw [15] (fun i wr => ∃ k : Nat, k ≤ n ∧ i = .int .i64 k ∧ ds.take k = es.take k ∧ Below w.heap.size w wr) (fun i _ => n - (intOf i).toNat)
      case atStart => exact ⟨0, Nat.zero_le _, rfl, by simp, Below.refl _ _⟩
      case round =>
        obtain ⟨k, hk, rfl, hsame, hb⟩ := hrel
        have Hs := Lib.hid hsame
        clear hsame
        by_cases hlt : k < n
        · obtain ⟨b, o, d, A', c', rfl, hbl, hkd, c0, c1, c2', c3, hr⟩ := h.at_ hlt
          obtain ⟨b', o', d', A3, c3', rfl, hbl', hkd', g0, g1, g2, g3, hr'⟩ := hd.at_ hlt
          have hds := dtsSize_get ds k d hkd
          have hdi := dtSize_items d
          have HDK := Lib.hid hkd
          have HDK' := Lib.hid hkd'
          obtain ⟨nn, num, txt, its⟩ := d
          obtain ⟨nn', num', txt', its'⟩ := d'
          simp only [Dt.none, Dt.num, Dt.text, Dt.items] at c0 c1 c2' c3 g0 g1 g2 g3 hr hr' hdi
          have d0 := (bcell hb hbl).trans c0
          have d1 := (bcell hb hbl).trans c1
          have d2 := (bcell hb hbl).trans c2'
          have d3 := (bcell hb hbl).trans c3
          have hne := fun (j : Nat) => World.cell?_alloc_lt wr (.cells #[.bool nn, .int .i64 num, .string txt, .slice A' its.length c'] 43) ⟨b', j, none⟩ (Nat.lt_of_lt_of_le hbl' hb.size)
          have q0 := (hne _).trans ((bcell hb hbl').trans g0)
          have q1 := (hne _).trans ((bcell hb hbl').trans g1)
          have q2 := (hne _).trans ((bcell hb hbl').trans g2)
          have q3 := (hne _).trans ((bcell hb hbl').trans g3)
          have hk0 : (0 : Int) ≤ (k : Int) := Int.natCast_nonneg _
          have hb2 : Below w.heap.size w ((wr.alloc (.cells #[.bool nn, .int .i64 num, .string txt, .slice A' its.length c'] 43)).alloc (.cells #[.bool nn', .int .i64 num', .string txt', .slice A3 its'.length c3'] 43)) :=
            (hb.alloc hb.size _).alloc (by have := hb.size; simp; omega) _
          have hsz := hb.size
          generalize its.length = il at *
          generalize its'.length = il' at *
          clear c0 c1 c2' c3 g0 g1 g2 g3 hkd hkd' hne
          by_cases e1 : nn = nn'
          · have e1' : (Value.bool nn, nn) = (Value.bool nn', nn') := by rw [e1]
            clear e1'
            subst e1
            by_cases e2 : num = num'
            · subst e2
              by_cases e3 : txt = txt'
              · subst e3
                go_wp2_with fail
                refine (IH.out its its' A' il c' A3 il' c3' _ (by omega) (hr.mono hb2 (by simp; omega)) (hr'.mono hb2 (by simp; omega))).mono ?_
                rintro e w1 ⟨r, rfl, hr1, hb1⟩
                have hb3 : Below w.heap.size w w1 := hb2.trans (hb1.mono (by simp; omega))
                cases r with
                | true =>
                  have hits : its = its' := hr1.1 rfl
                  have hgood := Lib.hid (take_same HDK.out HDK'.out Hs.out (by rw [hits]))
                  clear hits hr1
                  go_wp2_with fail
                  go_roundw
                  case rel => exact ⟨k + 1, by omega, by go_num, hgood.out, hb3⟩
                  case measure => simp [intOf]; omega
                | false =>
                  have hbad := Lib.hid (differ_at HDK.out HDK'.out (by intro h; injection h with _ _ _ h; exact absurd (hr1.2 h) (by simp)))
                  clear hr1
                  go_wp2_with fail
                  go_ret
                  exact Tells.no hbad.out hb3
              · have hbad := Lib.hid (differ_at HDK.out HDK'.out (by intro h; injection h with _ _ h _; exact e3 h))
                have t1 : (txt.toList == txt'.toList) = false := by
                  cases hx : (txt.toList == txt'.toList) with
                  | false => rfl
                  | true => exact absurd (text_eq.1 hx) e3
                clear e3
                go_wp2_with fail
                go_ret
                exact Tells.no hbad.out hb2
            · have hbad := Lib.hid (differ_at HDK.out HDK'.out (by intro h; injection h with _ h _ _; exact e2 h))
              have t1 : (num != num') = true := by simp [e2]
              clear e2
              go_wp2_with fail
              go_ret
              exact Tells.no hbad.out hb2
          · have hbad := Lib.hid (differ_at HDK.out HDK'.out (by intro h; injection h with h _ _ _; exact e1 h))
            cases nn with
            | true =>
              obtain rfl : nn' = false := by simpa using e1
              clear e1
              go_wp2_with fail
              go_ret
              exact Tells.no hbad.out hb2
            | false =>
              obtain rfl : nn' = true := by simpa using e1
              clear e1
              go_wp2_with fail
              go_ret
              exact Tells.no hbad.out hb2
        · obtain rfl : k = n := by omega
          have hfin : ds = es := by
            have := Hs.out
            rwa [List.take_of_length_le (by have := Hn.out; omega), List.take_of_length_le (by have := Hn3.out; omega)] at this
          have HF := Lib.hid hfin
          clear hfin
          go_wp2_with fail
          go_ret
          exact Tells.yes HF.out hb
    · have hne : Hid (¬ (ds = es)) := by
        intro h; subst h; omega
      have e1 : ((n : Int) != (n2 : Int)) = true := by simp; omega
      clear hd hn3 h0 hn
      go_enter Tryz.func24, Tryz.ntmps24
      go_wp2_with fail
      go_ret
      exact Tells.no hne.out (Below.refl _ _)
end Go.Proofs.YtglgclkgppomiaaGreat

namespace Go.Proofs.YtglgclkgppomiaaGreat
open Go Go.RowKit

set_option maxRecDepth 100000 in
set_option maxHeartbeats 1000000 in
theorem sameCells_any (cs es : List Cl) (A : Option Addr) (n c : Nat) (A2 : Option Addr) (n2 c2 : Nat) (w : World) (hmax : n ≤ 1000000000000) (h : ClsAt w w.heap.size A n c cs) (hd : ClsAt w w.heap.size A2 n2 c2 es) :
      Calls Tryz.prog 23 #[.slice A n c, .slice A2 n2 c2] w (Tells (cs = es) w.heap.size w) := by
    obtain hn := h.1
    obtain hn3 := hd.1
    by_cases h0 : n = n2
    · subst h0
      have Hn := Lib.hid hn
      have Hn3 := Lib.hid hn3
      clear hn hn3
      go_enter Tryz.func23, Tryz.ntmps23
      go_wp2_with fail
      go_loopw [13] (fun i wr => ∃ k : Nat, k ≤ n ∧ i = .int .i64 k ∧ cs.take k = es.take k ∧ Below w.heap.size w wr) (fun i _ => n - (intOf i).toNat)
      case atStart => exact ⟨0, Nat.zero_le _, rfl, by simp, Below.refl _ _⟩
      case round =>
        obtain ⟨k, hk, rfl, hsame, hb⟩ := hrel
        have Hs := Lib.hid hsame
        clear hsame
        by_cases hlt : k < n
        · obtain ⟨b, o, d, rfl, hbl, hkd, c0, c1, c2', c3, c4, c5, c6⟩ := h.at_ hlt
          obtain ⟨b', o', d', rfl, hbl', hkd', g0, g1, g2, g3, g4, g5, g6⟩ := hd.at_ hlt
          have HDK := Lib.hid hkd
          have HDK' := Lib.hid hkd'
          have d0 := (bcell hb hbl).trans c0
          have d1 := (bcell hb hbl).trans c1
          have d2 := (bcell hb hbl).trans c2'
          have d3 := (bcell hb hbl).trans c3
          have d4 := (bcell hb hbl).trans c4
          have d5 := (bcell hb hbl).trans c5
          have d6 := (bcell hb hbl).trans c6
          have q0 := (bcell hb hbl').trans g0
          have q1 := (bcell hb hbl').trans g1
          have q2 := (bcell hb hbl').trans g2
          have q3 := (bcell hb hbl').trans g3
          have q4 := (bcell hb hbl').trans g4
          have q5 := (bcell hb hbl').trans g5
          have q6 := (bcell hb hbl').trans g6
          have hk0 : (0 : Int) ≤ (k : Int) := Int.natCast_nonneg _
          clear c0 c1 c2' c3 c4 c5 c6 g0 g1 g2 g3 g4 g5 g6 hkd hkd'
          go_wp2_with fail
          refine still_tail 8 (by kernel_rfl) (by kernel_rfl) ?_
          simp only [List.take_succ_cons, List.take_zero, List.drop_succ_cons, List.drop_zero]
          repeat still_step
          refine wpStill_nil ?_
          go_wp2_with fail
          all_goals first
            | (go_ret
               exact Tells.no (differ_at HDK.out HDK'.out (by intro hx; subst hx; first | contradiction | (rename_i hy; exact hy rfl))) hb.drew)
            | (have hdd : d = d' := by
                 obtain ⟨x0, x1, x2, x3, x4, x5, x6⟩ := d
                 obtain ⟨y0, y1, y2, y3, y4, y5, y6⟩ := d'
                 simp only [Cl.mk.injEq]
                 refine ⟨?_, ?_, ?_, ?_, ?_, ?_, ?_⟩ <;> first | assumption | (exact text_eq.1 (by simp only [beq_iff_eq]; assumption))
               have hgood := Lib.hid (take_same HDK.out HDK'.out Hs.out hdd)
               clear hdd
               go_roundw
               case rel => exact ⟨k + 1, by omega, by go_num, hgood.out, hb.drew⟩
               case measure => simp [intOf]; omega)
        · obtain rfl : k = n := by omega
          have hfin : cs = es := by
            have := Hs.out
            rwa [List.take_of_length_le (by have := Hn.out; omega), List.take_of_length_le (by have := Hn3.out; omega)] at this
          have HF := Lib.hid hfin
          clear hfin
          go_wp2_with fail
          go_ret
          exact Tells.yes HF.out hb
    · have hne : Hid (¬ (cs = es)) := by
        intro h; subst h; omega
      have e1 : ((n : Int) != (n2 : Int)) = true := by simp; omega
      clear hd hn3 h0 hn
      go_enter Tryz.func23, Tryz.ntmps23
      go_wp2_with fail
      go_ret
      exact Tells.no hne.out (Below.refl _ _)
end Go.Proofs.YtglgclkgppomiaaGreat

namespace Go.Proofs.YtglgclkgppomiaaGreat
open Go Go.RowKit

/-- The value of a field by value. -/
abbrev fdVal (f : Fd) (A : Option Addr) (c : Nat) : Value := .agg #[.string f.name, .int .i64 f.way, .int .i64 f.kind, .slice A f.kids.length c]

set_option maxHeartbeats 400000 in
theorem leavesOf_step (N : Nat) (_hN : N ≤ 1000000000) (ih : ∀ (fs : List Fd) (A : Option Addr) (n c : Nat) (w : World), fdsSize fs ≤ N → FdsAt w w.heap.size A n c fs →
      Calls Tryz.prog 25 #[.slice A n c] w fun e w' => e = .returned (.int .i64 (leaves fs)) ∧ Below w.heap.size w w')
    (f : Fd) (A : Option Addr) (c : Nat) (w : World) (hf : fdSize f ≤ N + 1) (h : FdsAt w w.heap.size A f.kids.length c f.kids) :
    Calls Tryz.prog 55 #[fdVal f A c] w fun e w' => e = .returned (.int .i64 (leavesOf f)) ∧ Below w.heap.size w w' := by
  have hs := fdSize_kids f
  by_cases hk : f.kids = []
  · have hl := leavesOf_leaf hk
    have hz : ((f.kids.length : Int) == 0) = true := by simp [hk]
    go_enter Tryz.func55, Tryz.ntmps55
    go_wp2_with fail
    go_ret
    exact ⟨ret_int (by simp [hl]), (Below.refl _ _).alloc (Nat.le_refl _) _⟩
  · have hl := leavesOf_group hk
    have hz : ((f.kids.length : Int) == 0) = false := by simp [hk]
    have HL := Lib.hid hl
    have Hk := Lib.hid hk
    clear hl hk
    go_enter Tryz.func55, Tryz.ntmps55
    go_wp2_with fail
    refine (ih f.kids A _ c _ (by omega) (h.mono ((Below.refl _ _).alloc (Nat.le_refl _) _) (by simp))).mono ?_
    rintro e w1 ⟨rfl, hb⟩
    go_wp2_with fail
    go_ret
    exact ⟨ret_int (by rw [HL.out]), (((Below.refl _ _).alloc (Nat.le_refl _) _).trans (hb.mono (by simp)))⟩

set_option maxHeartbeats 400000 in
theorem leaves_all (N : Nat) : N ≤ 1000000000 → ∀ (fs : List Fd) (A : Option Addr) (n c : Nat) (w : World), fdsSize fs ≤ N → FdsAt w w.heap.size A n c fs →
      Calls Tryz.prog 25 #[.slice A n c] w fun e w' => e = .returned (.int .i64 (leaves fs)) ∧ Below w.heap.size w w' := by
  induction N with
  | zero =>
    intro _ fs A n c w hs h
    have hl := fdsSize_length fs
    obtain ⟨hn, _⟩ := h.len
    obtain rfl : fs = [] := List.eq_nil_of_length_eq_zero (by omega)
    obtain rfl : n = 0 := by simpa using hn.symm
    clear h hl hn hs
    go_enter Tryz.func25, Tryz.ntmps25
    go_wp2_with fail
    go_loopw [3, 8] (fun m i wr => i = .int .i64 (0 : Nat) ∧ m = .int .i64 (0 : Nat) ∧ wr = w) (fun _ _ _ => 0)
    case atStart => exact ⟨rfl, rfl, rfl⟩
    case round =>
      obtain ⟨rfl, rfl, rfl⟩ := hrel
      go_wp2_with fail
      go_ret
      exact ⟨ret_int (by simp [leaves]), Below.refl _ _⟩
  | succ N ih =>
    intro hN fs A n c w hs h
    have step := leavesOf_step N (by omega) (ih (by omega))
    have Hstep := Lib.hid step
    clear ih step
    obtain ⟨hn, hc⟩ := h.len
    have hl := fdsSize_length fs
    subst hn
    go_enter Tryz.func25, Tryz.ntmps25
    go_wp2_with fail
    go_loopw [3, 8] (fun m i wr => ∃ k : Nat, k ≤ fs.length ∧ i = .int .i64 k ∧ m = .int .i64 (leaves (fs.take k) : Nat) ∧ Below w.heap.size w wr) (fun _ i _ => fs.length - (intOf i).toNat)
    case atStart => exact ⟨0, Nat.zero_le _, rfl, by simp [leaves], Below.refl _ _⟩
    case round =>
      obtain ⟨k, hk, rfl, rfl, hb⟩ := hrel
      have hle := leaves_take_le fs k
      by_cases hlt : k < fs.length
      · obtain ⟨b, o, f, A', c', rfl, hbl, hkf, c0, c1, c2, c3, hr⟩ := h.at_ hlt
        have hsn := Lib.hid (leaves_snoc fs k f hkf)
        have hfs := fdsSize_get fs k f hkf
        have hlo := leavesOf_le _ f (Nat.le_refl _)
        have d0 := (bcell hb hbl).trans c0
        have d1 := (bcell hb hbl).trans c1
        have d2 := (bcell hb hbl).trans c2
        have d3 := (bcell hb hbl).trans c3
        have Hkf := Lib.hid hkf
        clear c0 c1 c2 c3 hkf
        go_wp2_with fail
        refine (Hstep.out f A' c' _ (by omega) (hr.mono (hb.alloc hb.size _) (by have := hb.size; simp; omega))).mono ?_
        rintro e w1 ⟨rfl, hb1⟩
        have hb2 : Below w.heap.size w w1 := (hb.alloc hb.size _).trans (hb1.mono (by have := hb.size; simp; omega))
        go_wp2_with fail
        go_roundw
        case rel => exact ⟨k + 1, by omega, by go_num, by rw [hsn.out]; go_num, hb2⟩
        case measure => simp [intOf]; omega
      · obtain rfl : k = fs.length := by omega
        go_wp2_with fail
        go_ret
        exact ⟨ret_int (by rw [List.take_of_length_le (Nat.le_refl _)]), hb⟩
end Go.Proofs.YtglgclkgppomiaaGreat
