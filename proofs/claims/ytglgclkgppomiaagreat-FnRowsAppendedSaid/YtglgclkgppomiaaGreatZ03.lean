/- Nodes of a schema in memory: what a node says of itself (may be missing, may stand often, its kind, its fields). The methods of nodes: what a call through an interface value that holds a node comes to. -/
import Derived.Test.YtglgclkgppomiaaGreatZ02
import Derived.Maps.RangeRun
set_option linter.unusedVariables false
set_option linter.unusedSimpArgs false
namespace Go.Proofs.YtglgclkgppomiaaGreat
open Go Go.RowKit

/-- A node (an interface value of type T holding x) in blocks from lo on and below B, under d wrappers: may it be missing, may it stand often, the kind of its values, its fields. -/
inductive IsNd (w : World) (lo B : Nat) : Nat → TypeId → Value → Bool → Bool → Int → List Fd → Prop where
  | leaf (a : Nat) (k : Int) (hlo : lo ≤ a) (hb : a < B) (hc : w.cell? ⟨a, 0, none⟩ = some (.iface 173 (.int .i8 k))) : IsNd w lo B 0 170 (.pointer (some ⟨a, 0, none⟩)) false false k []
  | group (m : Nat) (es : Array MapEntry) (kids : List Fd) (T : Nat → TypeId) (X : Nat → Value) (hlo : lo ≤ m) (hb : m < B) (hne : kids ≠ []) (hm : w.heap[m]? = some (.map es kids.length)) (hes : es.size = kids.length)
      (hk : ∀ i f, kids[i]? = some f → es[i]? = some (MapEntry.mk (.string f.name) (.iface (T i) (X i)) i))
      (hr : ∀ i f, kids[i]? = some f → IsNd w lo B 1 (T i) (X i) (f.way == 1) (f.way == 2) f.kind f.kids) : IsNd w lo B 0 121 (.map (some m)) false false 0 kids
  | opt (d a : Nat) (T : TypeId) (x : Value) (o r : Bool) (k : Int) (kids : List Fd) (hlo : lo ≤ a) (hb : a < B) (hc : w.cell? ⟨a, 0, none⟩ = some (.iface T x)) (h : IsNd w lo B d T x o r k kids) : IsNd w lo B (d + 1) 174 (.pointer (some ⟨a, 0, none⟩)) true false k kids
  | rep (d a : Nat) (T : TypeId) (x : Value) (o r : Bool) (k : Int) (kids : List Fd) (hlo : lo ≤ a) (hb : a < B) (hc : w.cell? ⟨a, 0, none⟩ = some (.iface T x)) (h : IsNd w lo B d T x o r k kids) : IsNd w lo B (d + 1) 176 (.pointer (some ⟨a, 0, none⟩)) false true k kids
  | req (d a : Nat) (T : TypeId) (x : Value) (o r : Bool) (k : Int) (kids : List Fd) (hlo : lo ≤ a) (hb : a < B) (hc : w.cell? ⟨a, 0, none⟩ = some (.iface T x)) (h : IsNd w lo B d T x o r k kids) : IsNd w lo B (d + 1) 167 (.pointer (some ⟨a, 0, none⟩)) false false k kids
  | fld (d b off : Nat) (T : TypeId) (x : Value) (o r : Bool) (k : Int) (kids : List Fd) (hlo : lo ≤ b) (hb : b < B) (hc : w.cell? ⟨b, off, none⟩ = some (.iface T x)) (h : IsNd w lo B d T x o r k kids) : IsNd w lo B (d + 1) 212 (.pointer (some ⟨b, off, none⟩)) o r k kids

theorem IsNd.frame {w w' : World} {lo B lo' B' : Nat} (hf : ∀ b, lo ≤ b → b < B → w'.heap[b]? = w.heap[b]?) (hlo' : lo' ≤ lo) (hB' : B ≤ B') {d : Nat} {T : TypeId} {x : Value} {o r : Bool} {k : Int} {kids : List Fd}
    (h : IsNd w lo B d T x o r k kids) : IsNd w' lo' B' d T x o r k kids := by
  have hcell : ∀ {b off : Nat} {v : Value}, lo ≤ b → b < B → w.cell? ⟨b, off, none⟩ = some v → w'.cell? ⟨b, off, none⟩ = some v := fun {b off v} h1 h2 h3 => by
    rw [World.cell?_of_block (a := ⟨b, off, none⟩) (hf b h1 h2)]; exact h3
  induction h with
  | leaf a k hlo hb hc => exact .leaf a k (Nat.le_trans hlo' hlo) (Nat.lt_of_lt_of_le hb hB') (hcell hlo hb hc)
  | group m es kids T X hlo hb hne hm hes hk hr ih => exact .group m es kids T X (Nat.le_trans hlo' hlo) (Nat.lt_of_lt_of_le hb hB') hne ((hf m hlo hb).trans hm) hes hk ih
  | opt d a T x o r k kids hlo hb hc h ih => exact .opt d a T x o r k kids (Nat.le_trans hlo' hlo) (Nat.lt_of_lt_of_le hb hB') (hcell hlo hb hc) ih
  | rep d a T x o r k kids hlo hb hc h ih => exact .rep d a T x o r k kids (Nat.le_trans hlo' hlo) (Nat.lt_of_lt_of_le hb hB') (hcell hlo hb hc) ih
  | req d a T x o r k kids hlo hb hc h ih => exact .req d a T x o r k kids (Nat.le_trans hlo' hlo) (Nat.lt_of_lt_of_le hb hB') (hcell hlo hb hc) ih
  | fld d b off T x o r k kids hlo hb hc h ih => exact .fld d b off T x o r k kids (Nat.le_trans hlo' hlo) (Nat.lt_of_lt_of_le hb hB') (hcell hlo hb hc) ih
theorem IsNd.keep {w w' : World} {lo B lo' B' : Nat} (hb : Below B w w') (hlo' : lo' ≤ lo) (hB' : B ≤ B') {d : Nat} {T : TypeId} {x : Value} {o r : Bool} {k : Int} {kids : List Fd}
    (h : IsNd w lo B d T x o r k kids) : IsNd w' lo' B' d T x o r k kids := h.frame (fun b _ hlt => hb.block b hlt) hlo' hB'

/-- A schema's fields are in order at a depth. -/
def OkL (fs : List Fd) (d : Int) : Prop := ∃ n, cntL none fs d = some n
theorem OkL.at_ {fs : List Fd} {d : Int} (h : OkL fs d) {k : Nat} {f : Fd} (hk : fs[k]? = some f) :
    0 ≤ f.way ∧ f.way ≤ 2 ∧ d ≤ 60 ∧ (f.kids = [] → isKd f.kind = true) ∧ (f.kids ≠ [] → f.kind = 0 ∧ OkL f.kids (d + 1)) := by
  obtain ⟨n, hn⟩ := h
  have h1 : okHead (lastNm none (fs.take k)) f d = true := by
    cases hx : okHead (lastNm none (fs.take k)) f d with
    | true => rfl
    | false => rw [cntL_bad hk (.inl hx)] at hn; cases hn
  have h2 : cntF f d ≠ none := fun hx => by rw [cntL_bad hk (.inr hx)] at hn; cases hn
  simp only [okHead, Bool.and_eq_true, decide_eq_true_eq] at h1
  refine ⟨h1.1.1.2, h1.1.2, h1.2, fun hkd => ?_, fun hkd => ?_⟩
  · rw [cntF_leaf hkd] at h2
    by_cases hx : isKd f.kind = true
    · exact hx
    · rw [if_neg hx] at h2; exact absurd rfl h2
  · rw [cntF_group hkd] at h2
    cases hc : cntL none f.kids (d + 1) with
    | none => rw [hc] at h2; exact absurd rfl h2
    | some m =>
      rw [hc] at h2
      by_cases hx : f.kind = 0
      · exact ⟨hx, m, hc⟩
      · simp only [hx, if_false] at h2; exact absurd rfl h2
/-- Names rise: each is less than the next one. -/
theorem OkL.rise {fs : List Fd} {d : Int} (h : OkL fs d) {k : Nat} {f g : Fd} (hf : fs[k]? = some f) (hg : fs[k + 1]? = some g) : Op.bytesLess f.name.toList g.name.toList = true := by
  obtain ⟨n, hn⟩ := h
  have h1 : okHead (lastNm none (fs.take (k + 1))) g d = true := by
    cases hx : okHead (lastNm none (fs.take (k + 1))) g d with
    | true => rfl
    | false => rw [cntL_bad hg (.inl hx)] at hn; cases hn
  have hk := (List.getElem?_eq_some_iff.1 hg).1
  rw [lastNm_take fs (k + 1) (by omega), dif_pos (by omega)] at h1
  simp only [okHead, Bool.and_eq_true, Nat.add_sub_cancel, (List.getElem?_eq_some_iff.1 hf).2] at h1
  exact h1.1.1.1.2

/-- A block is stored anew. -/
def putObj (w : World) (r : Nat) (o : Obj) : World := { w with heap := w.heap.setIfInBounds r o }
theorem putObj_size (w : World) (r : Nat) (o : Obj) : (putObj w r o).heap.size = w.heap.size := by simp [putObj]
theorem putObj_other (w : World) (r : Nat) (o : Obj) {b : Nat} (h : b ≠ r) : (putObj w r o).heap[b]? = w.heap[b]? := by simp [putObj, Ne.symm h]
theorem putObj_same (w : World) (r : Nat) (o : Obj) (h : r < w.heap.size) : (putObj w r o).heap[r]? = some o := by simp [putObj, h]
theorem putObj_cell (w : World) (r : Nat) (o : Obj) {b off : Nat} (h : b ≠ r) : (putObj w r o).cell? ⟨b, off, none⟩ = w.cell? ⟨b, off, none⟩ := World.cell?_of_block (a := ⟨b, off, none⟩) (putObj_other w r o h)
theorem below_putObj {B : Nat} {w w' : World} (h : Below B w w') {r : Nat} (hr : B ≤ r) (o : Obj) : Below B w (putObj w' r o) :=
  ⟨h.os, h.tape, h.output, by rw [putObj_size]; exact h.size, fun b hb => (putObj_other w' r o (by omega)).trans (h.block b hb)⟩

theorem bl_irrefl : ∀ x : List UInt8, Op.bytesLess x x = false
  | [] => by simp [Op.bytesLess]
  | a :: x => by have := bl_irrefl x; simp [Op.bytesLess, this]
theorem bl_trans : ∀ x y z : List UInt8, Op.bytesLess x y = true → Op.bytesLess y z = true → Op.bytesLess x z = true
  | _, [], z, h, _ => by simp [Op.bytesLess] at h
  | _, _ :: _, [], _, h => by simp [Op.bytesLess] at h
  | [], _ :: _, _ :: _, _, _ => by simp [Op.bytesLess]
  | a :: x, b :: y, c :: z, h1, h2 => by
    have ih := bl_trans x y z
    simp only [Op.bytesLess, Bool.or_eq_true, Bool.and_eq_true, decide_eq_true_eq, beq_iff_eq] at *
    rcases h1 with h1 | ⟨rfl, h1⟩
    · rcases h2 with h2 | ⟨rfl, h2⟩
      · exact .inl (UInt8.lt_trans h1 h2)
      · exact .inl h1
    · rcases h2 with h2 | ⟨rfl, h2⟩
      · exact .inl h2
      · exact .inr ⟨rfl, ih h1 h2⟩
/-- Names rise, whatever two fields. -/
theorem OkL.lt {fs : List Fd} {d : Int} (h : OkL fs d) : ∀ (n i : Nat) (f g : Fd), fs[i]? = some f → fs[i + n + 1]? = some g → Op.bytesLess f.name.toList g.name.toList = true := by
  intro n
  induction n with
  | zero => intro i f g hf hg; exact h.rise hf hg
  | succ n ih =>
    intro i f g hf hg
    have hlt := (List.getElem?_eq_some_iff.1 hg).1
    have hm : fs[i + n + 1]? = some (fs[i + n + 1]'(by omega)) := List.getElem?_eq_getElem _
    exact bl_trans _ _ _ (ih i f _ hf hm) (h.rise hm hg)
theorem OkL.ne {fs : List Fd} {d : Int} (h : OkL fs d) {i j : Nat} {f g : Fd} (hij : i < j) (hf : fs[i]? = some f) (hg : fs[j]? = some g) : f.name ≠ g.name := by
  intro he
  have := h.lt (j - i - 1) i f g hf (by rw [show i + (j - i - 1) + 1 = j from by omega]; exact hg)
  rw [he, bl_irrefl] at this
  cases this
/-- A group's kind is 0. -/
theorem IsNd.kindGroup {w : World} {lo B d : Nat} {T : TypeId} {x : Value} {o r : Bool} {k : Int} {kids : List Fd} (h : IsNd w lo B d T x o r k kids) : kids = [] ∨ k = 0 := by
  induction h with
  | leaf => exact .inl rfl
  | group => exact .inr rfl
  | opt _ _ _ _ _ _ _ _ _ _ _ _ ih => exact ih
  | rep _ _ _ _ _ _ _ _ _ _ _ _ ih => exact ih
  | req _ _ _ _ _ _ _ _ _ _ _ _ ih => exact ih
  | fld _ _ _ _ _ _ _ _ _ _ _ _ _ ih => exact ih
end Go.Proofs.YtglgclkgppomiaaGreat

namespace Go.Proofs.YtglgclkgppomiaaGreat
open Go Go.RowKit

theorem load_iface (w : World) (a : Addr) (T : TypeId) (x : Value) (hc : w.cell? a = some (.iface T x)) : (loadVar 67 a).run Tryz.prog w = .ok (.iface T x) w := by
  have hu := Tryz.underlying67
  simp [go_sem, hc]
def thru (n : Nat) (name : String) : Value → Sem (FuncId × Value)
  | .iface t' v' => method n t' v' name
  | .nilIface => runtimePanic .nilDeref
  | _ => stuck "method row: interface value expected"
theorem run_thru (n : Nat) (name : String) (w : World) (a : Addr) (T : TypeId) (x : Value) (hc : w.cell? a = some (.iface T x)) :
    (loadVar 67 a >>= thru n name).run Tryz.prog w = (method n T x name).run Tryz.prog w := by
  rw [Sem.run_bind, load_iface w a T x hc]
  rfl
theorem m170_Fields (n : Nat) (v : Option Addr) (w : World) : (method (n + 1) 170 (.pointer v) "Fields").run Tryz.prog w = .ok (210, (.pointer v)) w := by kernel_rfl
theorem m170_Leaf (n : Nat) (v : Option Addr) (w : World) : (method (n + 1) 170 (.pointer v) "Leaf").run Tryz.prog w = .ok (211, (.pointer v)) w := by kernel_rfl
theorem m170_Optional (n : Nat) (v : Option Addr) (w : World) : (method (n + 1) 170 (.pointer v) "Optional").run Tryz.prog w = .ok (212, (.pointer v)) w := by kernel_rfl
theorem m170_Repeated (n : Nat) (v : Option Addr) (w : World) : (method (n + 1) 170 (.pointer v) "Repeated").run Tryz.prog w = .ok (213, (.pointer v)) w := by kernel_rfl
theorem m170_Type (n : Nat) (v : Option Addr) (w : World) : (method (n + 1) 170 (.pointer v) "Type").run Tryz.prog w = .ok (215, (.pointer v)) w := by kernel_rfl
theorem m121_Fields (n : Nat) (v : Option Nat) (w : World) : (method (n + 1) 121 (.map v) "Fields").run Tryz.prog w = .ok (178, (.map v)) w := by kernel_rfl
theorem m121_Leaf (n : Nat) (v : Option Nat) (w : World) : (method (n + 1) 121 (.map v) "Leaf").run Tryz.prog w = .ok (179, (.map v)) w := by kernel_rfl
theorem m121_Optional (n : Nat) (v : Option Nat) (w : World) : (method (n + 1) 121 (.map v) "Optional").run Tryz.prog w = .ok (180, (.map v)) w := by kernel_rfl
theorem m121_Repeated (n : Nat) (v : Option Nat) (w : World) : (method (n + 1) 121 (.map v) "Repeated").run Tryz.prog w = .ok (181, (.map v)) w := by kernel_rfl
theorem m121_Type (n : Nat) (v : Option Nat) (w : World) : (method (n + 1) 121 (.map v) "Type").run Tryz.prog w = .ok (183, (.map v)) w := by kernel_rfl
theorem m167_Fields (n : Nat) (a : Addr) (w : World) (T : TypeId) (x : Value) (hc : w.cell? a = some (.iface T x)) : (method (n + 1) 167 (.pointer (some a)) "Fields").run Tryz.prog w = (method n T x "Fields").run Tryz.prog w := by
  have h : (method (n + 1) 167 (.pointer (some a)) "Fields").run Tryz.prog w = (loadVar 67 a >>= thru n "Fields").run Tryz.prog w := by kernel_rfl
  rw [h, run_thru n _ w a T x hc]
theorem m167_Leaf (n : Nat) (a : Addr) (w : World) (T : TypeId) (x : Value) (hc : w.cell? a = some (.iface T x)) : (method (n + 1) 167 (.pointer (some a)) "Leaf").run Tryz.prog w = (method n T x "Leaf").run Tryz.prog w := by
  have h : (method (n + 1) 167 (.pointer (some a)) "Leaf").run Tryz.prog w = (loadVar 67 a >>= thru n "Leaf").run Tryz.prog w := by kernel_rfl
  rw [h, run_thru n _ w a T x hc]
theorem m167_Optional (n : Nat) (v : Option Addr) (w : World) : (method (n + 1) 167 (.pointer v) "Optional").run Tryz.prog w = .ok (207, (.pointer v)) w := by kernel_rfl
theorem m167_Repeated (n : Nat) (v : Option Addr) (w : World) : (method (n + 1) 167 (.pointer v) "Repeated").run Tryz.prog w = .ok (208, (.pointer v)) w := by kernel_rfl
theorem m167_Type (n : Nat) (a : Addr) (w : World) (T : TypeId) (x : Value) (hc : w.cell? a = some (.iface T x)) : (method (n + 1) 167 (.pointer (some a)) "Type").run Tryz.prog w = (method n T x "Type").run Tryz.prog w := by
  have h : (method (n + 1) 167 (.pointer (some a)) "Type").run Tryz.prog w = (loadVar 67 a >>= thru n "Type").run Tryz.prog w := by kernel_rfl
  rw [h, run_thru n _ w a T x hc]
theorem m174_Fields (n : Nat) (a : Addr) (w : World) (T : TypeId) (x : Value) (hc : w.cell? a = some (.iface T x)) : (method (n + 1) 174 (.pointer (some a)) "Fields").run Tryz.prog w = (method n T x "Fields").run Tryz.prog w := by
  have h : (method (n + 1) 174 (.pointer (some a)) "Fields").run Tryz.prog w = (loadVar 67 a >>= thru n "Fields").run Tryz.prog w := by kernel_rfl
  rw [h, run_thru n _ w a T x hc]
theorem m174_Leaf (n : Nat) (a : Addr) (w : World) (T : TypeId) (x : Value) (hc : w.cell? a = some (.iface T x)) : (method (n + 1) 174 (.pointer (some a)) "Leaf").run Tryz.prog w = (method n T x "Leaf").run Tryz.prog w := by
  have h : (method (n + 1) 174 (.pointer (some a)) "Leaf").run Tryz.prog w = (loadVar 67 a >>= thru n "Leaf").run Tryz.prog w := by kernel_rfl
  rw [h, run_thru n _ w a T x hc]
theorem m174_Optional (n : Nat) (v : Option Addr) (w : World) : (method (n + 1) 174 (.pointer v) "Optional").run Tryz.prog w = .ok (217, (.pointer v)) w := by kernel_rfl
theorem m174_Repeated (n : Nat) (v : Option Addr) (w : World) : (method (n + 1) 174 (.pointer v) "Repeated").run Tryz.prog w = .ok (218, (.pointer v)) w := by kernel_rfl
theorem m174_Type (n : Nat) (a : Addr) (w : World) (T : TypeId) (x : Value) (hc : w.cell? a = some (.iface T x)) : (method (n + 1) 174 (.pointer (some a)) "Type").run Tryz.prog w = (method n T x "Type").run Tryz.prog w := by
  have h : (method (n + 1) 174 (.pointer (some a)) "Type").run Tryz.prog w = (loadVar 67 a >>= thru n "Type").run Tryz.prog w := by kernel_rfl
  rw [h, run_thru n _ w a T x hc]
theorem m176_Fields (n : Nat) (a : Addr) (w : World) (T : TypeId) (x : Value) (hc : w.cell? a = some (.iface T x)) : (method (n + 1) 176 (.pointer (some a)) "Fields").run Tryz.prog w = (method n T x "Fields").run Tryz.prog w := by
  have h : (method (n + 1) 176 (.pointer (some a)) "Fields").run Tryz.prog w = (loadVar 67 a >>= thru n "Fields").run Tryz.prog w := by kernel_rfl
  rw [h, run_thru n _ w a T x hc]
theorem m176_Leaf (n : Nat) (a : Addr) (w : World) (T : TypeId) (x : Value) (hc : w.cell? a = some (.iface T x)) : (method (n + 1) 176 (.pointer (some a)) "Leaf").run Tryz.prog w = (method n T x "Leaf").run Tryz.prog w := by
  have h : (method (n + 1) 176 (.pointer (some a)) "Leaf").run Tryz.prog w = (loadVar 67 a >>= thru n "Leaf").run Tryz.prog w := by kernel_rfl
  rw [h, run_thru n _ w a T x hc]
theorem m176_Optional (n : Nat) (v : Option Addr) (w : World) : (method (n + 1) 176 (.pointer v) "Optional").run Tryz.prog w = .ok (220, (.pointer v)) w := by kernel_rfl
theorem m176_Repeated (n : Nat) (v : Option Addr) (w : World) : (method (n + 1) 176 (.pointer v) "Repeated").run Tryz.prog w = .ok (221, (.pointer v)) w := by kernel_rfl
theorem m176_Type (n : Nat) (a : Addr) (w : World) (T : TypeId) (x : Value) (hc : w.cell? a = some (.iface T x)) : (method (n + 1) 176 (.pointer (some a)) "Type").run Tryz.prog w = (method n T x "Type").run Tryz.prog w := by
  have h : (method (n + 1) 176 (.pointer (some a)) "Type").run Tryz.prog w = (loadVar 67 a >>= thru n "Type").run Tryz.prog w := by kernel_rfl
  rw [h, run_thru n _ w a T x hc]
theorem m212_Fields (n : Nat) (a : Addr) (w : World) (T : TypeId) (x : Value) (hc : w.cell? a = some (.iface T x)) : (method (n + 1) 212 (.pointer (some a)) "Fields").run Tryz.prog w = (method n T x "Fields").run Tryz.prog w := by
  have h : (method (n + 1) 212 (.pointer (some a)) "Fields").run Tryz.prog w = (loadVar 67 a >>= thru n "Fields").run Tryz.prog w := by kernel_rfl
  rw [h, run_thru n _ w a T x hc]
theorem m212_Leaf (n : Nat) (a : Addr) (w : World) (T : TypeId) (x : Value) (hc : w.cell? a = some (.iface T x)) : (method (n + 1) 212 (.pointer (some a)) "Leaf").run Tryz.prog w = (method n T x "Leaf").run Tryz.prog w := by
  have h : (method (n + 1) 212 (.pointer (some a)) "Leaf").run Tryz.prog w = (loadVar 67 a >>= thru n "Leaf").run Tryz.prog w := by kernel_rfl
  rw [h, run_thru n _ w a T x hc]
theorem m212_Optional (n : Nat) (a : Addr) (w : World) (T : TypeId) (x : Value) (hc : w.cell? a = some (.iface T x)) : (method (n + 1) 212 (.pointer (some a)) "Optional").run Tryz.prog w = (method n T x "Optional").run Tryz.prog w := by
  have h : (method (n + 1) 212 (.pointer (some a)) "Optional").run Tryz.prog w = (loadVar 67 a >>= thru n "Optional").run Tryz.prog w := by kernel_rfl
  rw [h, run_thru n _ w a T x hc]
theorem m212_Repeated (n : Nat) (a : Addr) (w : World) (T : TypeId) (x : Value) (hc : w.cell? a = some (.iface T x)) : (method (n + 1) 212 (.pointer (some a)) "Repeated").run Tryz.prog w = (method n T x "Repeated").run Tryz.prog w := by
  have h : (method (n + 1) 212 (.pointer (some a)) "Repeated").run Tryz.prog w = (loadVar 67 a >>= thru n "Repeated").run Tryz.prog w := by kernel_rfl
  rw [h, run_thru n _ w a T x hc]
theorem m212_Type (n : Nat) (a : Addr) (w : World) (T : TypeId) (x : Value) (hc : w.cell? a = some (.iface T x)) : (method (n + 1) 212 (.pointer (some a)) "Type").run Tryz.prog w = (method n T x "Type").run Tryz.prog w := by
  have h : (method (n + 1) 212 (.pointer (some a)) "Type").run Tryz.prog w = (loadVar 67 a >>= thru n "Type").run Tryz.prog w := by kernel_rfl
  rw [h, run_thru n _ w a T x hc]

/-- A call of a method through an interface value comes to a function of the program, and that call ends in R. -/
def Ans (w : World) (T : TypeId) (x : Value) (name : String) (R : Ending → World → Prop) : Prop :=
  ∃ f recv, (method 337 T x name).run Tryz.prog w = .ok (f, recv) w ∧ (∀ W, (callFunc f #[recv]).run Tryz.prog W = .ok (.enter f #[recv]) W) ∧ Calls Tryz.prog f #[recv] w R

def SaysBool (b : Bool) (w : World) (e : Ending) (w' : World) : Prop := e = .returned (.bool b) ∧ w = w'
theorem says179 (v : Value) (w : World) : Calls Tryz.prog 179 #[v] w (SaysBool false w) := by
  go_enter Tryz.func179, Tryz.ntmps179
  go_wp2_with fail
  go_ret
  exact ⟨rfl, rfl⟩
theorem cf179 (v : Value) (W : World) : (callFunc 179 #[v]).run Tryz.prog W = .ok (.enter 179 #[v]) W := by kernel_rfl
theorem says180 (v : Value) (w : World) : Calls Tryz.prog 180 #[v] w (SaysBool false w) := by
  go_enter Tryz.func180, Tryz.ntmps180
  go_wp2_with fail
  go_ret
  exact ⟨rfl, rfl⟩
theorem cf180 (v : Value) (W : World) : (callFunc 180 #[v]).run Tryz.prog W = .ok (.enter 180 #[v]) W := by kernel_rfl
theorem says181 (v : Value) (w : World) : Calls Tryz.prog 181 #[v] w (SaysBool false w) := by
  go_enter Tryz.func181, Tryz.ntmps181
  go_wp2_with fail
  go_ret
  exact ⟨rfl, rfl⟩
theorem cf181 (v : Value) (W : World) : (callFunc 181 #[v]).run Tryz.prog W = .ok (.enter 181 #[v]) W := by kernel_rfl
theorem says207 (v : Value) (w : World) : Calls Tryz.prog 207 #[v] w (SaysBool false w) := by
  go_enter Tryz.func207, Tryz.ntmps207
  go_wp2_with fail
  go_ret
  exact ⟨rfl, rfl⟩
theorem cf207 (v : Value) (W : World) : (callFunc 207 #[v]).run Tryz.prog W = .ok (.enter 207 #[v]) W := by kernel_rfl
theorem says208 (v : Value) (w : World) : Calls Tryz.prog 208 #[v] w (SaysBool false w) := by
  go_enter Tryz.func208, Tryz.ntmps208
  go_wp2_with fail
  go_ret
  exact ⟨rfl, rfl⟩
theorem cf208 (v : Value) (W : World) : (callFunc 208 #[v]).run Tryz.prog W = .ok (.enter 208 #[v]) W := by kernel_rfl
theorem says211 (v : Value) (w : World) : Calls Tryz.prog 211 #[v] w (SaysBool true w) := by
  go_enter Tryz.func211, Tryz.ntmps211
  go_wp2_with fail
  go_ret
  exact ⟨rfl, rfl⟩
theorem cf211 (v : Value) (W : World) : (callFunc 211 #[v]).run Tryz.prog W = .ok (.enter 211 #[v]) W := by kernel_rfl
theorem says212 (v : Value) (w : World) : Calls Tryz.prog 212 #[v] w (SaysBool false w) := by
  go_enter Tryz.func212, Tryz.ntmps212
  go_wp2_with fail
  go_ret
  exact ⟨rfl, rfl⟩
theorem cf212 (v : Value) (W : World) : (callFunc 212 #[v]).run Tryz.prog W = .ok (.enter 212 #[v]) W := by kernel_rfl
theorem says213 (v : Value) (w : World) : Calls Tryz.prog 213 #[v] w (SaysBool false w) := by
  go_enter Tryz.func213, Tryz.ntmps213
  go_wp2_with fail
  go_ret
  exact ⟨rfl, rfl⟩
theorem cf213 (v : Value) (W : World) : (callFunc 213 #[v]).run Tryz.prog W = .ok (.enter 213 #[v]) W := by kernel_rfl
theorem says217 (v : Value) (w : World) : Calls Tryz.prog 217 #[v] w (SaysBool true w) := by
  go_enter Tryz.func217, Tryz.ntmps217
  go_wp2_with fail
  go_ret
  exact ⟨rfl, rfl⟩
theorem cf217 (v : Value) (W : World) : (callFunc 217 #[v]).run Tryz.prog W = .ok (.enter 217 #[v]) W := by kernel_rfl
theorem says218 (v : Value) (w : World) : Calls Tryz.prog 218 #[v] w (SaysBool false w) := by
  go_enter Tryz.func218, Tryz.ntmps218
  go_wp2_with fail
  go_ret
  exact ⟨rfl, rfl⟩
theorem cf218 (v : Value) (W : World) : (callFunc 218 #[v]).run Tryz.prog W = .ok (.enter 218 #[v]) W := by kernel_rfl
theorem says220 (v : Value) (w : World) : Calls Tryz.prog 220 #[v] w (SaysBool false w) := by
  go_enter Tryz.func220, Tryz.ntmps220
  go_wp2_with fail
  go_ret
  exact ⟨rfl, rfl⟩
theorem cf220 (v : Value) (W : World) : (callFunc 220 #[v]).run Tryz.prog W = .ok (.enter 220 #[v]) W := by kernel_rfl
theorem says221 (v : Value) (w : World) : Calls Tryz.prog 221 #[v] w (SaysBool true w) := by
  go_enter Tryz.func221, Tryz.ntmps221
  go_wp2_with fail
  go_ret
  exact ⟨rfl, rfl⟩
theorem cf221 (v : Value) (W : World) : (callFunc 221 #[v]).run Tryz.prog W = .ok (.enter 221 #[v]) W := by kernel_rfl
theorem cf178 (v : Value) (W : World) : (callFunc 178 #[v]).run Tryz.prog W = .ok (.enter 178 #[v]) W := by kernel_rfl
theorem cf210 (v : Value) (W : World) : (callFunc 210 #[v]).run Tryz.prog W = .ok (.enter 210 #[v]) W := by kernel_rfl
theorem cf215 (v : Value) (W : World) : (callFunc 215 #[v]).run Tryz.prog W = .ok (.enter 215 #[v]) W := by kernel_rfl
theorem cf216 (v : Value) (W : World) : (callFunc 216 #[v]).run Tryz.prog W = .ok (.enter 216 #[v]) W := by kernel_rfl
theorem m173_Kind (n : Nat) (k : IntKind) (v : Int) (w : World) : (method (n + 1) 173 (.int k v) "Kind").run Tryz.prog w = .ok (216, .int k v) w := by kernel_rfl
/-- What a method of a node comes to, at whatever fuel. -/
def Res (w : World) (name : String) (d : Nat) (T : TypeId) (x : Value) (f : FuncId) (recv : Value) : Prop := ∀ n, (method (n + d + 1) T x name).run Tryz.prog w = .ok (f, recv) w
theorem Res.at337 {w : World} {name : String} {d : Nat} {T : TypeId} {x : Value} {f : FuncId} {recv : Value} (h : Res w name d T x f recv) (hd : d ≤ 300) : (method 337 T x name).run Tryz.prog w = .ok (f, recv) w := by
  have := h (336 - d)
  rwa [show 336 - d + d + 1 = 337 from by omega] at this
section
variable {w : World} {lo B d : Nat} {T : TypeId} {x : Value} {o r : Bool} {k : Int} {kids : List Fd}
/-- "Leaf", "Type", "Fields" come to the leaf's or the group's own. -/
theorem IsNd.inner (h : IsNd w lo B d T x o r k kids) :
    (kids = [] ∧ ∃ a, a < B ∧ w.cell? ⟨a, 0, none⟩ = some (.iface 173 (.int .i8 k)) ∧ Res w "Leaf" d T x 211 (.pointer (some ⟨a, 0, none⟩)) ∧ Res w "Type" d T x 215 (.pointer (some ⟨a, 0, none⟩)) ∧ Res w "Fields" d T x 210 (.pointer (some ⟨a, 0, none⟩))) ∨
    (kids ≠ [] ∧ ∃ m, Res w "Leaf" d T x 179 (.map (some m)) ∧ Res w "Type" d T x 183 (.map (some m)) ∧ Res w "Fields" d T x 178 (.map (some m)) ∧ IsNd w lo B 0 121 (.map (some m)) false false 0 kids) := by
  have up : ∀ {d : Nat} {T' : TypeId} {a : Addr} {T : TypeId} {x : Value} {name : String} {f : FuncId} {v : Value}, (∀ n, (method (n + 1) T' (.pointer (some a)) name).run Tryz.prog w = (method n T x name).run Tryz.prog w) → Res w name d T x f v → Res w name (d + 1) T' (.pointer (some a)) f v :=
    fun h1 h2 n => by
      have := h2 n
      rw [show n + (_ + 1) + 1 = (n + _ + 1) + 1 from rfl, h1]
      exact this
  induction h with
  | leaf a k hlo hb hc => exact .inl ⟨rfl, a, hb, hc, fun n => m170_Leaf n _ _, fun n => m170_Type n _ _, fun n => m170_Fields n _ _⟩
  | group m es kids T X hlo hb hne hm hes hk hr ih => exact .inr ⟨hne, m, fun n => m121_Leaf n _ _, fun n => m121_Type n _ _, fun n => m121_Fields n _ _, .group m es kids T X hlo hb hne hm hes hk hr⟩
  | opt d a T x o r k kids hlo hb hc h ih =>
    rcases ih with ⟨h0, a', h1, h2, h3, h4, h5⟩ | ⟨h0, m, h3, h4, h5, h6⟩
    · exact .inl ⟨h0, a', h1, h2, up (fun n => m174_Leaf n _ _ _ _ hc) h3, up (fun n => m174_Type n _ _ _ _ hc) h4, up (fun n => m174_Fields n _ _ _ _ hc) h5⟩
    · exact .inr ⟨h0, m, up (fun n => m174_Leaf n _ _ _ _ hc) h3, up (fun n => m174_Type n _ _ _ _ hc) h4, up (fun n => m174_Fields n _ _ _ _ hc) h5, h6⟩
  | rep d a T x o r k kids hlo hb hc h ih =>
    rcases ih with ⟨h0, a', h1, h2, h3, h4, h5⟩ | ⟨h0, m, h3, h4, h5, h6⟩
    · exact .inl ⟨h0, a', h1, h2, up (fun n => m176_Leaf n _ _ _ _ hc) h3, up (fun n => m176_Type n _ _ _ _ hc) h4, up (fun n => m176_Fields n _ _ _ _ hc) h5⟩
    · exact .inr ⟨h0, m, up (fun n => m176_Leaf n _ _ _ _ hc) h3, up (fun n => m176_Type n _ _ _ _ hc) h4, up (fun n => m176_Fields n _ _ _ _ hc) h5, h6⟩
  | req d a T x o r k kids hlo hb hc h ih =>
    rcases ih with ⟨h0, a', h1, h2, h3, h4, h5⟩ | ⟨h0, m, h3, h4, h5, h6⟩
    · exact .inl ⟨h0, a', h1, h2, up (fun n => m167_Leaf n _ _ _ _ hc) h3, up (fun n => m167_Type n _ _ _ _ hc) h4, up (fun n => m167_Fields n _ _ _ _ hc) h5⟩
    · exact .inr ⟨h0, m, up (fun n => m167_Leaf n _ _ _ _ hc) h3, up (fun n => m167_Type n _ _ _ _ hc) h4, up (fun n => m167_Fields n _ _ _ _ hc) h5, h6⟩
  | fld d b off T x o r k kids hlo hb hc h ih =>
    rcases ih with ⟨h0, a', h1, h2, h3, h4, h5⟩ | ⟨h0, m, h3, h4, h5, h6⟩
    · exact .inl ⟨h0, a', h1, h2, up (fun n => m212_Leaf n _ _ _ _ hc) h3, up (fun n => m212_Type n _ _ _ _ hc) h4, up (fun n => m212_Fields n _ _ _ _ hc) h5⟩
    · exact .inr ⟨h0, m, up (fun n => m212_Leaf n _ _ _ _ hc) h3, up (fun n => m212_Type n _ _ _ _ hc) h4, up (fun n => m212_Fields n _ _ _ _ hc) h5, h6⟩
theorem IsNd.leafAns (h : IsNd w lo B d T x o r k kids) (hd : d ≤ 300) : Ans w T x "Leaf" (SaysBool kids.isEmpty w) := by
  rcases h.inner with ⟨rfl, a, _, _, h3, _⟩ | ⟨h0, m, h3, _⟩
  · exact ⟨211, _, h3.at337 hd, cf211 _, says211 _ _⟩
  · have : kids.isEmpty = false := by cases kids with | nil => exact absurd rfl h0 | cons _ _ => rfl
    rw [this]
    exact ⟨179, _, h3.at337 hd, cf179 _, says179 _ _⟩
/-- What "Optional" and "Repeated" come to. -/
theorem IsNd.outer (h : IsNd w lo B d T x o r k kids) :
    ∃ f g a b, Res w "Optional" d T x f a ∧ Res w "Repeated" d T x g b ∧ (∀ W, (callFunc f #[a]).run Tryz.prog W = .ok (.enter f #[a]) W) ∧ (∀ W, (callFunc g #[b]).run Tryz.prog W = .ok (.enter g #[b]) W) ∧
      (∀ W, Calls Tryz.prog f #[a] W (SaysBool o W)) ∧ (∀ W, Calls Tryz.prog g #[b] W (SaysBool r W)) := by
  have up : ∀ {d : Nat} {T' : TypeId} {a : Addr} {T : TypeId} {x : Value} {name : String} {f : FuncId} {v : Value}, (∀ n, (method (n + 1) T' (.pointer (some a)) name).run Tryz.prog w = (method n T x name).run Tryz.prog w) → Res w name d T x f v → Res w name (d + 1) T' (.pointer (some a)) f v :=
    fun h1 h2 n => by
      have := h2 n
      rw [show n + (_ + 1) + 1 = (n + _ + 1) + 1 from rfl, h1]
      exact this
  induction h with
  | leaf a k hlo hb hc => exact ⟨212, 213, _, _, fun n => m170_Optional n _ _, fun n => m170_Repeated n _ _, cf212 _, cf213 _, says212 _, says213 _⟩
  | group m es kids T X hlo hb hne hm hes hk hr ih => exact ⟨180, 181, _, _, fun n => m121_Optional n _ _, fun n => m121_Repeated n _ _, cf180 _, cf181 _, says180 _, says181 _⟩
  | opt d a T x o r k kids hlo hb hc h ih => exact ⟨217, 218, _, _, fun n => m174_Optional (n + (d + 1)) _ _, fun n => m174_Repeated (n + (d + 1)) _ _, cf217 _, cf218 _, says217 _, says218 _⟩
  | rep d a T x o r k kids hlo hb hc h ih => exact ⟨220, 221, _, _, fun n => m176_Optional (n + (d + 1)) _ _, fun n => m176_Repeated (n + (d + 1)) _ _, cf220 _, cf221 _, says220 _, says221 _⟩
  | req d a T x o r k kids hlo hb hc h ih => exact ⟨207, 208, _, _, fun n => m167_Optional (n + (d + 1)) _ _, fun n => m167_Repeated (n + (d + 1)) _ _, cf207 _, cf208 _, says207 _, says208 _⟩
  | fld d b off T x o r k kids hlo hb hc h ih =>
    obtain ⟨f, g, a, b', h1, h2, h3, h4, h5, h6⟩ := ih
    exact ⟨f, g, a, b', up (fun n => m212_Optional n _ _ _ _ hc) h1, up (fun n => m212_Repeated n _ _ _ _ hc) h2, h3, h4, h5, h6⟩
theorem IsNd.optAns (h : IsNd w lo B d T x o r k kids) (hd : d ≤ 300) : Ans w T x "Optional" (SaysBool o w) := by
  obtain ⟨f, g, a, b, h1, h2, h3, h4, h5, h6⟩ := h.outer
  exact ⟨f, a, h1.at337 hd, h3, h5 w⟩
theorem IsNd.repAns (h : IsNd w lo B d T x o r k kids) (hd : d ≤ 300) : Ans w T x "Repeated" (SaysBool r w) := by
  obtain ⟨f, g, a, b, h1, h2, h3, h4, h5, h6⟩ := h.outer
  exact ⟨g, b, h2.at337 hd, h4, h6 w⟩
/-- "Type" of a leaf is its kind. -/
def SaysType (k : Int) (w : World) (e : Ending) (w' : World) : Prop := e = .returned (.iface 173 (.int .i8 k)) ∧ w = w'
theorem says215 (a : Nat) (k : Int) (w : World) (hc : w.cell? ⟨a, 0, none⟩ = some (.iface 173 (.int .i8 k))) : Calls Tryz.prog 215 #[.pointer (some ⟨a, 0, none⟩)] w (SaysType k w) := by
  go_enter Tryz.func215, Tryz.ntmps215
  go_wp2_with fail
  go_ret
  exact ⟨rfl, rfl⟩
theorem IsNd.typeAns (h : IsNd w lo B d T x o r k []) (hd : d ≤ 300) : Ans w T x "Type" (SaysType k w) := by
  rcases h.inner with ⟨_, a, _, hc, _, h4, _⟩ | ⟨h0, _⟩
  · exact ⟨215, _, h4.at337 hd, cf215 _, says215 _ _ _ hc⟩
  · exact absurd rfl h0
def SaysKind (k : Int) (w : World) (e : Ending) (w' : World) : Prop := e = .returned (.int .i8 k) ∧ w = w'
theorem kindAns (k : Int) (w : World) : Ans w 173 (.int .i8 k) "Kind" (SaysKind k w) := by
  refine ⟨216, _, m173_Kind 336 .i8 k w, cf216 _, ?_⟩
  go_enter Tryz.func216, Tryz.ntmps216
  go_wp2_with fail
  go_ret
  exact ⟨rfl, rfl⟩
end
end Go.Proofs.YtglgclkgppomiaaGreat
