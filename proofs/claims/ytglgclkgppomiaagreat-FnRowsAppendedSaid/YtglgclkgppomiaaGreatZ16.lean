/- How the arguments read: lists of fields and of data in memory; and what a law's call must leave behind. -/
import Derived.Test.YtglgclkgppomiaaGreatZ15
import Derived.Test.YtglgclkgppomiaaGreatRows
import Derived.ProofKit
import Derived.JoinedCond
import Derived.Deep.Slices
import Derived.OpenShut
set_option linter.unusedVariables false
set_option linter.unusedSimpArgs false
namespace Go.Proofs.YtglgclkgppomiaaGreat
open Go Go.RowKit Go.ChangeShapes Go.WideShapes Go.ChangeAt Go.Deep

instance : Inhabited Fd := ⟨.mk .empty 0 0 []⟩
instance : Inhabited Dt := ⟨.mk false 0 .empty []⟩
theorem plain_add {W : World} {a : Addr} {v : Value} (h : W.cell? (a.add 0) = some v) : ∃ b o, a = ⟨b, o, none⟩ := by
  obtain ⟨b, o, spot⟩ := a
  have hspot : spot = none := by simpa [Addr.add] using World.cell?_spot h
  subst hspot
  exact ⟨b, o, rfl⟩
theorem cells_get {W : World} {base : Nat} {a : Addr} {n : Nat} {cs : List Value} (h : W.cells? base a n = some cs) : cs.length = n ∧ ∀ i, i < n → W.cell? (a.add i) = cs[i]? := by
  obtain ⟨_, hl, hc⟩ := World.cells?_some h
  exact ⟨hl, hc⟩
theorem cellsOf41 : Tryz.prog.cellsOf 41 = 4 := by kernel_rfl
theorem cellsOf43 : Tryz.prog.cellsOf 43 = 4 := by kernel_rfl
theorem cellsOf9 : Tryz.prog.cellsOf 9 = 1 := by kernel_rfl
theorem cellsOf3 : Tryz.prog.cellsOf 3 = 1 := by kernel_rfl
theorem cellsOf2 : Tryz.prog.cellsOf 2 = 1 := by kernel_rfl
theorem cellsOf4 : Tryz.prog.cellsOf 4 = 1 := by kernel_rfl
theorem cellsOf22 : Tryz.prog.cellsOf 22 = 1 := by kernel_rfl
theorem cellsOf23 : Tryz.prog.cellsOf 23 = 1 := by kernel_rfl
theorem bulk_pos {H : Type} (d : DataW H) : 1 ≤ Rows.uptoBulk d := by
  cases d with
  | lit l => cases l <;> simp [Rows.uptoBulk]
  | nil => simp [Rows.uptoBulk]
  | ptr d => simp [Rows.uptoBulk]
  | slice elems spare => simp [Rows.uptoBulk]
  | agg parts => simp [Rows.uptoBulk]
  | iface t d => simp [Rows.uptoBulk]
  | map entries => simp [Rows.uptoBulk]
  | held h => simp [Rows.uptoBulk]
theorem bulk_len {H : Type} : ∀ l : List (DataW H), l.length ≤ Rows.uptoBulkAll l
  | [] => by simp
  | d :: r => by have := bulk_len r; have := bulk_pos d; simp only [Rows.uptoBulkAll, List.length_cons]; omega
theorem bulk_get {H : Type} : ∀ (l : List (DataW H)) (d : DataW H), d ∈ l → Rows.uptoBulk d ≤ Rows.uptoBulkAll l
  | [], _, h => by cases h
  | x :: r, d, h => by
    simp only [Rows.uptoBulkAll]
    rcases List.mem_cons.1 h with rfl | h
    · omega
    · have := bulk_get r d h; omega
theorem fds_bulk {H : Type} (f : Nat → Fd) (D : Nat → DataW H) : ∀ l : List Nat, (∀ i ∈ l, fdSize (f i) ≤ Rows.uptoBulk (D i)) → fdsSize (l.map f) ≤ Rows.uptoBulkAll (l.map D)
  | [], _ => by simp [fdsSize]
  | i :: r, h => by
    have h1 := fds_bulk f D r (fun j hj => h j (List.mem_cons_of_mem _ hj))
    have h2 := h i List.mem_cons_self
    simp only [List.map_cons, fdsSize, Rows.uptoBulkAll]
    omega
theorem dts_bulk {H : Type} (f : Nat → Dt) (D : Nat → DataW H) : ∀ l : List Nat, (∀ i ∈ l, dtSize (f i) ≤ Rows.uptoBulk (D i)) → dtsSize (l.map f) ≤ Rows.uptoBulkAll (l.map D)
  | [], _ => by simp [dtsSize]
  | i :: r, h => by
    have h1 := dts_bulk f D r (fun j hj => h j (List.mem_cons_of_mem _ hj))
    have h2 := h i List.mem_cons_self
    simp only [List.map_cons, dtsSize, Rows.uptoBulkAll]
    omega
section
variable {H : Type} {enc : TypeId × Value → H}
/-- The cells of an element of four cells of one cell each. -/
theorem read_four {W : World} {n t : Nat} {fs : Array Field} {t0 t1 t2 t3 : TypeId} {a : Addr} {cs : List Value} {y : DataW H × List MemPlace} (ht : Tryz.prog.underlying t = some (.struct fs)) (hcs : W.cells? 0 a 4 = some cs)
    (hf : fs.toList.map (fun f => (f.type, f.offset)) = [(t0, 0), (t1, 1), (t2, 2), (t3, 3)]) (h0 : Tryz.prog.cellsOf t0 = 1) (h1 : Tryz.prog.cellsOf t1 = 1) (h2 : Tryz.prog.cellsOf t2 = 1) (h3 : Tryz.prog.cellsOf t3 = 1)
    (h : DataW.trod enc Tryz.prog W 0 (fun _ => true) true n t cs = some y) :
    ∃ (b o m : Nat) (v0 v1 v2 v3 : Value) (x0 x1 x2 x3 : DataW H × List MemPlace), a = ⟨b, o, none⟩ ∧ b < W.heap.size ∧ W.cell? ⟨b, o, none⟩ = some v0 ∧ W.cell? ⟨b, o + 1, none⟩ = some v1 ∧ W.cell? ⟨b, o + 2, none⟩ = some v2 ∧ W.cell? ⟨b, o + 3, none⟩ = some v3 ∧
      y.1 = .agg [x0.1, x1.1, x2.1, x3.1] ∧ DataW.trod enc Tryz.prog W 0 (fun _ => true) true m t0 [v0] = some x0 ∧ DataW.trod enc Tryz.prog W 0 (fun _ => true) true m t1 [v1] = some x1 ∧
      DataW.trod enc Tryz.prog W 0 (fun _ => true) true m t2 [v2] = some x2 ∧ DataW.trod enc Tryz.prog W 0 (fun _ => true) true m t3 [v3] = some x3 := by
  obtain ⟨xs, m, _, rfl, hl, hxl, hx⟩ := DataW.trod_struct ht h
  obtain ⟨hcl, hcg⟩ := cells_get hcs
  have hblk := World.cells?_block hcs (by omega)
  obtain ⟨v0, v1, v2, v3, rfl⟩ : ∃ v0 v1 v2 v3, cs = [v0, v1, v2, v3] := by
    rcases cs with _ | ⟨v0, _ | ⟨v1, _ | ⟨v2, _ | ⟨v3, _ | ⟨v4, r⟩⟩⟩⟩⟩
    · simp at hcl
    · simp at hcl
    · simp at hcl
    · simp at hcl
    · exact ⟨v0, v1, v2, v3, rfl⟩
    · simp at hcl
  have c0 := hcg 0 (by omega)
  have c1 := hcg 1 (by omega)
  have c2 := hcg 2 (by omega)
  have c3 := hcg 3 (by omega)
  obtain ⟨b, o, rfl⟩ := plain_add c0
  simp only [Addr.add_lit] at c0 c1 c2 c3
  obtain ⟨fl⟩ := fs
  have hfl : fl.length = 4 := by have := congrArg List.length hf; simpa using this
  have hxs : xs.length = 4 := by rw [hxl]; exact hfl
  rcases fl with _ | ⟨f0, _ | ⟨f1, _ | ⟨f2, _ | ⟨f3, _ | ⟨f4, r⟩⟩⟩⟩⟩ <;> (try (simp at hfl; done))
  rcases xs with _ | ⟨x0, _ | ⟨x1, _ | ⟨x2, _ | ⟨x3, _ | ⟨x4, r⟩⟩⟩⟩⟩ <;> (try (simp at hxs; done))
  simp only [List.map_cons, List.map_nil, List.cons.injEq, Prod.mk.injEq, and_true] at hf
  obtain ⟨⟨e0, o0⟩, ⟨e1, o1⟩, ⟨e2, o2⟩, ⟨e3, o3⟩⟩ := hf
  have y0 := hx 0 f0 rfl
  have y1 := hx 1 f1 rfl
  have y2 := hx 2 f2 rfl
  have y3 := hx 3 f3 rfl
  rw [e0, o0, h0] at y0
  rw [e1, o1, h1] at y1
  rw [e2, o2, h2] at y2
  rw [e3, o3, h3] at y3
  exact ⟨b, o, m, v0, v1, v2, v3, x0, x1, x2, x3, rfl, hblk, c0, c1, c2, c3, rfl, y0, y1, y2, y3⟩
/-- A list of fields, as it is read: it lies so in memory, and is no greater than what is read. -/
def ReadFds (W : World) (bulk : Nat) (A : Option Addr) (n c : Nat) (fs : List Fd) : Prop := FdsAt W W.heap.size A n c fs ∧ NamesFit fs ∧ fdsSize fs ≤ bulk
theorem mem_range_map {α : Type} {n : Nat} {f : Nat → α} {k : Nat} {x : α} (h : ((List.range n).map f)[k]? = some x) : k < n ∧ f k = x := by
  have hk : k < n := by have := (List.getElem?_eq_some_iff.1 h).1; simpa using this
  simp [hk] at h
  exact ⟨hk, h⟩
theorem read_fds (W : World) : ∀ (N : Nat) (n : Nat) (cs : List Value) (x : DataW H × List MemPlace), Rows.uptoBulk x.1 ≤ N → N ≤ 1048576 → DataW.trod enc Tryz.prog W 0 (fun _ => true) true n 22 cs = some x →
    ∃ A len cap fs, cs = [.slice A len cap] ∧ ReadFds W (Rows.uptoBulk x.1) A len cap fs := by
  intro N
  induction N with
  | zero => intro n cs x h; have := bulk_pos x.1; omega
  | succ N ih =>
    intro n cs x hx hN h
    rcases open_slice Tryz.underlying22 h with ⟨rfl, rfl⟩ | ⟨a, len, cap, m, q, D, Pl, rfl, _, hlc, hcm, hm, rfl, hel⟩
    · exact ⟨none, 0, 0, [], rfl, .nil _ _, .mk _ (fun f hf => by cases hf) (fun f hf => by cases hf), by simp [fdsSize]⟩
    · simp only [if_true] at hm
      subst hm
      rw [cellsOf41] at hel
      have hbe : ∀ i, i < len → Rows.uptoBulk (D i) ≤ N := fun i hi => by
        have h1 := bulk_get ((List.range len).map D) (D i) (List.mem_map.2 ⟨i, List.mem_range.2 hi, rfl⟩)
        simp only [Rows.uptoBulk] at hx
        omega
      have key : ∀ i, i < len → ∃ r : Fd × Option Addr × Nat × Nat × Nat, (a.add (i * 4) = ⟨r.2.2.2.1, r.2.2.2.2, none⟩ ∨ 0 < i) ∧ W.cell? ((a.add (i * 4)).add 0) = some (.string r.1.name) ∧ W.cell? ((a.add (i * 4)).add 1) = some (.int .i64 r.1.way) ∧
          W.cell? ((a.add (i * 4)).add 2) = some (.int .i64 r.1.kind) ∧ W.cell? ((a.add (i * 4)).add 3) = some (.slice r.2.1 r.1.kids.length r.2.2.1) ∧ (a.add (i * 4)).block < W.heap.size ∧
          FdsAt W W.heap.size r.2.1 r.1.kids.length r.2.2.1 r.1.kids ∧ r.1.name.size ≤ 1048576 ∧ NamesFit r.1.kids ∧ fdSize r.1 ≤ Rows.uptoBulk (D i) := fun i hi => by
        obtain ⟨cs', hc', ht'⟩ := hel i (by omega)
        obtain ⟨b, o, m', v0, v1, v2, v3, x0, x1, x2, x3, ha, hb, c0, c1, c2, c3, hD, y0, y1, y2, y3⟩ := read_four (t0 := 9) (t1 := 3) (t2 := 3) (t3 := 22) Tryz.underlying41 hc' rfl cellsOf9 cellsOf3 cellsOf3 cellsOf22 ht'
        obtain ⟨s, e0, rfl, hs⟩ := DataW.trod_string Tryz.underlying9 y0
        obtain ⟨z1, e1, rfl, hz1⟩ := DataW.trod_int Tryz.underlying3 y1
        obtain ⟨z2, e2, rfl, hz2⟩ := DataW.trod_int Tryz.underlying3 y2
        simp only [List.cons.injEq, and_true] at e0 e1 e2
        subst e0 e1 e2
        have hbd := hbe i hi
        simp only [] at hD
        rw [hD] at hbd
        simp only [Rows.uptoBulk, Rows.uptoBulkAll] at hbd
        obtain ⟨A', n', c', fs', e3, hfd, hnf, hsz⟩ := ih m' [v3] x3 (by omega) (by omega) y3
        simp only [List.cons.injEq, and_true] at e3
        subst e3
        have hl := hfd.len.1
        refine ⟨⟨.mk s z1 z2 fs', A', c', b, o⟩, .inl ha, ?_, ?_, ?_, ?_, by rw [ha]; exact hb, by rw [← hl] at hfd; exact hfd, ?_, hnf, ?_⟩
        · rw [ha, Addr.add_lit]; exact c0
        · rw [ha, Addr.add_lit]; exact c1
        · rw [ha, Addr.add_lit]; exact c2
        · rw [ha, Addr.add_lit]
          show _ = some (Value.slice A' fs'.length c')
          rw [hl]; exact c3
        · show s.size ≤ _
          have : s.size = s.data.toList.length := by simp
          omega
        · rw [hD]
          simp only [fdSize, Rows.uptoBulk, Rows.uptoBulkAll]
          omega
      by_cases h0 : len = 0
      · subst h0
        exact ⟨some a, 0, _, [], rfl, .nil _ _, .mk _ (fun f hf => by cases hf) (fun f hf => by cases hf), by simp [fdsSize]⟩
      · obtain ⟨r, hr⟩ := choose_lt (α := Fd × Option Addr × Nat × Nat × Nat) key
        obtain ⟨b, o, rfl⟩ : ∃ b o, a = ⟨b, o, none⟩ := plain_add (by have := (hr 0 (by omega)).2.1; rw [Nat.zero_mul] at this; have e : (a.add 0).add 0 = a.add 0 := by unfold Addr.add; simp
                                                                      rw [e] at this; exact this)
        have hcell : ∀ i k, i < len → (Addr.add (⟨b, o, none⟩ : Addr) (i * 4)).add k = ⟨b, o + i * 4 + k, none⟩ := fun i k _ => by rw [Addr.add_lit, Addr.add_lit]
        refine ⟨_, len, _, (List.range len).map fun i => (r i).1, rfl, ?_, ?_, ?_⟩
        · refine .mk b o len _ _ (fun k => (r k).2.1) (fun k => (r k).2.2.1) ?_ (by simp) hlc (fun k f hf => ?_) (fun k f hf => ?_)
          · have := (hr 0 (by omega)).2.2.2.2.2.1
            rw [Nat.zero_mul, Addr.add_lit] at this
            exact this
          · obtain ⟨hk, rfl⟩ := mem_range_map hf
            obtain ⟨_, c0, c1, c2, c3, _⟩ := hr k hk
            rw [hcell k _ hk] at c0 c1 c2 c3
            exact ⟨c0, c1, c2, c3⟩
          · obtain ⟨hk, rfl⟩ := mem_range_map hf
            exact (hr k hk).2.2.2.2.2.2.1
        · refine .mk _ (fun f hf => ?_) (fun f hf => ?_)
          · obtain ⟨i, hi, rfl⟩ := List.mem_map.1 hf
            have := (hr i (List.mem_range.1 hi)).2.2.2.2.2.2.2.1
            omega
          · obtain ⟨i, hi, rfl⟩ := List.mem_map.1 hf
            exact (hr i (List.mem_range.1 hi)).2.2.2.2.2.2.2.2.1
        · have := fds_bulk (fun i => (r i).1) D (List.range len) (fun i hi => (hr i (List.mem_range.1 hi)).2.2.2.2.2.2.2.2.2)
          simp only [Rows.uptoBulk]
          omega
/-- A list of data, as it is read. -/
def ReadDts (W : World) (bulk : Nat) (A : Option Addr) (n c : Nat) (ds : List Dt) : Prop := DtsAt W W.heap.size A n c ds ∧ TextsFit ds ∧ NumsFit ds ∧ dtsSize ds ≤ bulk
theorem read_dts (W : World) : ∀ (N : Nat) (n : Nat) (cs : List Value) (x : DataW H × List MemPlace), Rows.uptoBulk x.1 ≤ N → N ≤ 1048576 → DataW.trod enc Tryz.prog W 0 (fun _ => true) true n 23 cs = some x →
    ∃ A len cap ds, cs = [.slice A len cap] ∧ ReadDts W (Rows.uptoBulk x.1) A len cap ds := by
  intro N
  induction N with
  | zero => intro n cs x h; have := bulk_pos x.1; omega
  | succ N ih =>
    intro n cs x hx hN h
    rcases open_slice Tryz.underlying23 h with ⟨rfl, rfl⟩ | ⟨a, len, cap, m, q, D, Pl, rfl, _, hlc, hcm, hm, rfl, hel⟩
    · exact ⟨none, 0, 0, [], rfl, .nil _ _, .mk _ (fun f hf => by cases hf) (fun f hf => by cases hf), .mk _ (fun f hf => by cases hf) (fun f hf => by cases hf), by simp [dtsSize]⟩
    · simp only [if_true] at hm
      subst hm
      rw [cellsOf43] at hel
      have hbe : ∀ i, i < len → Rows.uptoBulk (D i) ≤ N := fun i hi => by
        have h1 := bulk_get ((List.range len).map D) (D i) (List.mem_map.2 ⟨i, List.mem_range.2 hi, rfl⟩)
        simp only [Rows.uptoBulk] at hx
        omega
      have key : ∀ i, i < len → ∃ r : Dt × Option Addr × Nat, W.cell? ((a.add (i * 4)).add 0) = some (.bool r.1.none) ∧ W.cell? ((a.add (i * 4)).add 1) = some (.int .i64 r.1.num) ∧
          W.cell? ((a.add (i * 4)).add 2) = some (.string r.1.text) ∧ W.cell? ((a.add (i * 4)).add 3) = some (.slice r.2.1 r.1.items.length r.2.2) ∧ (a.add (i * 4)).block < W.heap.size ∧
          DtsAt W W.heap.size r.2.1 r.1.items.length r.2.2 r.1.items ∧ (r.1.text.size ≤ 1048576 ∧ r.1.items.length ≤ 1048576) ∧ TextsFit r.1.items ∧ ((-9223372036854775808 ≤ r.1.num ∧ r.1.num ≤ 9223372036854775807) ∧ NumsFit r.1.items) ∧ dtSize r.1 ≤ Rows.uptoBulk (D i) := fun i hi => by
        obtain ⟨cs', hc', ht'⟩ := hel i (by omega)
        obtain ⟨b, o, m', v0, v1, v2, v3, x0, x1, x2, x3, ha, hb, c0, c1, c2, c3, hD, y0, y1, y2, y3⟩ := read_four (t0 := 4) (t1 := 2) (t2 := 9) (t3 := 23) Tryz.underlying43 hc' rfl cellsOf4 cellsOf2 cellsOf9 cellsOf23 ht'
        obtain ⟨z0, e0, rfl⟩ := DataW.trod_bool Tryz.underlying4 y0
        obtain ⟨z1, e1, rfl, hz1⟩ := DataW.trod_int Tryz.underlying2 y1
        obtain ⟨s, e2, rfl, hs⟩ := DataW.trod_string Tryz.underlying9 y2
        simp only [List.cons.injEq, and_true] at e0 e1 e2
        subst e0 e1 e2
        have hbd := hbe i hi
        simp only [] at hD
        rw [hD] at hbd
        simp only [Rows.uptoBulk, Rows.uptoBulkAll] at hbd
        obtain ⟨A', n', c', ds', e3, hfd, htf, hnf, hsz⟩ := ih m' [v3] x3 (by omega) (by omega) y3
        simp only [List.cons.injEq, and_true] at e3
        subst e3
        have hl := hfd.len.1
        have hdl := dtsSize_length ds'
        refine ⟨⟨.mk z0 z1 s ds', A', c'⟩, ?_, ?_, ?_, ?_, by rw [ha]; exact hb, by rw [← hl] at hfd; exact hfd, ⟨?_, ?_⟩, htf, ⟨bounds_i64 hz1, hnf⟩, ?_⟩
        · rw [ha, Addr.add_lit]; exact c0
        · rw [ha, Addr.add_lit]; exact c1
        · rw [ha, Addr.add_lit]; exact c2
        · rw [ha, Addr.add_lit]
          show _ = some (Value.slice A' ds'.length c')
          rw [hl]; exact c3
        · show s.size ≤ _
          have : s.size = s.data.toList.length := by simp
          omega
        · show ds'.length ≤ _
          omega
        · rw [hD]
          simp only [dtSize, Rows.uptoBulk, Rows.uptoBulkAll]
          omega
      by_cases h0 : len = 0
      · subst h0
        exact ⟨some a, 0, _, [], rfl, .nil _ _, .mk _ (fun f hf => by cases hf) (fun f hf => by cases hf), .mk _ (fun f hf => by cases hf) (fun f hf => by cases hf), by simp [dtsSize]⟩
      · obtain ⟨r, hr⟩ := choose_lt (α := Dt × Option Addr × Nat) key
        obtain ⟨b, o, rfl⟩ : ∃ b o, a = ⟨b, o, none⟩ := plain_add (by have := (hr 0 (by omega)).1; rw [Nat.zero_mul] at this; have e : (a.add 0).add 0 = a.add 0 := by unfold Addr.add; simp
                                                                      rw [e] at this; exact this)
        have hcell : ∀ i k, i < len → (Addr.add (⟨b, o, none⟩ : Addr) (i * 4)).add k = ⟨b, o + i * 4 + k, none⟩ := fun i k _ => by rw [Addr.add_lit, Addr.add_lit]
        refine ⟨_, len, _, (List.range len).map fun i => (r i).1, rfl, ?_, ?_, ?_, ?_⟩
        · refine .mk b o len _ _ (fun k => (r k).2.1) (fun k => (r k).2.2) ?_ (by simp) hlc (fun k f hf => ?_) (fun k f hf => ?_)
          · have := (hr 0 (by omega)).2.2.2.2.1
            rw [Nat.zero_mul, Addr.add_lit] at this
            exact this
          · obtain ⟨hk, rfl⟩ := mem_range_map hf
            obtain ⟨c0, c1, c2, c3, _⟩ := hr k hk
            rw [hcell k _ hk] at c0 c1 c2 c3
            exact ⟨c0, c1, c2, c3⟩
          · obtain ⟨hk, rfl⟩ := mem_range_map hf
            exact (hr k hk).2.2.2.2.2.1
        · refine .mk _ (fun f hf => ?_) (fun f hf => ?_)
          · obtain ⟨i, hi, rfl⟩ := List.mem_map.1 hf
            have := (hr i (List.mem_range.1 hi)).2.2.2.2.2.2.1
            omega
          · obtain ⟨i, hi, rfl⟩ := List.mem_map.1 hf
            exact (hr i (List.mem_range.1 hi)).2.2.2.2.2.2.2.1
        · refine .mk _ (fun f hf => ?_) (fun f hf => ?_)
          · obtain ⟨i, hi, rfl⟩ := List.mem_map.1 hf
            exact (hr i (List.mem_range.1 hi)).2.2.2.2.2.2.2.2.1.1
          · obtain ⟨i, hi, rfl⟩ := List.mem_map.1 hf
            exact (hr i (List.mem_range.1 hi)).2.2.2.2.2.2.2.2.1.2
        · have := dts_bulk (fun i => (r i).1) D (List.range len) (fun i hi => (hr i (List.mem_range.1 hi)).2.2.2.2.2.2.2.2.2)
          simp only [Rows.uptoBulk]
          omega
open Go.WideElems in
/-- A call that changes nothing that was there, and returns true: what the law asks. -/
theorem post_of_below {f : Func} {s : ChangeSpec} {W W' : World} {args : Array Value} {ds gs : List (DataW H)} {before : List MemPlace} {u : TypeId}
    (hW : DataW.Whole enc Tryz.prog f.params.toList s.vars false W args.toList ds gs before) (hb : Below W.heap.size W W') (hres : f.resultTypes = #[u]) (hu : Tryz.prog.underlying u = some .bool) (hrs : (s.fn H (ds ++ gs)).results = [.lit (.bool true)])
    (hvars : s.vars = []) (hv2 : (s.fn H (ds ++ gs)).vars = []) (pa : List MemPlace) (hargs : DataW.TrodAll enc Tryz.prog W' 0 (fun b => decide (b < W.heap.size)) true f.params.toList args.toList (s.fn H (ds ++ gs)).args pa) :
    s.post enc Tryz.prog f false true false false W args (.bool true) W' := by
  refine ⟨ds, gs, before, [], pa, [], hW, ?_, hargs, ?_, hb.frame _, fun h => by cases h⟩
  · rw [hres, hrs]
    exact trodAll_cons_mk (shut_bool hu _) trodAll_mk0
  · rw [hvars, hv2]; rfl
end
end Go.Proofs.YtglgclkgppomiaaGreat
