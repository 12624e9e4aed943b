/- What the walk of Group.Fields wants besides: the order of names, a step of a range over a map of nodes, an append where there is room, the sort's world. -/
import Derived.Test.YtglgclkgppomiaaGreatZ03
import Derived.Test.YtglgclkgppomiaaGreatZ04
import Derived.Test.YtglgclkgppomiaaGreatZ06
import Derived.Maps.RangeWalk
import Derived.ArgAppend
set_option linter.unusedVariables false
set_option linter.unusedSimpArgs false
namespace Go.Proofs.YtglgclkgppomiaaGreat
open Go Go.RowKit Go.Sort

/-! ### Names -/
theorem bl_total : ∀ x y : List UInt8, Op.bytesLess x y = false → Op.bytesLess y x = false → x = y
  | [], [], _, _ => rfl
  | [], _ :: _, h, _ => by simp [Op.bytesLess] at h
  | _ :: _, [], _, h => by simp [Op.bytesLess] at h
  | a :: x, b :: y, h1, h2 => by
    have ih := bl_total x y
    simp only [Op.bytesLess, Bool.or_eq_false_iff, Bool.and_eq_false_iff, decide_eq_false_iff_not, beq_eq_false_iff_ne, ne_eq] at h1 h2
    have hab : a = b := UInt8.le_antisymm (by simpa using h2.1) (by simpa using h1.1)
    subst hab
    rw [ih (by rcases h1.2 with h | h; exact absurd rfl h; exact h) (by rcases h2.2 with h | h; exact absurd rfl h; exact h)]
theorem cmp_lt : ∀ x y : List UInt8, decide (Lib.compareBytes x y < 0) = Op.bytesLess x y
  | [], [] => by simp [Lib.compareBytes, Op.bytesLess]
  | [], _ :: _ => by simp [Lib.compareBytes, Op.bytesLess]
  | _ :: _, [] => by simp [Lib.compareBytes, Op.bytesLess]
  | a :: x, b :: y => by
    have ih := cmp_lt x y
    unfold Lib.compareBytes
    simp only [Op.bytesLess]
    by_cases h1 : a < b
    · simp [h1]
    · by_cases h2 : b < a
      · have hne : ¬ a = b := fun he => by subst he; exact h1 h2
        simp [h1, h2, hne]
      · have hab : a = b := UInt8.le_antisymm (by simpa using h2) (by simpa using h1)
        subst hab
        simp [h1, ih]
def cmpNm (x y : ByteArray) : Int := Lib.compareBytes x.data.toList y.data.toList
theorem ltOf_cmpNm (x y : ByteArray) : ltOf cmpNm x y = Op.bytesLess x.toList y.toList := by
  unfold ltOf cmpNm
  rw [cmp_lt, ByteArray.toList_eq, ByteArray.toList_eq]
theorem bytes_eq {x y : ByteArray} (h : x.toList = y.toList) : x = y := by
  rw [ByteArray.toList_eq, ByteArray.toList_eq] at h
  obtain ⟨⟨a⟩⟩ := x
  obtain ⟨⟨b⟩⟩ := y
  simp only at h
  rw [h]
theorem nm_total (x y : ByteArray) (h1 : ltOf cmpNm x y = false) (h2 : ltOf cmpNm y x = false) : x = y := by
  rw [ltOf_cmpNm] at h1 h2
  exact bytes_eq (bl_total _ _ h1 h2)
theorem swoNm : SWO (ltOf cmpNm) where
  irrefl x := by rw [ltOf_cmpNm]; exact bl_irrefl _
  trans x y z h1 h2 := by rw [ltOf_cmpNm] at *; exact bl_trans _ _ _ h1 h2
  ntrans x y z h1 h2 := by
    cases h3 : ltOf cmpNm x z with
    | false => rfl
    | true =>
      cases h4 : ltOf cmpNm y x with
      | false => rw [nm_total x y h1 h4] at h3; rw [h2] at h3; cases h3
      | true =>
        have h5 : ltOf cmpNm y z = true := by rw [ltOf_cmpNm] at *; exact bl_trans _ _ _ h4 h3
        rw [h2] at h5; cases h5
/-- Names in whatever order, sorted: the fields' names. -/
theorem sorted_names {kids : List Fd} {d : Int} (hok : OkL kids d) {L : List ByteArray} (hp : L.Perm (kids.map Fd.name)) : L.mergeSort (fun x y => !(ltOf cmpNm) y x) = kids.map Fd.name := by
  refine List.Perm.eq_of_pairwise (le := fun x y => (!(ltOf cmpNm) y x) = true) ?_ ?_ ?_ ((List.mergeSort_perm _ _).trans hp)
  · intro a b _ _ h1 h2
    simp only [Bool.not_eq_true'] at h1 h2
    exact nm_total a b h2 h1
  · refine List.pairwise_mergeSort (fun a b c h1 h2 => ?_) (fun a b => ?_) L
    · simp only [Bool.not_eq_true'] at *
      exact swoNm.ntrans _ _ _ h2 h1
    · cases h1 : ltOf cmpNm b a with
      | false => simp
      | true =>
        cases h2 : ltOf cmpNm a b with
        | false => simp
        | true => have := swoNm.trans _ _ _ h1 h2; rw [swoNm.irrefl] at this; cases this
  · rw [List.pairwise_iff_getElem]
    intro i j hi hj hij
    simp only [List.getElem_map, Bool.not_eq_true']
    have hi' : i < kids.length := by simpa using hi
    have hj' : j < kids.length := by simpa using hj
    have := hok.lt (j - i - 1) i kids[i] kids[j] (List.getElem?_eq_getElem hi') (by rw [show i + (j - i - 1) + 1 = j from by omega]; exact List.getElem?_eq_getElem hj')
    cases h2 : ltOf cmpNm (kids[j]).name (kids[i]).name with
    | false => rfl
    | true =>
      rw [ltOf_cmpNm] at h2
      have h3 := bl_trans _ _ _ this h2
      rw [bl_irrefl] at h3; cases h3

/-! ### The fields' cells -/
def nmOf (kids : List Fd) (i : Nat) : ByteArray := match kids[i]? with | some f => f.name | none => .empty
def ixOf (kids : List Fd) (s : ByteArray) : Nat := kids.findIdx fun f => decide (f.name = s)
theorem ixOf_nm {kids : List Fd} {d : Int} (hok : OkL kids d) {i : Nat} (hi : i < kids.length) : ixOf kids (nmOf kids i) = i := by
  unfold ixOf nmOf
  rw [List.getElem?_eq_getElem hi]
  refine (List.findIdx_eq hi).2 ⟨by simp, fun j hj => ?_⟩
  simp only [decide_eq_false_iff_not]
  exact hok.ne hj (List.getElem?_eq_getElem (by omega)) (List.getElem?_eq_getElem hi)
/-- The cells of the field of a name. -/
def gfEnc (kids : List Fd) (T : Nat → TypeId) (X : Nat → Value) (s : ByteArray) : List Value := [.iface (T (ixOf kids s)) (X (ixOf kids s)), .string s]

/-! ### A step of a range over a map of nodes -/
theorem wpList_next_nodes {P : Program} (w : World) {ops : Array Oper} {rest : List Oper} {o : Oper} {a : Act} {Q : Exit → Act → World → Prop} (hg : o.guard = none) (it : Operand) (hop : o.op = Op.next it false)
    (r bm n c0 : Nat) (seen : Array Nat) (es : Array MapEntry) (nm : Nat → ByteArray) (T : Nat → TypeId) (X : Nat → Value)
    (hes : ∀ e ∈ es.toList, ∃ i, i < n ∧ e = MapEntry.mk (.string (nm i)) (.iface (T i) (X i)) i) (hall : ∀ i, i < n → MapEntry.mk (.string (nm i)) (.iface (T i) (X i)) i ∈ es.toList) (hnd : (es.toList.map (·.born)).Nodup)
    (hit : a.eval it = .pointer (some ⟨r, 0, none⟩)) (hr : w.heap[r]? = some (.mapIter (some bm) n seen c0)) (hb : w.heap[bm]? = some (.map es n)) (hn : n ≤ c0) (hbr : bm ≠ r)
    (hDone : (∀ i, i < n → seen.contains i = true) → wpList P ops Q rest (a.put o.dst (.tuple #[.bool false])) w)
    (hMore : ∀ (i : Nat) (w' : World), i < n → seen.contains i = false → w'.heap[r]? = some (.mapIter (some bm) n (seen.push i) n) → (∀ b, b ≠ r → w'.heap[b]? = w.heap[b]?) → w'.heap.size = w.heap.size → Below r w w' →
      (Instr.entry (.pointer (some ⟨r, 0, none⟩))).run P w' = .ok (.tuple #[.string (nm i), .iface (T i) (X i)]) w' → wpList P ops Q rest (a.put o.dst (.tuple #[.bool true, .string (nm i), .iface (T i) (X i)])) w') :
    wpList P ops Q (o :: rest) a w := by
  refine wpList_plain hg fun K' hK' => ?_
  unfold Oper.wp
  rcases run_next_at (P := P) w o.type r bm n c0 seen es n hr hb (fun x hx => by obtain ⟨i, hi, rfl⟩ := hes x hx; exact hi) hn with ⟨h0, hrun⟩ | ⟨e, he, w1, hw1, hrun⟩
  · simp [execOp, hop, hit, hrun, Result.andThen]
    refine hK' _ _ (hDone fun i hi => ?_)
    cases hc : seen.contains i with
    | true => rfl
    | false =>
      have hm := hall i hi
      have : MapEntry.mk (.string (nm i)) (.iface (T i) (X i)) i ∈ leftOf es seen := by
        unfold leftOf
        rw [Array.mem_filter]
        exact ⟨by simpa using hm, by show (!seen.contains i) = true; rw [hc]; rfl⟩
      have h2 : (leftOf es seen) = #[] := Array.eq_empty_of_size_eq_zero h0
      rw [h2] at this
      simp at this
  · have hin : e ∈ leftOf es seen := by simpa using he
    unfold leftOf at hin
    rw [Array.mem_filter] at hin
    obtain ⟨hin, hsn⟩ := hin
    have hin' : e ∈ es.toList := by simpa using hin
    obtain ⟨i, hi, rfl⟩ := hes e hin'
    simp only [Bool.not_eq_true'] at hsn
    have hrs : r < w1.heap.size := by
      have : r < w.heap.size := (Array.getElem?_eq_some_iff.1 hr).1
      rcases hw1 with rfl | rfl <;> exact this
    have hr' : (Go.ChangeMaps.setBlock w1 r (.mapIter (some bm) n (seen.push i) n)).heap[r]? = some (.mapIter (some bm) n (seen.push i) n) := by
      simp [Go.ChangeMaps.setBlock, hrs]
    have ho : ∀ b, b ≠ r → (Go.ChangeMaps.setBlock w1 r (.mapIter (some bm) n (seen.push i) n)).heap[b]? = w.heap[b]? := fun b hb => by
      have : (Go.ChangeMaps.setBlock w1 r (.mapIter (some bm) n (seen.push i) n)).heap[b]? = w1.heap[b]? := by simp [Go.ChangeMaps.setBlock, Ne.symm hb]
      rw [this]
      rcases hw1 with rfl | rfl <;> rfl
    have hsz : (Go.ChangeMaps.setBlock w1 r (.mapIter (some bm) n (seen.push i) n)).heap.size = w.heap.size := by
      have : (Go.ChangeMaps.setBlock w1 r (.mapIter (some bm) n (seen.push i) n)).heap.size = w1.heap.size := by simp [Go.ChangeMaps.setBlock]
      rw [this]
      rcases hw1 with rfl | rfl <;> rfl
    have hbl : Below r w (Go.ChangeMaps.setBlock w1 r (.mapIter (some bm) n (seen.push i) n)) := by
      refine ⟨?_, ?_, ?_, by rw [hsz]; exact Nat.le_refl _, fun b hb => ho b (by omega)⟩
      · rcases hw1 with rfl | rfl <;> rfl
      · rcases hw1 with rfl | rfl <;> rfl
      · rcases hw1 with rfl | rfl <;> rfl
    have hen := run_entry_at (P := P) (Go.ChangeMaps.setBlock w1 r (.mapIter (some bm) n (seen.push i) n)) r bm n seen es n (MapEntry.mk (.string (nm i)) (.iface (T i) (X i)) i) hr' ((ho bm hbr).trans hb) hin' hnd
    simp [execOp, hop, hit, hrun, Result.andThen]
    exact hK' _ _ (hMore i _ hi hsn hr' ho hsz hbl hen)

/-! ### append of one element where there is room -/
theorem wpList_append_room {P : Program} (w : World) {ops : Array Oper} {rest : List Oper} {o : Oper} {a : Act} {Q : Exit → Act → World → Prop} (hg : o.guard = none) (s x : Operand) (t : TypeId)
    (hop : o.op = Op.call { callee := Callee.builtin Builtin.append, args := #[s, x], argTypes := #[t, t] }) (e : TypeId) (i : TypeInfo) (ht : P.underlying t = some (.slice e)) (hi : P.info? e = some i)
    (size : Nat) (hsize : i.size = size) (b sLen sCap : Nat) (hs : a.eval s = .slice (some ⟨b, 0, none⟩) sLen sCap) (ad : Addr) (c : Nat) (news : List Value) (hx : a.eval x = .slice (some ad) 1 c) (hl : news.length = size)
    (hnews : ∀ j u, news[j]? = some u → w.cell? (ad.add j) = some u) (h1 : ∀ u ∈ news, u.oneCell' = true) (hroom : sLen + 1 ≤ sCap) (cs : Array Value) (hrow : RowB w b e cs) (hcs : cs.size = sCap * size)
    (hK : wpList P ops Q rest (a.put o.dst (.slice (some ⟨b, 0, none⟩) (sLen + 1) sCap)) (w.setCells b (sLen * size) news)) :
    wpList P ops Q (o :: rest) a w := by
  refine wpList_plain hg fun K hK' => ?_
  subst hsize
  have hin : ∀ j, j < news.length → 0 + sLen * i.size + j < cs.size := fun j hj => by
    rw [hcs]
    have : (sLen + 1) * i.size ≤ sCap * i.size := Nat.mul_le_mul_right _ hroom
    rw [Nat.add_mul] at this
    omega
  have hrun := run_append_room_cells (P := P) w t o.type e i ht hi b 0 sLen sCap ad 1 c news (by omega) hnews h1 hroom (fun j hj => by rw [hrow.cell, Array.getElem?_eq_getElem (hin j hj)]; rfl) (fun j hj => hrow.free _)
  rw [Nat.zero_add] at hrun
  unfold Oper.wp
  simp [execOp, hop, resolve, invoke, builtin, hs, hx, hrun, Result.andThen]
  exact hK' _ _ hK
theorem rowB_setCells {g : Nat} {t : TypeId} : ∀ (vs : List Value) (s : Nat) (w : World) (cs : Array Value), RowB w g t cs → RowB (w.setCells g s vs) g t (setMany cs s vs)
  | [], _, _, _, h => h
  | v :: r, s, w, cs, h => by
    rw [World.setCells, setMany]
    exact rowB_setCells r _ _ _ (h.set s v)

/-! ### The sort's world -/
theorem below_sortWorldK {α : Type} [Inhabited α] (enc : α → List Value) (k B : Nat) (w : World) (blk off m : Nat) (d : Array α) (os : Array Obj) (hB : B ≤ blk) (hs : B ≤ w.heap.size) : Below B w (sortWorldK enc k w blk off m d os) := by
  have hsz : (putRowK enc k (Sort.ahead w m) blk off d).heap.size = w.heap.size := by simp [putRowK, putRow, mapBlock, Sort.ahead]
  have hb : ∀ b, b < B → (putRowK enc k (Sort.ahead w m) blk off d).heap[b]? = w.heap[b]? := fun b hb => by
    have hne : b ≠ blk := by omega
    simp [putRowK, putRow, mapBlock, Sort.ahead, Array.getElem?_modify, Ne.symm hne]
  refine ⟨rfl, rfl, rfl, ?_, fun b hb' => ?_⟩
  · show w.heap.size ≤ ((putRowK enc k (Sort.ahead w m) blk off d).heap ++ os).size
    rw [Array.size_append, hsz]
    omega
  · show ((putRowK enc k (Sort.ahead w m) blk off d).heap ++ os)[b]? = _
    rw [Array.getElem?_append_left (by rw [hsz]; omega)]
    exact hb b hb'
end Go.Proofs.YtglgclkgppomiaaGreat
