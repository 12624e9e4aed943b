/- The walk of Group.Fields: the nodes of a map, sorted by their names. The walk of numLeafColumns: the number of leaves of a node. The closures that take a row apart, in memory. The closures that put a row together, in memory. -/
import Derived.Test.YtglgclkgppomiaaGreatZ05
import Derived.Test.YtglgclkgppomiaaGreatZ07
set_option linter.unusedVariables false
set_option linter.unusedSimpArgs false
namespace Go.Proofs.YtglgclkgppomiaaGreat
open Go Go.RowKit Go.Sort
/-- The fields of a group lie behind a new slice, in the order of their names. -/
def FieldsPost (lo : Nat) (kids : List Fd) (w : World) (e : Ending) (w' : World) : Prop :=
  ∃ (fb : Nat) (X : Nat → Value), e = .returned (.slice (some ⟨fb, 0, none⟩) kids.length kids.length) ∧ w.heap.size ≤ fb ∧ fb < w'.heap.size ∧
    (∀ i f, kids[i]? = some f → w'.cell? ⟨fb, i, none⟩ = some (.iface 212 (X i)) ∧ IsNd w' lo w'.heap.size 2 212 (X i) (f.way == 1) (f.way == 2) f.kind f.kids) ∧ Below w.heap.size w w'
set_option maxHeartbeats 1000000 in
theorem closure185 (T1 : TypeId) (x1 : Value) (s1 : ByteArray) (T2 : TypeId) (x2 : Value) (s2 : ByteArray) (W : World) :
    Calls Tryz.prog 185 #[.agg #[.iface T1 x1, .string s1], .agg #[.iface T2 x2, .string s2]] W fun e w' => e = .returned (.int .i64 (cmpNm s1 s2)) ∧ ∃ q os', w' = grow (W.drewN q) os' := by
  have hcon : ∀ W', Calls Tryz.prog 186 #[.string s1, .string s2] W' fun e w' => e = .returned (.int .i64 (cmpNm s1 s2)) ∧ w' = W' := fun W' => strings_Compare s1 s2 W'
  generalize cmpNm s1 s2 = r at hcon ⊢
  go_enter Tryz.func185, Tryz.ntmps185
  go_wp2_with (go_at_call 186; refine (hcon _).mono ?_; rintro e w' ⟨rfl, rfl⟩)
  go_ret
  exact ⟨rfl, 0, _, by rw [alloc_eq_grow, alloc_eq_grow, grow_grow]; rfl⟩
/-- The map's nodes that have come so far lie behind the slice. -/
structure Gath (wr : World) (g m n : Nat) (nm : Nat → ByteArray) (T : Nat → TypeId) (X : Nat → Value) (L : List Nat) (cs : Array Value) (c0 : Nat) : Prop where
  it : wr.heap[g + 1]? = some (.mapIter (some m) n L.toArray c0)
  hc0 : n ≤ c0
  nd : L.Nodup
  lt : ∀ i ∈ L, i < n
  row : RowB wr g 208 cs
  size : cs.size = n * 2
  get : ∀ j i, L[j]? = some i → cs[j * 2]? = some (.iface (T i) (X i)) ∧ cs[j * 2 + 1]? = some (.string (nm i))
def SomeGath (wr : World) (g m n : Nat) (nm : Nat → ByteArray) (T : Nat → TypeId) (X : Nat → Value) (j : Nat) : Prop := ∃ L cs c0, Gath wr g m n nm T X L cs c0 ∧ L.length = j
theorem nodup_len {L : List Nat} (hn : L.Nodup) {n : Nat} (hlt : ∀ i ∈ L, i < n) : L.length ≤ n := by
  have h := List.Nodup.length_le_of_subset hn (l₂ := List.range n) (fun i hi => List.mem_range.2 (hlt i hi))
  simpa using h
/-- The pointers to the first fields. -/
def SomePtrs (wr : World) (f g n j : Nat) : Prop := ∃ cs : Array Value, RowB wr f 148 cs ∧ cs.size = n ∧ ∀ i, i < j → cs[i]? = some (.iface 212 (.pointer (some ⟨g, i * 2, none⟩)))
theorem info208 : (Tryz.prog.info? 208).map (fun i => (i.zero, i.size, i.bytes)) = some (some (.agg #[.nilIface, .string .empty]), 2, 32) := by kernel_rfl
theorem info148 : (Tryz.prog.info? 148).map (fun i => (i.zero, i.size, i.bytes)) = some (some .nilIface, 1, 16) := by kernel_rfl
def slLen : Value → Nat
  | .slice _ n _ => n
  | _ => 0
theorem gath_holds {wr : World} {g m : Nat} {kids : List Fd} {T : Nat → TypeId} {X : Nat → Value} {L : List Nat} {cs : Array Value} {c0 : Nat} {d : Int} (G : Gath wr g m kids.length (nmOf kids) T X L cs c0) (hok : OkL kids d) :
    HoldsK (gfEnc kids T X) 2 wr g 0 (L.map (nmOf kids)).toArray := by
  intro t ht
  rw [size_flatK] at ht
  have ht' : t < L.length * 2 := by simpa using ht
  rw [Nat.zero_add, G.row.cell, get_flatK _ _ _ _ ht]
  refine ⟨?_, G.row.free _⟩
  have hq : t / 2 < L.length := by omega
  obtain ⟨h0, h1⟩ := G.get (t / 2) L[t / 2] (List.getElem?_eq_getElem hq)
  have hd : ((L.map (nmOf kids)).toArray)[t / 2]! = nmOf kids L[t / 2] := by simp [hq]
  have hi := G.lt L[t / 2] (List.getElem_mem hq)
  rw [hd]
  unfold gfEnc
  rw [ixOf_nm hok hi]
  have h2 : t % 2 = 0 ∨ t % 2 = 1 := by omega
  rcases h2 with h | h
  · rw [h, show cs[t]? = cs[t / 2 * 2]? from by congr 1; omega, h0]; rfl
  · rw [h, show cs[t]? = cs[t / 2 * 2 + 1]? from by congr 1; omega, h1]; rfl
theorem sorted_cells {wr : World} {g : Nat} {kids : List Fd} {T : Nat → TypeId} {X : Nat → Value} {L : List Nat} {d : Int} (hok : OkL kids d) (hH : HoldsK (gfEnc kids T X) 2 wr g 0 (L.map (nmOf kids)).toArray) (hL : L.length = kids.length) (hg : g < wr.heap.size) (n' : Nat) (os : Array Obj)
    (i : Nat) (hi : i < kids.length) : (sortWorldK (gfEnc kids T X) 2 wr g 0 n' (kids.map Fd.name).toArray os).cell? ⟨g, i * 2, none⟩ = some (.iface (T i) (X i)) := by
  have hsz : (putRowK (gfEnc kids T X) 2 (Sort.ahead wr n') g 0 (kids.map Fd.name).toArray).heap.size = wr.heap.size := by simp [putRowK, putRow, mapBlock, Sort.ahead]
  have h1 : HoldsK (gfEnc kids T X) 2 (sortWorldK (gfEnc kids T X) 2 wr g 0 n' (kids.map Fd.name).toArray os) g 0 (kids.map Fd.name).toArray :=
    holdsK_grow _ _ _ os g 0 _ (by rw [hsz]; exact hg) (holdsK_putRowK _ _ _ g 0 _ _ (holdsK_ahead _ _ _ n' g 0 _ hH) (by simp [hL]))
  have h2 := (h1.cell (i := i) (c := 0) (by simpa using hi) (by omega)).1
  have hd : ((kids.map Fd.name).toArray)[i]! = nmOf kids i := by
    unfold nmOf
    rw [List.getElem?_eq_getElem hi]
    simp [hi]
  rw [hd, Nat.zero_add, Nat.add_zero] at h2
  rw [h2]
  unfold gfEnc
  rw [ixOf_nm hok hi]
  rfl
theorem names_map (kids : List Fd) : (List.range kids.length).map (nmOf kids) = kids.map Fd.name := by
  apply List.ext_getElem
  · simp
  · intro i h1 h2
    have hi : i < kids.length := by simpa using h2
    simp only [List.getElem_map, List.getElem_range]
    unfold nmOf
    rw [List.getElem?_eq_getElem hi]
theorem gath_len {wr : World} {g m n : Nat} {nm : Nat → ByteArray} {T : Nat → TypeId} {X : Nat → Value} {L : List Nat} {cs : Array Value} {c0 : Nat} (G : Gath wr g m n nm T X L cs c0) {i : Nat} (hi : i < n) (hn : ¬ i ∈ L) : L.length + 1 ≤ n := by
  have := nodup_len (L := i :: L) (List.nodup_cons.2 ⟨hn, G.nd⟩) (n := n) (fun x hx => by
    rcases List.mem_cons.1 hx with rfl | hx
    · exact hi
    · exact G.lt x hx)
  simpa using this
theorem gath_push {wr w' : World} {g m n : Nat} {nm : Nat → ByteArray} {T : Nat → TypeId} {X : Nat → Value} {L : List Nat} {cs : Array Value} {c0 : Nat} (G : Gath wr g m n nm T X L cs c0) {i : Nat} (hi : i < n) (hn : ¬ i ∈ L)
    (hit : w'.heap[g + 1]? = some (.mapIter (some m) n (L ++ [i]).toArray n)) (hrow : RowB w' g 208 (setMany cs (L.length * 2) [.iface (T i) (X i), .string (nm i)])) :
    Gath w' g m n nm T X (L ++ [i]) (setMany cs (L.length * 2) [.iface (T i) (X i), .string (nm i)]) n where
  it := hit
  hc0 := Nat.le_refl _
  nd := by
    rw [List.nodup_append]
    exact ⟨G.nd, by simp, fun a ha b hb he => by simp at hb; subst hb; subst he; exact hn ha⟩
  lt := fun x hx => by
    rcases List.mem_append.1 hx with hx | hx
    · exact G.lt x hx
    · simp at hx; subst hx; exact hi
  row := hrow
  size := by rw [size_setMany, G.size]
  get := fun j k hk => by
    have hlt := gath_len G hi hn
    have hsz := G.size
    simp only [setMany]
    by_cases hj : j < L.length
    · rw [List.getElem?_append_left hj] at hk
      obtain ⟨h0, h1⟩ := G.get j k hk
      rw [Array.getElem?_setIfInBounds_ne (by omega), Array.getElem?_setIfInBounds_ne (by omega), Array.getElem?_setIfInBounds_ne (by omega), Array.getElem?_setIfInBounds_ne (by omega)]
      exact ⟨h0, h1⟩
    · have hjl : j = L.length := by
        have := (List.getElem?_eq_some_iff.1 hk).1
        simp at this; omega
      subst hjl
      rw [List.getElem?_append_right (Nat.le_refl _)] at hk
      simp at hk
      subst hk
      rw [Array.getElem?_setIfInBounds_ne (by omega), Array.getElem?_setIfInBounds_self_of_lt (by omega), Array.getElem?_setIfInBounds_self_of_lt (by rw [Array.size_setIfInBounds]; omega)]
      exact ⟨rfl, rfl⟩
set_option maxRecDepth 100000 in
set_option maxHeartbeats 4000000 in
theorem fields_any (kids : List Fd) (d : Int) (lo m : Nat) (w : World) (h : IsNd w lo w.heap.size 0 121 (.map (some m)) false false 0 kids) (hok : OkL kids d) (hl : kids.length ≤ 1000000000) :
    Calls Tryz.prog 178 #[.map (some m)] w (FieldsPost lo kids w) := by
  cases h with
  | group m es kids T X hlo hb hne hm hes hk hr =>
  have hes' : ∀ e ∈ es.toList, ∃ i, i < kids.length ∧ e = MapEntry.mk (.string (nmOf kids i)) (.iface (T i) (X i)) i := fun e he => by
    obtain ⟨i, hi, rfl⟩ := List.getElem_of_mem he
    have hi' : i < kids.length := by rw [← hes]; simpa using hi
    refine ⟨i, hi', ?_⟩
    have h1 := hk i kids[i] (List.getElem?_eq_getElem hi')
    have h2 : es[i]? = some es.toList[i] := by rw [← Array.getElem?_toList]; exact List.getElem?_eq_getElem hi
    rw [h2] at h1
    injection h1 with h1
    rw [h1]
    unfold nmOf
    rw [List.getElem?_eq_getElem hi']
  have hall : ∀ i, i < kids.length → MapEntry.mk (.string (nmOf kids i)) (.iface (T i) (X i)) i ∈ es.toList := fun i hi => by
    have h1 := hk i kids[i] (List.getElem?_eq_getElem hi)
    rw [← Array.getElem?_toList] at h1
    have := List.mem_of_getElem? h1
    unfold nmOf
    rw [List.getElem?_eq_getElem hi]
    exact this
  have hnd : (es.toList.map (·.born)).Nodup := by
    have : es.toList.map (·.born) = List.range kids.length := by
      apply List.ext_getElem
      · simp [hes]
      · intro i h1 h2
        have hi : i < es.toList.length := by simpa using h1
        have hi' : i < kids.length := by simpa using h2
        have h3 := hk i kids[i] (List.getElem?_eq_getElem hi')
        have h4 : es[i]? = some es.toList[i] := by rw [← Array.getElem?_toList]; exact List.getElem?_eq_getElem hi
        rw [h4] at h3
        injection h3 with h3
        simp only [List.getElem_map, List.getElem_range]
        rw [h3]
    rw [this]; exact List.nodup_range
  have HES := Lib.hid hes'
  have HALL := Lib.hid hall
  have HND := Lib.hid hnd
  have HR := Lib.hid hr
  have HOK := Lib.hid hok
  have HNE := Lib.hid hne
  have HM := Lib.hid hm
  have HLO := Lib.hid hlo
  obtain ⟨i208, j1, j2, j3, j4⟩ := info_parts info208
  have J1 := Lib.hid j1
  have J3 := Lib.hid j3
  have hmk : (Instr.makeSlice 206 (.int .i64 0) (.int .i64 (kids.length : Int))).run Tryz.prog w = .ok (.slice (some ⟨w.heap.size, 0, none⟩) 0 kids.length) (w.alloc (.cells (madeCells (Value.agg #[.nilIface, .string .empty]).cells (kids.length * 2)) 208)) := by
    have hr := run_make (P := Tryz.prog) w 206 208 i208 _ Tryz.underlying206 j1 j2 .i64 .i64 0 (kids.length : Int) (by omega) (by omega) (by rw [j4]; omega) (by omega)
    rw [j3] at hr
    simpa using hr
  have hm1 : (w.alloc (.cells (madeCells (Value.agg #[.nilIface, .string .empty]).cells (kids.length * 2)) 208)).heap[m]? = some (.map es kids.length) := (Below.heap_alloc w _ m hb).trans hm
  have hrg := run_range_map (P := Tryz.prog) (w.alloc (.cells (madeCells (Value.agg #[.nilIface, .string .empty]).cells (kids.length * 2)) 208)) 121 9 67 m es kids.length Tryz.underlying121 hm1
  have hcsz : (madeCells (Value.agg #[.nilIface, .string .empty]).cells (kids.length * 2)).size = kids.length * 2 := by simp [madeCells]
  have hlen : (Builtin.len_ #[121] 3 #[.map (some m)]).run Tryz.prog w = .ok (.int .i64 (kids.length : Int)) w := by
    simp [Builtin.len_, run_underlying Tryz.underlying121, MapKept.run_getObj_map hm, goInt, hes]
  clear hes' hall hnd hr hok hne hlo hk hes j1 j2 j3 j4
  generalize hC : madeCells (Value.agg #[.nilIface, .string .empty]).cells (kids.length * 2) = C at hmk hm1 hrg hcsz
  clear hC
  have HCSZ := Lib.hid hcsz
  clear hcsz hm1
  go_enter Tryz.func178, Tryz.ntmps178
  go_wp2_with fail
  have hmr : m ≠ w.heap.size + 1 := by omega
  go_loopw [3] (fun v wr => ∃ j : Nat, j ≤ kids.length ∧ v = .slice (some ⟨w.heap.size, 0, none⟩) j kids.length ∧ SomeGath wr w.heap.size m kids.length (nmOf kids) T X j ∧ w.heap.size + 2 ≤ wr.heap.size ∧ Below w.heap.size w wr) (fun v _ => kids.length - slLen v)
  case atStart =>
    refine ⟨0, Nat.zero_le _, rfl, ⟨[], C, kids.length, ⟨?_, Nat.le_refl _, List.nodup_nil, fun i hi => (by cases hi), ?_, HCSZ.out, fun j i h => (by simp at h)⟩, rfl⟩, by simp, ((Below.refl _ _).alloc (Nat.le_refl _) _).alloc (by simp) _⟩
    · have := heap_alloc_new (w.alloc (.cells C 208)) (.mapIter (some m) kids.length #[] kids.length)
      simpa using this
    · exact (RowB.new w 208 C).alloc _
  case round =>
    obtain ⟨j, hj, rfl, hg, hsz, hbl⟩ := hrel
    obtain ⟨L, cs, c0, G, hLj⟩ := hg
    have HG := Lib.hid G
    have HB := Lib.hid hbl
    have hmw : wr.heap[m]? = some (.map es kids.length) := (hbl.block m hb).trans HM.out
    go_wp2_with (first
      | (at_next; refine wpList_next_nodes _ rfl _ rfl (w.heap.size + 1) m kids.length c0 L.toArray es (nmOf kids) T X HES.out HALL.out HND.out rfl G.it hmw G.hc0 hmr ?_ ?_)
      | fail)
    · intro hdone
      have hperm : L.Perm (List.range kids.length) := (List.perm_ext_iff_of_nodup G.nd List.nodup_range).2 fun a => ⟨fun h => List.mem_range.2 (G.lt a h), fun h => by have := hdone a (List.mem_range.1 h); simpa using this⟩
      have hjn : j = kids.length := by rw [← hLj, hperm.length_eq]; simp
      have hdn : ((L.map (nmOf kids)).toArray).size = kids.length := by simp [hLj, hjn]
      have hH := gath_holds G HOK.out
      have eg : ∀ args w, (callFunc 185 args).run Tryz.prog w = .ok (.enter 185 args) w := enters_of Tryz.func185 (by kernel_rfl) rfl
      have hcon := AnyQ.slices_SortFunc_total sortLays 2 Tryz.isAgg208 Tryz.sizeOf208 (gfEnc kids T X) (fun _ => rfl) (fun x v hv => by simp [gfEnc] at hv; rcases hv with rfl | rfl <;> rfl) cmpNm swoNm 185 #[] w.heap.size 0 kids.length _ wr eg (fun _ _ _ _ x y => closure185 _ _ _ _ _ _ _) hH (by omega) (by rw [hdn]; omega) nm_total
      change Calls Tryz.prog 184 _ _ _ at hcon
      rw [hdn] at hcon
      have hsn := sorted_names HOK.out (L := L.map (nmOf kids)) ((hperm.map _).trans (by rw [names_map]))
      rw [show ((L.map (nmOf kids)).toArray).toList = L.map (nmOf kids) from rfl, hsn] at hcon
      have hfin : ∀ n' os, Below w.heap.size w (sortWorldK (gfEnc kids T X) 2 wr w.heap.size 0 n' (kids.map Fd.name).toArray os) ∧ w.heap.size < (sortWorldK (gfEnc kids T X) 2 wr w.heap.size 0 n' (kids.map Fd.name).toArray os).heap.size ∧
          ∀ i, i < kids.length → (sortWorldK (gfEnc kids T X) 2 wr w.heap.size 0 n' (kids.map Fd.name).toArray os).cell? ⟨w.heap.size, i * 2, none⟩ = some (.iface (T i) (X i)) := fun n' os =>
        ⟨hbl.trans (below_sortWorldK _ 2 _ wr _ 0 n' _ os (Nat.le_refl _) (by omega)), by have := (below_sortWorldK (gfEnc kids T X) 2 w.heap.size wr w.heap.size 0 n' (kids.map Fd.name).toArray os (Nat.le_refl _) (by omega)).size; omega, fun i hi => sorted_cells HOK.out hH (by rw [hLj, hjn]) (by omega) n' os i hi⟩
      have HFIN := Lib.hid hfin
      clear G HG HB hbl hdone hmw hfin hH hsn eg hperm hdn hj hsz HES HALL HND hlen hmk hrg
      subst hjn
      have hcon2 : Calls Tryz.prog 184 #[.slice (some ⟨w.heap.size, 0, none⟩) kids.length kids.length, .func (.func 185) #[] #[]] wr fun e w' => e = .returned (.tuple #[]) ∧ Below w.heap.size w w' ∧ w.heap.size < w'.heap.size ∧ ∀ i, i < kids.length → w'.cell? ⟨w.heap.size, i * 2, none⟩ = some (.iface (T i) (X i)) :=
        hcon.mono fun e w' ⟨he, n', os, hw⟩ => ⟨he, by subst hw; exact HFIN.out n' os⟩
      clear hcon HFIN
      have hmk2 := make_n Tryz.underlying145 info148 kids.length (by omega) (by omega)
      go_wp2_with (go_at_call 184; refine hcon2.mono ?_; rintro e w2 ⟨rfl, hb2, hs2, hc2⟩; have HC := Lib.hid hc2; have HB2 := Lib.hid hb2; clear hc2 hb2)
      have hmk3 := hmk2 w2
      clear hmk2 hcon2
      go_loopw [31] (fun i wr => ∃ j : Nat, j ≤ kids.length ∧ i = .int .i64 j ∧ SomePtrs wr w2.heap.size w.heap.size kids.length j ∧ w2.heap.size < wr.heap.size ∧ Below w2.heap.size w2 wr) (fun i _ => kids.length - (intOf i).toNat)
      case atStart => exact ⟨0, Nat.zero_le _, rfl, ⟨_, RowB.new w2 148 _, by simp [madeCells], fun i hi => absurd hi (Nat.not_lt_zero _)⟩, by simp, (Below.refl _ _).alloc (Nat.le_refl _) _⟩
      case round =>
        obtain ⟨j, hj, rfl, hp, hsz3, hb3⟩ := hrel
        obtain ⟨cs3, hrow3, hcs3, hget3⟩ := hp
        have HROW3 := Lib.hid hrow3
        have HGET3 := Lib.hid hget3
        have HB3 := Lib.hid hb3
        by_cases hlt : j < kids.length
        · have hj0 : (0 : Int) ≤ (j : Int) := Int.natCast_nonneg _
          have hj1 : (j : Int) < (kids.length : Int) := by omega
          have c0 := hrow3.cell j
          rw [Array.getElem?_eq_getElem (by omega)] at c0
          have f0 := hrow3.free j
          clear hrow3 hget3 hb3
          go_wp2_with fail
          refine ⟨⟨j + 1, by omega, by go_num, ⟨_, HROW3.out.set j _, by simp [hcs3], fun i hi => ?_⟩, by rw [setCell_size]; omega, below_setCell HB3.out (Nat.le_refl _) _⟩, by simp [intOf]; omega⟩
          by_cases he : i = j
          · subst he
            rw [Array.getElem?_setIfInBounds_self_of_lt (by omega)]
          · rw [Array.getElem?_setIfInBounds_ne (Ne.symm he)]
            exact HGET3.out i (by omega)
        · obtain rfl : j = kids.length := by omega
          clear hrow3 hget3 hb3
          go_wp2_with fail
          go_ret
          have hbw : Below w.heap.size w wr := HB2.out.trans (HB3.out.mono HB2.out.size)
          refine ⟨w2.heap.size, fun i => .pointer (some ⟨w.heap.size, i * 2, none⟩), rfl, HB2.out.size, hsz3, fun i f hf => ?_, hbw⟩
          have hi : i < kids.length := (List.getElem?_eq_some_iff.1 hf).1
          have hcell : wr.cell? ⟨w.heap.size, i * 2, none⟩ = some (.iface (T i) (X i)) := (bcell HB3.out hs2).trans (HC.out i hi)
          exact ⟨(HROW3.out.cell i).trans (HGET3.out i hi), .fld 1 w.heap.size (i * 2) (T i) (X i) _ _ _ _ (by have := HLO.out; omega) (by omega) hcell ((HR.out i f hf).keep hbw (Nat.le_refl _) hbw.size)⟩
    · intro i w1 hi hsn hit1 hoth hsz1 hb1 hen
      have hni : ¬ i ∈ L := by simpa using hsn
      have hroom : j + 1 ≤ kids.length := by rw [← hLj]; exact gath_len G hi hni
      have hrow1 : RowB (w1.alloc (.cells #[.iface (T i) (X i), .string (nmOf kids i)] 208)) w.heap.size 208 cs := (G.row.of_eq (hoth _ (by omega))).alloc _
      have hbw : Below w.heap.size w (w1.alloc (.cells #[.iface (T i) (X i), .string (nmOf kids i)] 208)) := (hbl.trans (hb1.mono (by omega))).alloc (by omega) _
      have HB1 := Lib.hid hbw
      have HN := Lib.hid hni
      have HIT := Lib.hid hit1
      have HROW := Lib.hid hrow1
      have HSZ1 := Lib.hid hsz1
      have hsz1' : w.heap.size + 2 ≤ w1.heap.size := by omega
      clear hsz1 hsz
      clear G HB hbl hmw hsn hb1 hoth hbw hni hit1 hrow1
      go_wp2_with (first
        | (at_builtin; refine wpList_append_room _ rfl _ _ 206 rfl 208 i208 Tryz.underlying206 J1.out 2 J3.out w.heap.size j kids.length (by rfl) ⟨w1.heap.size, 0, none⟩ 1 [.iface (T i) (X i), .string (nmOf kids i)] (by rfl) rfl (fun k u hu => by rw [Addr.add_lit, cnew rfl]; simpa using hu) (fun u hu => by simp at hu; rcases hu with rfl | rfl <;> rfl) hroom cs HROW.out HG.out.size ?_)
        | fail)
      subst hLj
      refine ⟨⟨L.length + 1, hroom, rfl, ⟨L ++ [i], _, _, gath_push HG.out hi HN.out ?_ (rowB_setCells _ _ _ _ HROW.out), by simp⟩, ?_, below_setCells (Nat.le_refl _) _ _ _ |> HB1.out.trans⟩, by simp only [slLen]; omega⟩
      · exact (setCells_other _ _ _ _ (by omega)).trans ((Below.heap_alloc w1 _ _ (by omega)).trans HIT.out)
      · rw [setCells_size]; simp; omega
theorem fieldsAns {w : World} {lo d : Nat} {T : TypeId} {x : Value} {o r : Bool} {k : Int} {kids : List Fd} {dp : Int} (h : IsNd w lo w.heap.size d T x o r k kids) (hd : d ≤ 300) (hne : kids ≠ []) (hok : OkL kids dp) (hl : kids.length ≤ 1000000000) :
    Ans w T x "Fields" (FieldsPost lo kids w) := by
  rcases h.inner with ⟨h0, _⟩ | ⟨_, m, _, _, h5, h6⟩
  · exact absurd h0 hne
  · exact ⟨178, _, h5.at337 hd, cf178 _, fields_any kids dp lo m w h6 hok hl⟩
end Go.Proofs.YtglgclkgppomiaaGreat

namespace Go.Proofs.YtglgclkgppomiaaGreat
open Go Go.RowKit
/-- How many columns a node of some fields has. -/
def nodeLeaves (kids : List Fd) : Nat := if kids = [] then 1 else leaves kids
theorem leavesOf_eq (f : Fd) : leavesOf f = nodeLeaves f.kids := by
  unfold nodeLeaves
  by_cases h : f.kids = []
  · rw [if_pos h, leavesOf_leaf h]
  · rw [if_neg h, leavesOf_group h]
/-- A node's fields are in order. -/
def OkN (kids : List Fd) (k d : Int) : Prop := (kids = [] → isKd k = true) ∧ (kids ≠ [] → OkL kids d)
theorem OkL.kid {fs : List Fd} {d : Int} (h : OkL fs d) {k : Nat} {f : Fd} (hk : fs[k]? = some f) : OkN f.kids f.kind (d + 1) :=
  ⟨(h.at_ hk).2.2.2.1, fun hne => ((h.at_ hk).2.2.2.2 hne).2⟩

theorem fds_take_get (l : List Fd) (j : Nat) (g : Fd) (h : l[j]? = some g) : fdsSize (l.take j) + fdSize g ≤ fdsSize l := by
  conv => rhs; rw [fs_split l j g h, fdsSize_append]
  simp only [fdsSize]; omega

set_option maxRecDepth 100000 in
set_option maxHeartbeats 1000000 in
theorem numLeaf_all (N : Nat) : N ≤ 1000000000 → ∀ (kids : List Fd) (k dp : Int) (d lo : Nat) (T : TypeId) (x : Value) (o r : Bool) (col : Int) (w : World), fdsSize kids ≤ N → IsNd w lo w.heap.size d T x o r k kids → d ≤ 10 → OkN kids k dp → 0 ≤ col → col + fdsSize kids ≤ 1000000000000 →
    Calls Tryz.prog 77 #[.iface T x, .int .i64 col] w fun e w' => e = .returned (.int .i64 (col + nodeLeaves kids)) ∧ Below w.heap.size w w' := by
  induction N with
  | zero =>
    intro _ kids k dp d lo T x o r col w hs hnd hd hok hc0 hc1
    have hl := fdsSize_length kids
    obtain rfl : kids = [] := List.eq_nil_of_length_eq_zero (by omega)
    obtain ⟨f, recv, hm, hcf, hcall⟩ := hnd.leafAns (by omega)
    have HC := Lib.hid hcall
    clear hcall
    go_enter Tryz.func77, Tryz.ntmps77
    go_wp2_with fail
    refine HC.out.mono ?_
    rintro e w1 ⟨rfl, rfl⟩
    go_wp2_with fail
    go_ret
    exact ⟨ret_int (by simp [nodeLeaves]), Below.refl _ _⟩
  | succ N ih =>
    intro hN kids k dp d lo T x o r col w hs hnd hd hok hc0 hc1
    have IH := Lib.hid (ih (by omega))
    clear ih
    obtain ⟨f, recv, hm, hcf, hcall⟩ := hnd.leafAns (by omega)
    have HC := Lib.hid hcall
    clear hcall
    by_cases hk : kids = []
    · have HE : Hid (kids.isEmpty = true) := by show _ = _; simp [hk]
      have HK := Lib.hid hk
      clear hk
      go_enter Tryz.func77, Tryz.ntmps77
      go_wp2_with fail
      refine HC.out.mono ?_
      rintro e w1 ⟨rfl, rfl⟩
      rw [HE.out]
      go_wp2_with fail
      go_ret
      exact ⟨ret_int (by rw [HK.out]; simp [nodeLeaves]), Below.refl _ _⟩
    · have HE : Hid (kids.isEmpty = false) := by show _ = _; cases kids with | nil => exact absurd rfl hk | cons _ _ => rfl
      have HNL : Hid (nodeLeaves kids = leaves kids) := by show _ = _; unfold nodeLeaves; rw [if_neg hk]
      have hokl := hok.2 hk
      have HOK := Lib.hid hokl
      have hlen := fdsSize_length kids
      obtain ⟨f2, recv2, hm2, hcf2, hcall2⟩ := fieldsAns hnd (by omega) hk hokl (by omega)
      have HC2 := Lib.hid hcall2
      clear hcall2 hk hok hokl
      go_enter Tryz.func77, Tryz.ntmps77
      go_wp2_with fail
      refine HC.out.mono ?_
      rintro e w1 ⟨rfl, rfl⟩
      rw [HE.out]
      go_wp2_with fail
      refine HC2.out.mono ?_
      rintro e w1 ⟨fb, X, rfl, hfb, hfb2, hX, hb⟩
      have HX := Lib.hid hX
      clear hX hm hcf hm2 hcf2
      go_wp2_with fail
      go_loopw [1, 14] (fun c i wr => ∃ j : Nat, j ≤ kids.length ∧ i = .int .i64 j ∧ c = .int .i64 (col + leaves (kids.take j)) ∧ Below w1.heap.size w1 wr) (fun _ i _ => kids.length - (intOf i).toNat)
      case atStart => exact ⟨0, Nat.zero_le _, rfl, by simp [leaves], Below.refl _ _⟩
      case round =>
        obtain ⟨j, hj, rfl, rfl, hb2⟩ := hrel
        have hle := leaves_take_le kids j
        by_cases hlt : j < kids.length
        · have hkj : kids[j]? = some (kids[j]'hlt) := List.getElem?_eq_getElem hlt
          obtain ⟨hc, hndj⟩ := HX.out j _ hkj
          have hkid := Lib.hid (HOK.out.kid hkj)
          have hsn := leaves_snoc kids j _ hkj
          rw [leavesOf_eq] at hsn
          have Hsn := Lib.hid hsn
          have hfs := fdsSize_get kids j _ hkj
          have hki := fdSize_kids (kids[j]'hlt)
          generalize hg : kids[j]'hlt = g at *
          have c0 := (bcell hb2 hfb2).trans hc
          have hnd2 := hndj.keep (lo' := lo) (B' := wr.heap.size) hb2 (Nat.le_refl _) hb2.size
          have hle3 := leaves_take_le kids (j + 1)
          have hle5 := leaves_le (kids.take j)
          have hle6 := fds_take_get kids j g hkj
          clear hkj hc hndj hsn hg
          go_wp2_with fail
          refine (IH.out g.kids g.kind _ 2 lo 212 (X j) _ _ (col + leaves (kids.take j)) wr (by omega) hnd2 (by omega) hkid.out (by omega) (by omega)).mono ?_
          rintro e w2 ⟨rfl, hb3⟩
          have hb4 := hb2.trans (hb3.mono hb2.size)
          have hnl : nodeLeaves g.kids ≤ fdsSize kids := by have := Hsn.out; omega
          clear hb3
          go_wp2_with fail
          go_roundw
          case rel => exact ⟨j + 1, by omega, by go_num, by rw [Hsn.out]; go_num, hb4⟩
          case measure => simp [intOf]; omega
        · obtain rfl : j = kids.length := by omega
          go_wp2_with fail
          go_ret
          exact ⟨ret_int (by rw [HNL.out, List.take_of_length_le (Nat.le_refl _)]), hb.trans (hb2.mono hb.size)⟩
end Go.Proofs.YtglgclkgppomiaaGreat

namespace Go.Proofs.YtglgclkgppomiaaGreat
open Go Go.RowKit

/-- A closure (the value v, in blocks from lo on and below B) that takes apart what a field has, of the columns from col on: may it be missing, may it stand often, its kind, its fields. -/
inductive IsDec (w : World) (lo B : Nat) : Value → Nat → Bool → Bool → Int → List Fd → Prop where
  | opt (a col : Nat) (f : FuncId) (cap : Array Value) (r : Bool) (k : Int) (kids : List Fd) (hlo : lo ≤ a) (hb : a < B) (hc : w.cell? ⟨a, 0, none⟩ = some (.func (.func f) #[] cap))
      (h : IsDec w lo B (.func (.func f) #[] cap) col false false k kids) : IsDec w lo B (.func (.func 136) #[] #[.pointer (some ⟨a, 0, none⟩)]) col true r k kids
  | rep (a col : Nat) (f : FuncId) (cap : Array Value) (k : Int) (kids : List Fd) (hlo : lo ≤ a) (hb : a < B) (hc : w.cell? ⟨a, 0, none⟩ = some (.func (.func f) #[] cap))
      (h : IsDec w lo B (.func (.func f) #[] cap) col false false k kids) : IsDec w lo B (.func (.func 139) #[] #[.pointer (some ⟨a, 0, none⟩)]) col false true k kids
  | leaf (a1 a2 a3 col : Nat) (k : Int) (h1 : lo ≤ a1 ∧ a1 < B) (h2 : lo ≤ a2 ∧ a2 < B) (h3 : lo ≤ a3 ∧ a3 < B) (hc1 : w.cell? ⟨a1, 0, none⟩ = some (.int .i8 k)) (hc2 : w.cell? ⟨a2, 0, none⟩ = some (.int .u16 (65535 - col)))
      (hc3 : w.cell? ⟨a3, 0, none⟩ = some (.int .u16 col)) : IsDec w lo B (.func (.func 153) #[] #[.pointer (some ⟨a1, 0, none⟩), .pointer (some ⟨a2, 0, none⟩), .pointer (some ⟨a3, 0, none⟩)]) col false false k []
  | grp (a fb col n : Nat) (kids : List Fd) (F : Nat → FuncId) (C : Nat → Array Value) (hne : kids ≠ []) (hlo : lo ≤ a ∧ a < B) (hfb : lo ≤ fb ∧ fb < B) (hn : kids.length = n) (hc : w.cell? ⟨a, 0, none⟩ = some (.slice (some ⟨fb, 0, none⟩) n n))
      (hk : ∀ i f, kids[i]? = some f → w.cell? ⟨fb, i, none⟩ = some (.func (.func (F i)) #[] (C i)))
      (hr : ∀ i f, kids[i]? = some f → IsDec w lo B (.func (.func (F i)) #[] (C i)) (col + leaves (kids.take i)) (f.way == 1) (f.way == 2) f.kind f.kids) : IsDec w lo B (.func (.func 155) #[] #[.pointer (some ⟨a, 0, none⟩)]) col false false 0 kids
theorem IsDec.frame {w w' : World} {lo B lo' B' : Nat} (hf : ∀ b, lo ≤ b → b < B → w'.heap[b]? = w.heap[b]?) (hlo' : lo' ≤ lo) (hB' : B ≤ B') {v : Value} {col : Nat} {o r : Bool} {k : Int} {kids : List Fd}
    (h : IsDec w lo B v col o r k kids) : IsDec w' lo' B' v col o r k kids := by
  have hcell : ∀ {b off : Nat} {v : Value}, lo ≤ b → b < B → w.cell? ⟨b, off, none⟩ = some v → w'.cell? ⟨b, off, none⟩ = some v := fun {b off v} h1 h2 h3 => by
    rw [World.cell?_of_block (a := ⟨b, off, none⟩) (hf b h1 h2)]; exact h3
  have up : ∀ {b : Nat}, lo ≤ b ∧ b < B → lo' ≤ b ∧ b < B' := fun h => ⟨Nat.le_trans hlo' h.1, Nat.lt_of_lt_of_le h.2 hB'⟩
  induction h with
  | opt a col f cap r k kids hlo hb hc h ih => exact .opt a col f cap r k kids (Nat.le_trans hlo' hlo) (Nat.lt_of_lt_of_le hb hB') (hcell hlo hb hc) ih
  | rep a col f cap k kids hlo hb hc h ih => exact .rep a col f cap k kids (Nat.le_trans hlo' hlo) (Nat.lt_of_lt_of_le hb hB') (hcell hlo hb hc) ih
  | leaf a1 a2 a3 col k h1 h2 h3 hc1 hc2 hc3 => exact .leaf a1 a2 a3 col k (up h1) (up h2) (up h3) (hcell h1.1 h1.2 hc1) (hcell h2.1 h2.2 hc2) (hcell h3.1 h3.2 hc3)
  | grp a fb col n kids F C hne hlo hfb hn hc hk hr ih => exact .grp a fb col n kids F C hne (up hlo) (up hfb) hn (hcell hlo.1 hlo.2 hc) (fun i f hf => hcell hfb.1 hfb.2 (hk i f hf)) ih
theorem IsDec.keep {w w' : World} {lo B lo' B' : Nat} (hb : Below B w w') (hlo' : lo' ≤ lo) (hB' : B ≤ B') {v : Value} {col : Nat} {o r : Bool} {k : Int} {kids : List Fd}
    (h : IsDec w lo B v col o r k kids) : IsDec w' lo' B' v col o r k kids := h.frame (fun b _ hlt => hb.block b hlt) hlo' hB'
/-- The call hands back the next column and such a closure. -/
def MakesDec (col : Nat) (o r : Bool) (k : Int) (kids : List Fd) (w : World) (e : Ending) (w' : World) : Prop :=
  ∃ (f : FuncId) (cap : Array Value), e = .returned (.tuple #[.int .u16 ((col + nodeLeaves kids : Nat) : Int), .func (.func f) #[] cap]) ∧ IsDec w' w.heap.size w'.heap.size (.func (.func f) #[] cap) col o r k kids ∧ Below w.heap.size w w'
end Go.Proofs.YtglgclkgppomiaaGreat

namespace Go.Proofs.YtglgclkgppomiaaGreat
open Go Go.RowKit

/-- A closure (the value v, in blocks from lo on and below B) that puts together what a field has: may it be missing, may it stand often, its kind, its fields. -/
inductive IsRec (w : World) (lo B : Nat) : Value → Bool → Bool → Int → List Fd → Prop where
  | opt (a : Nat) (f : FuncId) (cap : Array Value) (r : Bool) (k : Int) (kids : List Fd) (hlo : lo ≤ a) (hb : a < B) (hc : w.cell? ⟨a, 0, none⟩ = some (.func (.func f) #[] cap))
      (h : IsRec w lo B (.func (.func f) #[] cap) false false k kids) : IsRec w lo B (.func (.func 142) #[] #[.pointer (some ⟨a, 0, none⟩)]) true r k kids
  | rep (a : Nat) (f : FuncId) (cap : Array Value) (k : Int) (kids : List Fd) (hlo : lo ≤ a) (hb : a < B) (hc : w.cell? ⟨a, 0, none⟩ = some (.func (.func f) #[] cap))
      (h : IsRec w lo B (.func (.func f) #[] cap) false false k kids) : IsRec w lo B (.func (.func 143) #[] #[.pointer (some ⟨a, 0, none⟩)]) false true k kids
  | leaf (a : Nat) (k : Int) (h1 : lo ≤ a ∧ a < B) (hc1 : w.cell? ⟨a, 0, none⟩ = some (.iface 173 (.int .i8 k))) : IsRec w lo B (.func (.func 156) #[] #[.pointer (some ⟨a, 0, none⟩)]) false false k []
  | grp (a a2 fb ob n : Nat) (kids : List Fd) (F : Nat → FuncId) (C : Nat → Array Value) (hne : kids ≠ []) (hlo : lo ≤ a ∧ a < B) (hlo2 : lo ≤ a2 ∧ a2 < B) (hfb : lo ≤ fb ∧ fb < B) (hob : lo ≤ ob ∧ ob < B) (hn : kids.length = n) (hc : w.cell? ⟨a, 0, none⟩ = some (.slice (some ⟨fb, 0, none⟩) n n))
      (hc2 : w.cell? ⟨a2, 0, none⟩ = some (.slice (some ⟨ob, 0, none⟩) n n))
      (hk : ∀ i f, kids[i]? = some f → w.cell? ⟨fb, i, none⟩ = some (.func (.func (F i)) #[] (C i)))
      (hk2 : ∀ i f, kids[i]? = some f → w.cell? ⟨ob, i, none⟩ = some (.int .u16 ((leaves (kids.take (i + 1)) : Nat) : Int)))
      (hr : ∀ i f, kids[i]? = some f → IsRec w lo B (.func (.func (F i)) #[] (C i)) (f.way == 1) (f.way == 2) f.kind f.kids) : IsRec w lo B (.func (.func 159) #[] #[.pointer (some ⟨a, 0, none⟩), .pointer (some ⟨a2, 0, none⟩)]) false false 0 kids
theorem IsRec.frame {w w' : World} {lo B lo' B' : Nat} (hf : ∀ b, lo ≤ b → b < B → w'.heap[b]? = w.heap[b]?) (hlo' : lo' ≤ lo) (hB' : B ≤ B') {v : Value} {o r : Bool} {k : Int} {kids : List Fd}
    (h : IsRec w lo B v o r k kids) : IsRec w' lo' B' v o r k kids := by
  have hcell : ∀ {b off : Nat} {v : Value}, lo ≤ b → b < B → w.cell? ⟨b, off, none⟩ = some v → w'.cell? ⟨b, off, none⟩ = some v := fun {b off v} h1 h2 h3 => by
    rw [World.cell?_of_block (a := ⟨b, off, none⟩) (hf b h1 h2)]; exact h3
  have up : ∀ {b : Nat}, lo ≤ b ∧ b < B → lo' ≤ b ∧ b < B' := fun h => ⟨Nat.le_trans hlo' h.1, Nat.lt_of_lt_of_le h.2 hB'⟩
  induction h with
  | opt a f cap r k kids hlo hb hc h ih => exact .opt a f cap r k kids (Nat.le_trans hlo' hlo) (Nat.lt_of_lt_of_le hb hB') (hcell hlo hb hc) ih
  | rep a f cap k kids hlo hb hc h ih => exact .rep a f cap k kids (Nat.le_trans hlo' hlo) (Nat.lt_of_lt_of_le hb hB') (hcell hlo hb hc) ih
  | leaf a k h1 hc1 => exact .leaf a k (up h1) (hcell h1.1 h1.2 hc1)
  | grp a a2 fb ob n kids F C hne hlo hlo2 hfb hob hn hc hc2 hk hk2 hr ih =>
    exact .grp a a2 fb ob n kids F C hne (up hlo) (up hlo2) (up hfb) (up hob) hn (hcell hlo.1 hlo.2 hc) (hcell hlo2.1 hlo2.2 hc2) (fun i f hf => hcell hfb.1 hfb.2 (hk i f hf)) (fun i f hf => hcell hob.1 hob.2 (hk2 i f hf)) ih
theorem IsRec.keep {w w' : World} {lo B lo' B' : Nat} (hb : Below B w w') (hlo' : lo' ≤ lo) (hB' : B ≤ B') {v : Value} {o r : Bool} {k : Int} {kids : List Fd}
    (h : IsRec w lo B v o r k kids) : IsRec w' lo' B' v o r k kids := h.frame (fun b _ hlt => hb.block b hlt) hlo' hB'
/-- The call hands back the next column and such a closure. -/
def MakesRec (col : Nat) (o r : Bool) (k : Int) (kids : List Fd) (w : World) (e : Ending) (w' : World) : Prop :=
  ∃ (f : FuncId) (cap : Array Value), e = .returned (.tuple #[.int .u16 ((col + nodeLeaves kids : Nat) : Int), .func (.func f) #[] cap]) ∧ IsRec w' w.heap.size w'.heap.size (.func (.func f) #[] cap) o r k kids ∧ Below w.heap.size w w'
end Go.Proofs.YtglgclkgppomiaaGreat
