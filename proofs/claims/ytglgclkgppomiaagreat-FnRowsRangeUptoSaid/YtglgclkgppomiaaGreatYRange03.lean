/- The walk of the shredder's none: a cell without a value in each column of a field. The walk of the shredder's once: what a field has that is there. The walk of the shredder's field. The walk of the shredder's field at no items, and of its fields. The shredder's fields, by induction. The walks of spec.ColumnsOf, spec.Joined and spec.Shred. The walk of RangeRow's closure. -/
import Derived.Test.YtglgclkgppomiaaGreatYRange01
import Derived.Test.YtglgclkgppomiaaGreatYRange02
import Derived.Test.YtglgclkgppomiaaGreatZ02
import Derived.Test.YtglgclkgppomiaaGreatZ14
import Derived.Test.YtglgclkgppomiaaGreatZ15
import Derived.Test.YtglgclkgppomiaaGreatZ20
import Derived.Test.YtglgclkgppomiaaGreatZ21
import Derived.Deep.AppendLies
set_option linter.unusedVariables false
set_option linter.unusedSimpArgs false
namespace Go.Proofs.YtglgclkgppomiaaGreat
open Go Go.RowKit

set_option maxRecDepth 100000 in
set_option maxHeartbeats 4000000 in
theorem none135 (f : Fd) (A : Option Addr) (c B cb n sb col rep de : Nat) (log : List Cl) (K : Nat → Prop) (w : World) (hS : ShW w B cb n sb log K) (hf : fdSize f ≤ 1000) (hfs : FdsAt w B A f.kids.length c f.kids) (hcol : col + leavesOf f ≤ n) (hn : n ≤ 1000) (hlen : (log ++ nonesOf (leavesOf f) col rep de).length ≤ 1000000000) :
    Calls Tryz.prog 135 #[.pointer (some ⟨sb, 0, none⟩), fdVal f A c, .int .i64 col, .int .i64 rep, .int .i64 de] w (Shr B cb n (log ++ nonesOf (leavesOf f) col rep de) K w) := by
  have HS := Lib.hid hS
  have HFS := Lib.hid hfs
  have hbx : Below w.heap.size w (w.alloc (.cells #[.string f.name, .int .i64 f.way, .int .i64 f.kind, .slice A f.kids.length c] 41)) := (Below.refl _ _).alloc (Nat.le_refl _) _
  have HBX := Lib.hid hbx
  have HS1 := Lib.hid (hS.box hbx)
  have HR1 := Lib.hid (RowB.new w 41 #[.string f.name, .int .i64 f.way, .int .i64 f.kind, .slice A f.kids.length c])
  obtain ⟨i39, j1, j2, j3, j4⟩ := info_parts info39
  have J1 := Lib.hid j1
  have J2 := Lib.hid j2
  have J3 := Lib.hid j3
  have J4 := Lib.hid j4
  have hBw := hS.bw
  have hlb := leavesOf_le _ f (Nat.le_refl _)
  have HLEN := Lib.hid hlen
  clear hS hfs hbx j1 j2 j3 j4 hlen
  go_enter Tryz.func135, Tryz.ntmps135
  go_wp2_with fail
  go_loopw [10] (fun i wr => ∃ (k : Nat), k ≤ leavesOf f ∧ i = .int .i64 ((col + k : Nat) : Int) ∧ ShW wr B cb n sb (log ++ nonesOf k col rep de) (fun g => K g ∨ (w.heap.size ≤ g ∧ g < w.heap.size + 1)) ∧ Below B w wr ∧ (∀ g, K g → wr.heap[g]? = w.heap[g]?) ∧ RowB wr w.heap.size 41 #[.string f.name, .int .i64 f.way, .int .i64 f.kind, .slice A f.kids.length c]) (fun i _ => col + leavesOf f - (intOf i).toNat)
  case atStart => exact ⟨0, Nat.zero_le _, rfl, by have := HS1.out; rw [size_alloc1] at this; simpa [nonesOf] using this, HBX.out.mono hBw, fun g hg => HBX.out.block g (HS.out.kk g hg), HR1.out⟩
  case round =>
    obtain ⟨k, hk, rfl, hs5, hb5, hk5, hr5⟩ := hrel
    have HS5 := Lib.hid hs5
    have HB5 := Lib.hid hb5
    have HK5 := Lib.hid hk5
    have HR5 := Lib.hid hr5
    obtain ⟨k0, k1, k2, k3⟩ := hr5.c4
    have hfs5 : FdsAt wr wr.heap.size A f.kids.length c f.kids := HFS.out.mono hb5 (Nat.le_trans hBw hb5.size)
    have hlv := leavesOf_step 1000000000 (by omega) (leaves_all 1000000000 (Nat.le_refl _)) f A c wr (by omega) hfs5
    have HLV := Lib.hid hlv
    have hc0 : (0 : Int) ≤ (col : Int) := Int.natCast_nonneg _
    have hl0 : (0 : Int) ≤ (leavesOf f : Int) := Int.natCast_nonneg _
    have hcl : (col : Int) + (leavesOf f : Int) ≤ 1000 := by omega
    clear hs5 hb5 hk5 hr5 hfs5 hlv
    by_cases hlt : k < leavesOf f
    · have hkl : ((col + k : Nat) : Int) < (col : Int) + (leavesOf f : Int) := by omega
      go_wp2_with fail
      refine HLV.out.mono ?_
      rintro e w5 ⟨rfl, hb6⟩
      have HS6 := Lib.hid (HS5.out.next (HS5.out.cols.keep hb6) (hb6.mono HS5.out.bw) (fun g hg => hb6.block g (HS5.out.kk g hg)))
      have HB6 := Lib.hid hb6
      clear hb6
      go_wp2_with fail
      obtain ⟨vs, hc, hcK, hvK⟩ := HS6.out.cols
      have hj : col + k < n := by omega
      have hown0 := hc.own (col + k) hj
      obtain ⟨Av, cv, hv⟩ := own_slice hown0
      have m0 := HS6.out.ptr
      obtain ⟨m1, m2⟩ := hc.slot hj
      rw [hv] at m1 hown0
      have hi0 : (0 : Int) ≤ (col : Int) + (k : Int) := by omega
      have hi1 : (col : Int) + (k : Int) < (n : Int) := by omega
      have hi2 : ((col : Int) + (k : Int)).toNat = col + k := by omega
      have hml : (colOf (log ++ nonesOf k col rep de) (col + k)).length ≤ 1000000000 := by
        refine Nat.le_trans (List.length_filter_le _ _) (Nat.le_trans ?_ HLEN.out)
        rw [List.length_append, List.length_append]
        simp only [nonesOf, List.length_map, List.length_range]
        omega
      have HC := Lib.hid hc
      have HCK := Lib.hid hcK
      have HVK := Lib.hid hvK
      have HV := Lib.hid hv
      have HO0 := Lib.hid hown0
      have hcbl := hc.lt
      have hcbB := hc.cbB
      have hsbl := HS6.out.kk sb HS6.out.ksb
      clear hc hcK hvK hv hown0
      generalize hm : (colOf (log ++ nonesOf k col rep de) (col + k)).length = m at *
      have HM := Lib.hid hm
      clear hm
      refine Upto.region (m := 19) (S := (fun w' => w'.cell? ⟨sb, 0, none⟩ = some (.slice (some ⟨cb, 0, none⟩) n n) ∧ w'.cell? ⟨cb, col + k, none⟩ = some (.slice Av m cv))) (by kernel_rfl) ?_ (fun hHeld => ?_)
      · exact ⟨m0, m1⟩
      refine Upto.take (i := 0) (v := ?_) at0 (by kernel_rfl) (by kernel_rfl) (by kernel_rfl) (by kernel_rfl) (fun _ _ _ h => h) (by rfl) ?_ hHeld ?_
      rotate_left
      · intro w hSw
        try dsimp only at hSw
        go_simp
        try with_reducible rfl
      try simp only [Act.put, List.setIfInBounds_toArray, List.set_cons_zero, List.set_cons_succ]
      refine Upto.take (i := 1) (v := ?_) at1 (by kernel_rfl) (by kernel_rfl) (by kernel_rfl) (by kernel_rfl) (fun _ _ _ h => h) (by rfl) ?_ hHeld ?_
      rotate_left
      · intro w hSw
        try dsimp only at hSw
        go_simp
        try with_reducible rfl
      try simp only [Act.put, List.setIfInBounds_toArray, List.set_cons_zero, List.set_cons_succ]
      refine Upto.take (i := 2) (v := ?_) at2 (by kernel_rfl) (by kernel_rfl) (by kernel_rfl) (by kernel_rfl) (fun _ _ _ h => h) (by rfl) ?_ hHeld ?_
      rotate_left
      · intro w hSw
        try dsimp only at hSw
        go_simp
        try with_reducible rfl
      try simp only [Act.put, List.setIfInBounds_toArray, List.set_cons_zero, List.set_cons_succ]
      refine Upto.take (i := 3) (v := ?_) at3 (by kernel_rfl) (by kernel_rfl) (by kernel_rfl) (by kernel_rfl) (fun _ _ _ h => h) (by rfl) ?_ hHeld ?_
      rotate_left
      · intro w hSw
        try dsimp only at hSw
        go_simp
        try with_reducible rfl
      try simp only [Act.put, List.setIfInBounds_toArray, List.set_cons_zero, List.set_cons_succ]
      refine Upto.take (i := 4) (v := ?_) at4 (by kernel_rfl) (by kernel_rfl) (by kernel_rfl) (by kernel_rfl) (fun _ _ _ h => h) (by rfl) ?_ hHeld ?_
      rotate_left
      · intro w hSw
        try dsimp only at hSw
        go_simp
        try with_reducible rfl
      try simp only [Act.put, List.setIfInBounds_toArray, List.set_cons_zero, List.set_cons_succ]
      refine Upto.take (i := 5) (v := ?_) at5 (by kernel_rfl) (by kernel_rfl) (by kernel_rfl) (by kernel_rfl) (fun _ _ _ h => h) (by rfl) ?_ hHeld ?_
      rotate_left
      · intro w hSw
        try dsimp only at hSw
        go_simp
        try with_reducible rfl
      try simp only [Act.put, List.setIfInBounds_toArray, List.set_cons_zero, List.set_cons_succ]
      refine Upto.take (i := 6) (v := ?_) at6 (by kernel_rfl) (by kernel_rfl) (by kernel_rfl) (by kernel_rfl) (fun _ _ _ h => h) (by rfl) ?_ hHeld ?_
      rotate_left
      · intro w hSw
        try dsimp only at hSw
        go_simp
        try with_reducible rfl
      try simp only [Act.put, List.setIfInBounds_toArray, List.set_cons_zero, List.set_cons_succ]
      refine Upto.take (i := 7) (v := ?_) at7 (by kernel_rfl) (by kernel_rfl) (by kernel_rfl) (by kernel_rfl) (fun _ _ _ h => h) (by rfl) ?_ hHeld ?_
      rotate_left
      · intro w hSw
        try dsimp only at hSw
        go_simp
        try with_reducible rfl
      try simp only [Act.put, List.setIfInBounds_toArray, List.set_cons_zero, List.set_cons_succ]
      refine Upto.take (i := 8) (v := ?_) at8 (by kernel_rfl) (by kernel_rfl) (by kernel_rfl) (by kernel_rfl) (fun _ _ _ h => h) (by rfl) ?_ hHeld ?_
      rotate_left
      · intro w hSw
        try dsimp only at hSw
        go_simp
        try with_reducible rfl
      try simp only [Act.put, List.setIfInBounds_toArray, List.set_cons_zero, List.set_cons_succ]
      refine Upto.take (i := 9) (v := ?_) at9 (by kernel_rfl) (by kernel_rfl) (by kernel_rfl) (by kernel_rfl) (fun _ _ _ h => h) (by rfl) ?_ hHeld ?_
      rotate_left
      · intro w hSw
        try dsimp only at hSw
        go_simp
        try with_reducible rfl
      try simp only [Act.put, List.setIfInBounds_toArray, List.set_cons_zero, List.set_cons_succ]
      refine Upto.take (i := 10) (v := ?_) at10 (by kernel_rfl) (by kernel_rfl) (by kernel_rfl) (by kernel_rfl) (fun _ _ _ h => h) (by rfl) ?_ hHeld ?_
      rotate_left
      · intro w hSw
        try dsimp only at hSw
        go_simp
        try with_reducible rfl
      try simp only [Act.put, List.setIfInBounds_toArray, List.set_cons_zero, List.set_cons_succ]
      refine Upto.take (i := 11) (v := ?_) at11 (by kernel_rfl) (by kernel_rfl) (by kernel_rfl) (by kernel_rfl) (fun _ _ _ h => h) (by rfl) ?_ hHeld ?_
      rotate_left
      · intro w hSw
        try dsimp only at hSw
        go_simp
        try with_reducible rfl
      try simp only [Act.put, List.setIfInBounds_toArray, List.set_cons_zero, List.set_cons_succ]
      refine Upto.take (i := 12) (v := ?_) at12 (by kernel_rfl) (by kernel_rfl) (by kernel_rfl) (by kernel_rfl) (fun _ _ _ h => h) (by rfl) ?_ hHeld ?_
      rotate_left
      · intro w hSw
        try dsimp only at hSw
        go_simp
        try with_reducible rfl
      try simp only [Act.put, List.setIfInBounds_toArray, List.set_cons_zero, List.set_cons_succ]
      refine Upto.take (i := 13) (v := ?_) at13 (by kernel_rfl) (by kernel_rfl) (by kernel_rfl) (by kernel_rfl) (fun _ _ _ h => h) (by rfl) ?_ hHeld ?_
      rotate_left
      · intro w hSw
        try dsimp only at hSw
        go_simp
        try with_reducible rfl
      try simp only [Act.put, List.setIfInBounds_toArray, List.set_cons_zero, List.set_cons_succ]
      refine Upto.take (i := 14) (v := ?_) at14 (by kernel_rfl) (by kernel_rfl) (by kernel_rfl) (by kernel_rfl) (fun _ _ _ h => h) (by rfl) ?_ hHeld ?_
      rotate_left
      · intro w hSw
        try dsimp only at hSw
        go_simp
        try with_reducible rfl
      try simp only [Act.put, List.setIfInBounds_toArray, List.set_cons_zero, List.set_cons_succ]
      refine Upto.take (i := 15) (v := ?_) at15 (by kernel_rfl) (by kernel_rfl) (by kernel_rfl) (by kernel_rfl) (fun _ _ _ h => h) (by rfl) ?_ hHeld ?_
      rotate_left
      · intro w hSw
        try dsimp only at hSw
        go_simp
        try with_reducible rfl
      try simp only [Act.put, List.setIfInBounds_toArray, List.set_cons_zero, List.set_cons_succ]
      refine Upto.step (i := 16) (by kernel_rfl) at16 (fun K' hK => ?_)
      go_simp
      have m3 : (w5.drew.alloc (.cells #[.int .i64 ((col : Int) + (k : Int)), .int .i64 (rep : Int), .int .i64 (de : Int), .bool true, .int .i64 0, .int .i64 0, .string .empty] 39)).cell? ⟨sb, 0, none⟩ = some (.slice (some ⟨cb, 0, none⟩) n n) := (cold (w := w5.drew) (by show _ < w5.heap.size; omega)).trans m0
      have m4 : (w5.drew.alloc (.cells #[.int .i64 ((col : Int) + (k : Int)), .int .i64 (rep : Int), .int .i64 (de : Int), .bool true, .int .i64 0, .int .i64 0, .string .empty] 39)).cell? ⟨cb, col + k, none⟩ = some (.slice Av m cv) := (cold (w := w5.drew) (by show _ < w5.heap.size; omega)).trans m1
      refine hK.out _ _ (.inr ⟨m3, m4⟩) (fun _ => ?_)
      clear hK K'
      replace hHeld := And.intro m3 m4
      try simp only [Act.put, List.setIfInBounds_toArray, List.set_cons_zero, List.set_cons_succ]
      refine Upto.step (i := 17) (by kernel_rfl) at17 (fun K' hK => ?_)
      have HBA : Hid (Below w5.heap.size w5 (w5.drew.alloc (.cells #[.int .i64 ((col : Int) + (k : Int)), .int .i64 (rep : Int), .int .i64 (de : Int), .bool true, .int .i64 0, .int .i64 0, .string .empty] 39))) := Lib.hid ((Below.refl _ w5).drew.alloc (Nat.le_refl _) _)
      have HO1 := Lib.hid (own_below HO0.out HBA.out)
      have hs2 : cb + 1 ≤ (w5.drew.alloc (.cells #[.int .i64 ((col : Int) + (k : Int)), .int .i64 (rep : Int), .int .i64 (de : Int), .bool true, .int .i64 0, .int .i64 0, .string .empty] 39)).heap.size := by rw [size_alloc1]; show _ ≤ w5.heap.size + 1; omega
      refine step_append_lies _ (by rfl) _ _ 26 (by rfl) (cb + 1) 39 i39 _ 7 64 Tryz.underlying26 J1.out J2.out J3.out J4.out rfl (by decide) (.slice Av m cv) m (clFlat (colOf (log ++ nonesOf k col rep de) (col + k))) (by rfl) HO1.out ⟨w5.heap.size, 0, none⟩ 1 1 [.int .i64 ((col : Int) + (k : Int)), .int .i64 (rep : Int), .int .i64 (de : Int), .bool true, .int .i64 0, .int .i64 0, .string .empty] (by rfl) rfl (World.news_of_block (heap_alloc_new w5.drew _)) (by simp [Value.oneCell']) (by decide) (by simp only [maxLen]; omega) (by omega) hs2 _ rfl ?_
      intro g cap w7 hown7 hgrow hat7 hlt7
      have hcbo : ∀ b, (Value.slice Av m cv).ownBlock = some b → b ≠ cb := fun b he => by have := HO0.out.lt b he; omega
      have hcb7 : w7.heap[cb]? = w5.heap[cb]? := (hgrow.block cb (Nat.lt_of_lt_of_le hcbl HBA.out.size) (fun he => hcbo cb he.symm rfl)).trans (HBA.out.block cb hcbl)
      have hsbo : ∀ b, (Value.slice Av m cv).ownBlock = some b → b ≠ sb := fun b he hb => HVK.out (col + k) hj b (by rw [HV.out]; exact he) (by rw [hb]; exact HS6.out.ksb)
      have hsb7 : w7.heap[sb]? = w5.heap[sb]? := (hgrow.block sb (Nat.lt_of_lt_of_le hsbl HBA.out.size) (fun he => hsbo sb he.symm rfl)).trans (HBA.out.block sb hsbl)
      have m5 : w7.cell? ⟨sb, 0, none⟩ = some (.slice (some ⟨cb, 0, none⟩) n n) := (World.cell?_of_block (a := ⟨sb, 0, none⟩) hsb7).trans m0
      have m6 : w7.cell? ⟨cb, col + k, none⟩ = some (.slice Av m cv) := (World.cell?_of_block (a := ⟨cb, col + k, none⟩) hcb7).trans m1
      have m7 : w7.frozen? ⟨cb, col + k, none⟩ = false := (World.frozen?_of_block (a := ⟨cb, col + k, none⟩) hcb7).trans m2
      refine hK.out _ _ (.inr ⟨m5, m6⟩) (fun _ => ?_)
      clear hK K'
      replace hHeld := And.intro m5 m6
      try simp only [Act.put, List.setIfInBounds_toArray, List.set_cons_zero, List.set_cons_succ]
      refine Upto.take (i := 18) (v := ?_) at18 (by kernel_rfl) (by kernel_rfl) (by kernel_rfl) (by kernel_rfl) (fun _ _ _ h => h) (by rfl) ?_ hHeld ?_
      rotate_left
      · intro w hSw
        try dsimp only at hSw
        go_simp
        try with_reducible rfl
      try simp only [Act.put, List.setIfInBounds_toArray, List.set_cons_zero, List.set_cons_succ]
      refine Upto.step (i := 19) (by kernel_rfl) at19 (fun K' hK => ?_)
      go_simp
      refine hK.out _ _ (.inl rfl) (fun _ => ?_)
      clear hK K'
      try simp only [Act.put, List.setIfInBounds_toArray, List.set_cons_zero, List.set_cons_succ]
      refine Upto.done (by kernel_rfl) ?_ _
      have hxc : (colOf (log ++ nonesOf k col rep de) (col + k)).length = m := HM.out
      have hat8 : (vs (col + k)).ownBlock = some g ∨ g = (w5.drew.alloc (.cells #[.int .i64 ((col : Int) + (k : Int)), .int .i64 (rep : Int), .int .i64 (de : Int), .bool true, .int .i64 0, .int .i64 0, .string .empty] 39)).heap.size := by rw [HV.out]; exact hat7
      rw [← HV.out] at hgrow
      subst hxc
      obtain ⟨p1, p2, p3⟩ := HS6.out.push HC.out HCK.out HVK.out HBA.out hj (x := ⟨(col : Int) + (k : Int), rep, de, true, 0, 0, .empty⟩) (by show (col : Int) + (k : Int) = ((col + k : Nat) : Int); omega) hown7 hgrow hat8
      have hS9 := HS6.out.next p1 p2 p3
      have hnx : log ++ nonesOf k col rep de ++ [⟨(col : Int) + (k : Int), rep, de, true, 0, 0, .empty⟩] = log ++ nonesOf (k + 1) col rep de := by
        rw [nonesOf_succ, List.append_assoc]
        simp
      rw [hnx] at hS9
      have HS9 := Lib.hid hS9
      have HP2 := Lib.hid p2
      have HP3 := Lib.hid p3
      clear hS9 hnx p1 p2 p3 hown7 hgrow hat7 hat8 hcbo hcb7 hsbo hsb7
      go_wp2_with fail
      refine ⟨⟨k + 1, by omega, by go_num, HS9.out, (HB5.out.trans (HB6.out.mono HS5.out.bw)).trans HP2.out, fun b hb => (HP3.out b (.inl hb)).trans ((HB6.out.block b (HS5.out.kk b (.inl hb))).trans (HK5.out b hb)), HR5.out.of_eq ((HP3.out _ (.inr ⟨Nat.le_refl _, Nat.lt_succ_self _⟩)).trans (HB6.out.block _ HR5.out.lt))⟩, ?_⟩
      simp [intOf]; omega
    · obtain rfl : k = leavesOf f := by omega
      have hkl : ¬ ((col + leavesOf f : Nat) : Int) < (col : Int) + (leavesOf f : Int) := by omega
      go_wp2_with fail
      refine HLV.out.mono ?_
      rintro e w5 ⟨rfl, hb6⟩
      have HS6 := Lib.hid (HS5.out.next (HS5.out.cols.keep hb6) (hb6.mono HS5.out.bw) (fun g hg => hb6.block g (HS5.out.kk g hg)))
      have HB6 := Lib.hid hb6
      clear hb6
      go_wp2_with fail
      go_end0
      exact ⟨rfl, HS6.out.cols.less fun g hg => .inl hg, HB5.out.trans (HB6.out.mono HS5.out.bw), fun b hb => (HB6.out.block b (HS5.out.kk b (.inl hb))).trans (HK5.out b hb)⟩
end Go.Proofs.YtglgclkgppomiaaGreat

namespace Go.Proofs.YtglgclkgppomiaaGreat
open Go Go.RowKit

theorem below_two (w : World) (o1 o2 : Obj) : Below w.heap.size w ((w.alloc o1).alloc o2) := ((Below.refl _ _).alloc (Nat.le_refl _) _).alloc (by rw [size_alloc1]; omega) _
set_option maxRecDepth 100000 in
set_option maxHeartbeats 4000000 in
theorem once134_group (name : ByteArray) (way kind : Int) (A : Option Addr) (nk c : Nat) (d : Dt) (A2 : Option Addr) (n2 c2 B cb n sb col dep rep de : Nat) (log log' : List Cl) (K : Nat → Prop) (w : World) (hS : ShW w B cb n sb log K) (hnk : 0 < nk)
    (hin : ∀ (W : World) (K' : Nat → Prop), Below w.heap.size w W → ShW W B cb n sb log K' → Calls Tryz.prog 60 #[.pointer (some ⟨sb, 0, none⟩), .slice A nk c, .slice A2 n2 c2, .int .i64 col, .int .i64 dep, .int .i64 rep, .int .i64 de] W (Shr B cb n log' K' W)) :
    Calls Tryz.prog 134 #[.pointer (some ⟨sb, 0, none⟩), .agg #[.string name, .int .i64 way, .int .i64 kind, .slice A nk c], .agg #[.bool d.none, .int .i64 d.num, .string d.text, .slice A2 n2 c2], .int .i64 col, .int .i64 dep, .int .i64 rep, .int .i64 de] w (Shr B cb n log' K w) := by
  have hbx := below_two w (.cells #[.string name, .int .i64 way, .int .i64 kind, .slice A nk c] 41) (.cells #[.bool d.none, .int .i64 d.num, .string d.text, .slice A2 n2 c2] 43)
  have HIN := Lib.hid (hin _ _ hbx (hS.box hbx))
  have HEND := Lib.hid (fun e w' => Shr.behind (cb := cb) (n := n) (e := e) (w' := w') (log := log') hS.kk hS.bw hbx)
  have h0 : (0 : Int) < (nk : Int) := by omega
  clear hS hbx hin
  go_enter Tryz.func134, Tryz.ntmps134
  go_wp2_with fail
  refine HIN.out.mono ?_
  rintro e w2 hsh
  have HE := Lib.hid (HEND.out _ _ hsh)
  obtain ⟨rfl, _⟩ := hsh
  go_wp2_with fail
  go_end0
  exact HE.out

set_option maxRecDepth 100000 in
set_option maxHeartbeats 4000000 in
theorem once134_leaf (name : ByteArray) (way kind : Int) (A : Option Addr) (c : Nat) (d : Dt) (A2 : Option Addr) (n2 c2 B cb n sb col dep rep de : Nat) (log : List Cl) (K : Nat → Prop) (w : World) (hS : ShW w B cb n sb log K) (hcol : col < n) (hn : n ≤ 1000) (hlen : log.length ≤ 1000000000) :
    Calls Tryz.prog 134 #[.pointer (some ⟨sb, 0, none⟩), .agg #[.string name, .int .i64 way, .int .i64 kind, .slice A 0 c], .agg #[.bool d.none, .int .i64 d.num, .string d.text, .slice A2 n2 c2], .int .i64 col, .int .i64 dep, .int .i64 rep, .int .i64 de] w (Shr B cb n (log ++ [⟨col, rep, de, false, kind, d.num, d.text⟩]) K w) := by
  have hbx := below_two w (.cells #[.string name, .int .i64 way, .int .i64 kind, .slice A 0 c] 41) (.cells #[.bool d.none, .int .i64 d.num, .string d.text, .slice A2 n2 c2] 43)
  obtain ⟨w1, hw1⟩ : ∃ w1, w1 = (w.alloc (.cells #[.string name, .int .i64 way, .int .i64 kind, .slice A 0 c] 41)).alloc (.cells #[.bool d.none, .int .i64 d.num, .string d.text, .slice A2 n2 c2] 43) := ⟨_, rfl⟩
  have hr1 : RowB w1 w.heap.size 41 #[.string name, .int .i64 way, .int .i64 kind, .slice A 0 c] := by rw [hw1]; exact (RowB.new w 41 _).alloc _
  have hr2 : RowB w1 (w.heap.size + 1) 43 #[.bool d.none, .int .i64 d.num, .string d.text, .slice A2 n2 c2] := by rw [hw1]; exact rowB_new (by rw [size_alloc1])
  rw [← hw1] at hbx
  have HS1 := Lib.hid (hS.box hbx)
  have HEND := Lib.hid (fun e w' => Shr.behind (cb := cb) (n := n) (e := e) (w' := w') (log := log ++ [⟨col, rep, de, false, kind, d.num, d.text⟩]) hS.kk hS.bw hbx)
  obtain ⟨i39, j1, j2, j3, j4⟩ := info_parts info39
  have J1 := Lib.hid j1
  have J2 := Lib.hid j2
  have J3 := Lib.hid j3
  have J4 := Lib.hid j4
  have HW1 := Lib.hid hw1
  have b2 : w1.cell? ⟨w.heap.size, 2, none⟩ = some (.int .i64 kind) := hr1.cell 2
  have d1 : w1.cell? ⟨w.heap.size + 1, 1, none⟩ = some (.int .i64 d.num) := hr2.cell 1
  have d2 : w1.cell? ⟨w.heap.size + 1, 2, none⟩ = some (.string d.text) := hr2.cell 2
  have hl1 := hr1.lt
  have hl2 := hr2.lt
  obtain ⟨vs, hc, hcK, hvK⟩ := HS1.out.cols
  have hown0 := hc.own col hcol
  obtain ⟨Av, cv, hv⟩ := own_slice hown0
  have m0 := HS1.out.ptr
  obtain ⟨m1, m2⟩ := hc.slot hcol
  rw [hv] at m1 hown0
  have hi0 : (0 : Int) ≤ (col : Int) := by omega
  have hi1 : (col : Int) < (n : Int) := by omega
  have hml : (colOf log col).length ≤ 1000000000 := Nat.le_trans (List.length_filter_le _ _) hlen
  have HC := Lib.hid hc
  have HCK := Lib.hid hcK
  have HVK := Lib.hid hvK
  have HV := Lib.hid hv
  have HO0 := Lib.hid hown0
  have hcbl := hc.lt
  have hsbl := HS1.out.kk sb HS1.out.ksb
  have hk1 := fun g hg => HS1.out.kk g hg
  clear hc hcK hvK hv hown0 hS hbx j1 j2 j3 j4 hr1 hr2
  generalize hm : (colOf log col).length = m at *
  have HM := Lib.hid hm
  clear hm
  clear hw1
  go_enter Tryz.func134, Tryz.ntmps134
  go_wp2_with fail
  rw [← HW1.out]
  refine Upto.region (m := 25) (S := (fun w' => w'.cell? ⟨sb, 0, none⟩ = some (.slice (some ⟨cb, 0, none⟩) n n) ∧ w'.cell? ⟨cb, col, none⟩ = some (.slice Av m cv) ∧ w'.cell? ⟨w.heap.size, 2, none⟩ = some (.int .i64 kind) ∧ w'.cell? ⟨w.heap.size + 1, 1, none⟩ = some (.int .i64 d.num) ∧ w'.cell? ⟨w.heap.size + 1, 2, none⟩ = some (.string d.text))) (by kernel_rfl) ?_ (fun hHeld => ?_)
  · exact ⟨m0, m1, b2, d1, d2⟩
  refine Upto.take (i := 0) (v := ?_) at0 (by kernel_rfl) (by kernel_rfl) (by kernel_rfl) (by kernel_rfl) (fun _ _ _ h => h) (by rfl) ?_ hHeld ?_
  rotate_left
  · intro w hSw
    try dsimp only at hSw
    go_simp
    try with_reducible rfl
  try simp only [Act.put, List.setIfInBounds_toArray, List.set_cons_zero, List.set_cons_succ]
  refine Upto.take (i := 1) (v := ?_) at1 (by kernel_rfl) (by kernel_rfl) (by kernel_rfl) (by kernel_rfl) (fun _ _ _ h => h) (by rfl) ?_ hHeld ?_
  rotate_left
  · intro w hSw
    try dsimp only at hSw
    go_simp
    try with_reducible rfl
  try simp only [Act.put, List.setIfInBounds_toArray, List.set_cons_zero, List.set_cons_succ]
  refine Upto.take (i := 2) (v := ?_) at2 (by kernel_rfl) (by kernel_rfl) (by kernel_rfl) (by kernel_rfl) (fun _ _ _ h => h) (by rfl) ?_ hHeld ?_
  rotate_left
  · intro w hSw
    try dsimp only at hSw
    go_simp
    try with_reducible rfl
  try simp only [Act.put, List.setIfInBounds_toArray, List.set_cons_zero, List.set_cons_succ]
  refine Upto.take (i := 3) (v := ?_) at3 (by kernel_rfl) (by kernel_rfl) (by kernel_rfl) (by kernel_rfl) (fun _ _ _ h => h) (by rfl) ?_ hHeld ?_
  rotate_left
  · intro w hSw
    try dsimp only at hSw
    go_simp
    try with_reducible rfl
  try simp only [Act.put, List.setIfInBounds_toArray, List.set_cons_zero, List.set_cons_succ]
  refine Upto.take (i := 4) (v := ?_) at4 (by kernel_rfl) (by kernel_rfl) (by kernel_rfl) (by kernel_rfl) (fun _ _ _ h => h) (by rfl) ?_ hHeld ?_
  rotate_left
  · intro w hSw
    try dsimp only at hSw
    go_simp
    try with_reducible rfl
  try simp only [Act.put, List.setIfInBounds_toArray, List.set_cons_zero, List.set_cons_succ]
  refine Upto.take (i := 5) (v := ?_) at5 (by kernel_rfl) (by kernel_rfl) (by kernel_rfl) (by kernel_rfl) (fun _ _ _ h => h) (by rfl) ?_ hHeld ?_
  rotate_left
  · intro w hSw
    try dsimp only at hSw
    go_simp
    try with_reducible rfl
  try simp only [Act.put, List.setIfInBounds_toArray, List.set_cons_zero, List.set_cons_succ]
  refine Upto.take (i := 6) (v := ?_) at6 (by kernel_rfl) (by kernel_rfl) (by kernel_rfl) (by kernel_rfl) (fun _ _ _ h => h) (by rfl) ?_ hHeld ?_
  rotate_left
  · intro w hSw
    try dsimp only at hSw
    go_simp
    try with_reducible rfl
  try simp only [Act.put, List.setIfInBounds_toArray, List.set_cons_zero, List.set_cons_succ]
  refine Upto.take (i := 7) (v := ?_) at7 (by kernel_rfl) (by kernel_rfl) (by kernel_rfl) (by kernel_rfl) (fun _ _ _ h => h) (by rfl) ?_ hHeld ?_
  rotate_left
  · intro w hSw
    try dsimp only at hSw
    go_simp
    try with_reducible rfl
  try simp only [Act.put, List.setIfInBounds_toArray, List.set_cons_zero, List.set_cons_succ]
  refine Upto.take (i := 8) (v := ?_) at8 (by kernel_rfl) (by kernel_rfl) (by kernel_rfl) (by kernel_rfl) (fun _ _ _ h => h) (by rfl) ?_ hHeld ?_
  rotate_left
  · intro w hSw
    try dsimp only at hSw
    go_simp
    try with_reducible rfl
  try simp only [Act.put, List.setIfInBounds_toArray, List.set_cons_zero, List.set_cons_succ]
  refine Upto.take (i := 9) (v := ?_) at9 (by kernel_rfl) (by kernel_rfl) (by kernel_rfl) (by kernel_rfl) (fun _ _ _ h => h) (by rfl) ?_ hHeld ?_
  rotate_left
  · intro w hSw
    try dsimp only at hSw
    go_simp
    try with_reducible rfl
  try simp only [Act.put, List.setIfInBounds_toArray, List.set_cons_zero, List.set_cons_succ]
  refine Upto.take (i := 10) (v := ?_) at10 (by kernel_rfl) (by kernel_rfl) (by kernel_rfl) (by kernel_rfl) (fun _ _ _ h => h) (by rfl) ?_ hHeld ?_
  rotate_left
  · intro w hSw
    try dsimp only at hSw
    go_simp
    try with_reducible rfl
  try simp only [Act.put, List.setIfInBounds_toArray, List.set_cons_zero, List.set_cons_succ]
  refine Upto.take (i := 11) (v := ?_) at11 (by kernel_rfl) (by kernel_rfl) (by kernel_rfl) (by kernel_rfl) (fun _ _ _ h => h) (by rfl) ?_ hHeld ?_
  rotate_left
  · intro w hSw
    try dsimp only at hSw
    go_simp
    try with_reducible rfl
  try simp only [Act.put, List.setIfInBounds_toArray, List.set_cons_zero, List.set_cons_succ]
  refine Upto.take (i := 12) (v := ?_) at12 (by kernel_rfl) (by kernel_rfl) (by kernel_rfl) (by kernel_rfl) (fun _ _ _ h => h) (by rfl) ?_ hHeld ?_
  rotate_left
  · intro w hSw
    try dsimp only at hSw
    go_simp
    try with_reducible rfl
  try simp only [Act.put, List.setIfInBounds_toArray, List.set_cons_zero, List.set_cons_succ]
  refine Upto.take (i := 13) (v := ?_) at13 (by kernel_rfl) (by kernel_rfl) (by kernel_rfl) (by kernel_rfl) (fun _ _ _ h => h) (by rfl) ?_ hHeld ?_
  rotate_left
  · intro w hSw
    try dsimp only at hSw
    go_simp
    try with_reducible rfl
  try simp only [Act.put, List.setIfInBounds_toArray, List.set_cons_zero, List.set_cons_succ]
  refine Upto.take (i := 14) (v := ?_) at14 (by kernel_rfl) (by kernel_rfl) (by kernel_rfl) (by kernel_rfl) (fun _ _ _ h => h) (by rfl) ?_ hHeld ?_
  rotate_left
  · intro w hSw
    try dsimp only at hSw
    go_simp
    try with_reducible rfl
  try simp only [Act.put, List.setIfInBounds_toArray, List.set_cons_zero, List.set_cons_succ]
  refine Upto.take (i := 15) (v := ?_) at15 (by kernel_rfl) (by kernel_rfl) (by kernel_rfl) (by kernel_rfl) (fun _ _ _ h => h) (by rfl) ?_ hHeld ?_
  rotate_left
  · intro w hSw
    try dsimp only at hSw
    go_simp
    try with_reducible rfl
  try simp only [Act.put, List.setIfInBounds_toArray, List.set_cons_zero, List.set_cons_succ]
  refine Upto.take (i := 16) (v := ?_) at16 (by kernel_rfl) (by kernel_rfl) (by kernel_rfl) (by kernel_rfl) (fun _ _ _ h => h) (by rfl) ?_ hHeld ?_
  rotate_left
  · intro w hSw
    try dsimp only at hSw
    go_simp
    try with_reducible rfl
  try simp only [Act.put, List.setIfInBounds_toArray, List.set_cons_zero, List.set_cons_succ]
  refine Upto.take (i := 17) (v := ?_) at17 (by kernel_rfl) (by kernel_rfl) (by kernel_rfl) (by kernel_rfl) (fun _ _ _ h => h) (by rfl) ?_ hHeld ?_
  rotate_left
  · intro w hSw
    try dsimp only at hSw
    go_simp
    try with_reducible rfl
  try simp only [Act.put, List.setIfInBounds_toArray, List.set_cons_zero, List.set_cons_succ]
  refine Upto.take (i := 18) (v := ?_) at18 (by kernel_rfl) (by kernel_rfl) (by kernel_rfl) (by kernel_rfl) (fun _ _ _ h => h) (by rfl) ?_ hHeld ?_
  rotate_left
  · intro w hSw
    try dsimp only at hSw
    go_simp
    try with_reducible rfl
  try simp only [Act.put, List.setIfInBounds_toArray, List.set_cons_zero, List.set_cons_succ]
  refine Upto.take (i := 19) (v := ?_) at19 (by kernel_rfl) (by kernel_rfl) (by kernel_rfl) (by kernel_rfl) (fun _ _ _ h => h) (by rfl) ?_ hHeld ?_
  rotate_left
  · intro w hSw
    try dsimp only at hSw
    go_simp
    try with_reducible rfl
  try simp only [Act.put, List.setIfInBounds_toArray, List.set_cons_zero, List.set_cons_succ]
  refine Upto.take (i := 20) (v := ?_) at20 (by kernel_rfl) (by kernel_rfl) (by kernel_rfl) (by kernel_rfl) (fun _ _ _ h => h) (by rfl) ?_ hHeld ?_
  rotate_left
  · intro w hSw
    try dsimp only at hSw
    go_simp
    try with_reducible rfl
  try simp only [Act.put, List.setIfInBounds_toArray, List.set_cons_zero, List.set_cons_succ]
  refine Upto.take (i := 21) (v := ?_) at21 (by kernel_rfl) (by kernel_rfl) (by kernel_rfl) (by kernel_rfl) (fun _ _ _ h => h) (by rfl) ?_ hHeld ?_
  rotate_left
  · intro w hSw
    try dsimp only at hSw
    go_simp
    try with_reducible rfl
  try simp only [Act.put, List.setIfInBounds_toArray, List.set_cons_zero, List.set_cons_succ]
  refine Upto.step (i := 22) (by kernel_rfl) at22 (fun K' hK => ?_)
  go_simp
  have HBA : Hid (Below w1.heap.size w1 (w1.drew.alloc (.cells #[.int .i64 (col : Int), .int .i64 (rep : Int), .int .i64 (de : Int), .bool false, .int .i64 kind, .int .i64 d.num, .string d.text] 39))) := Lib.hid ((Below.refl _ w1).drew.alloc (Nat.le_refl _) _)
  have q0 := (bcell HBA.out hsbl).trans m0
  have q1 := (bcell HBA.out hcbl).trans m1
  have q2 := (bcell HBA.out hl1).trans b2
  have q3 := (bcell HBA.out hl2).trans d1
  have q4 := (bcell HBA.out hl2).trans d2
  refine hK.out _ _ (.inr ⟨q0, q1, q2, q3, q4⟩) (fun _ => ?_)
  clear hK K'
  replace hHeld := And.intro q0 (And.intro q1 (And.intro q2 (And.intro q3 q4)))
  try simp only [Act.put, List.setIfInBounds_toArray, List.set_cons_zero, List.set_cons_succ]
  refine Upto.step (i := 23) (by kernel_rfl) at23 (fun K' hK => ?_)
  have HO1 := Lib.hid (own_below HO0.out HBA.out)
  have hs2 : cb + 1 ≤ (w1.drew.alloc (.cells #[.int .i64 (col : Int), .int .i64 (rep : Int), .int .i64 (de : Int), .bool false, .int .i64 kind, .int .i64 d.num, .string d.text] 39)).heap.size := Nat.le_trans hcbl HBA.out.size
  refine step_append_lies _ (by rfl) _ _ 26 (by rfl) (cb + 1) 39 i39 _ 7 64 Tryz.underlying26 J1.out J2.out J3.out J4.out rfl (by decide) (.slice Av m cv) m (clFlat (colOf log col)) (by rfl) HO1.out ⟨w1.heap.size, 0, none⟩ 1 1 [.int .i64 (col : Int), .int .i64 (rep : Int), .int .i64 (de : Int), .bool false, .int .i64 kind, .int .i64 d.num, .string d.text] (by rfl) rfl (World.news_of_block (heap_alloc_new w1.drew _)) (by simp [Value.oneCell']) (by decide) (by simp only [maxLen]; omega) (by omega) hs2 _ rfl ?_
  intro g cap w7 hown7 hgrow hat7 hlt7
  have hkeep : ∀ b, b < w1.heap.size → (Value.slice Av m cv).ownBlock ≠ some b → w7.heap[b]? = w1.heap[b]? := fun b hb hne => (hgrow.block b (Nat.lt_of_lt_of_le hb HBA.out.size) (fun he => hne he.symm)).trans (HBA.out.block b hb)
  have hkk : ∀ b, (K b ∨ (w.heap.size ≤ b ∧ b < w1.heap.size)) → (Value.slice Av m cv).ownBlock ≠ some b := fun b hb he => HVK.out col hcol b (by rw [HV.out]; exact he) hb
  have hcb7 := hkeep cb hcbl (fun he => by have h1 := (HO0.out.lt cb he).1; omega)
  have hsb7 := hkeep sb hsbl (hkk sb HS1.out.ksb)
  have hp7 := hkeep w.heap.size hl1 (hkk _ (.inr ⟨Nat.le_refl _, hl1⟩))
  have hq7 := hkeep (w.heap.size + 1) hl2 (hkk _ (.inr ⟨Nat.le_succ _, hl2⟩))
  have r0 : w7.cell? ⟨sb, 0, none⟩ = some (.slice (some ⟨cb, 0, none⟩) n n) := (World.cell?_of_block (a := ⟨sb, 0, none⟩) hsb7).trans m0
  have r1 : w7.cell? ⟨cb, col, none⟩ = some (.slice Av m cv) := (World.cell?_of_block (a := ⟨cb, col, none⟩) hcb7).trans m1
  have r2 : w7.cell? ⟨w.heap.size, 2, none⟩ = some (.int .i64 kind) := (World.cell?_of_block (a := ⟨w.heap.size, 2, none⟩) hp7).trans b2
  have r3 : w7.cell? ⟨w.heap.size + 1, 1, none⟩ = some (.int .i64 d.num) := (World.cell?_of_block (a := ⟨w.heap.size + 1, 1, none⟩) hq7).trans d1
  have r4 : w7.cell? ⟨w.heap.size + 1, 2, none⟩ = some (.string d.text) := (World.cell?_of_block (a := ⟨w.heap.size + 1, 2, none⟩) hq7).trans d2
  have m7 : w7.frozen? ⟨cb, col, none⟩ = false := (World.frozen?_of_block (a := ⟨cb, col, none⟩) hcb7).trans m2
  refine hK.out _ _ (.inr ⟨r0, r1, r2, r3, r4⟩) (fun _ => ?_)
  clear hK K'
  replace hHeld := And.intro r0 (And.intro r1 (And.intro r2 (And.intro r3 r4)))
  try simp only [Act.put, List.setIfInBounds_toArray, List.set_cons_zero, List.set_cons_succ]
  refine Upto.take (i := 24) (v := ?_) at24 (by kernel_rfl) (by kernel_rfl) (by kernel_rfl) (by kernel_rfl) (fun _ _ _ h => h) (by rfl) ?_ hHeld ?_
  rotate_left
  · intro w hSw
    try dsimp only at hSw
    go_simp
    try with_reducible rfl
  try simp only [Act.put, List.setIfInBounds_toArray, List.set_cons_zero, List.set_cons_succ]
  refine Upto.step (i := 25) (by kernel_rfl) at25 (fun K' hK => ?_)
  go_simp
  refine hK.out _ _ (.inl rfl) (fun _ => ?_)
  clear hK K'
  try simp only [Act.put, List.setIfInBounds_toArray, List.set_cons_zero, List.set_cons_succ]
  refine Upto.done (by kernel_rfl) ?_ _
  have hxc : (colOf log col).length = m := HM.out
  have hat8 : (vs col).ownBlock = some g ∨ g = (w1.drew.alloc (.cells #[.int .i64 (col : Int), .int .i64 (rep : Int), .int .i64 (de : Int), .bool false, .int .i64 kind, .int .i64 d.num, .string d.text] 39)).heap.size := by rw [HV.out]; exact hat7
  rw [← HV.out] at hgrow
  subst hxc
  obtain ⟨p1, p2, p3⟩ := HS1.out.push HC.out HCK.out HVK.out HBA.out hcol (x := ⟨(col : Int), rep, de, false, kind, d.num, d.text⟩) rfl hown7 hgrow hat8
  have HE := Lib.hid (HEND.out (.returned (.tuple #[])) _ ⟨rfl, p1, p2, p3⟩)
  go_end0
  exact HE.out
end Go.Proofs.YtglgclkgppomiaaGreat

namespace Go.Proofs.YtglgclkgppomiaaGreat
open Go Go.RowKit

/-- The arguments of the shredder's methods: a field's value, a datum's value. -/
abbrev fv (name : ByteArray) (way kind : Int) (A : Option Addr) (nk c : Nat) : Value := .agg #[.string name, .int .i64 way, .int .i64 kind, .slice A nk c]
abbrev dv (none : Bool) (num : Int) (text : ByteArray) (A : Option Addr) (n c : Nat) : Value := .agg #[.bool none, .int .i64 num, .string text, .slice A n c]
abbrev shArgs (sb : Nat) (f d : Value) (col dep rep de : Nat) : Array Value := #[.pointer (some ⟨sb, 0, none⟩), f, d, .int .i64 col, .int .i64 dep, .int .i64 rep, .int .i64 de]

set_option maxRecDepth 100000 in
set_option maxHeartbeats 4000000 in
theorem field90_req (name : ByteArray) (kind : Int) (A : Option Addr) (nk c : Nat) (nn : Bool) (num : Int) (text : ByteArray) (A2 : Option Addr) (n2 c2 B cb n sb col dep rep de : Nat) (log log' : List Cl) (K : Nat → Prop) (w : World) (hS : ShW w B cb n sb log K)
    (hin : ∀ (W : World) (K' : Nat → Prop), Below B w W → ShW W B cb n sb log K' → Calls Tryz.prog 134 (shArgs sb (fv name 0 kind A nk c) (dv nn num text A2 n2 c2) col dep rep de) W (Shr B cb n log' K' W)) :
    Calls Tryz.prog 90 (shArgs sb (fv name 0 kind A nk c) (dv nn num text A2 n2 c2) col dep rep de) w (Shr B cb n log' K w) := by
  have hbx := below_two w (.cells #[.string name, .int .i64 0, .int .i64 kind, .slice A nk c] 41) (.cells #[.bool nn, .int .i64 num, .string text, .slice A2 n2 c2] 43)
  have HIN := Lib.hid (hin _ _ (hbx.mono hS.bw) (hS.box hbx))
  have HEND := Lib.hid (fun e w' => Shr.behind (cb := cb) (n := n) (e := e) (w' := w') (log := log') hS.kk hS.bw hbx)
  clear hS hbx hin
  go_enter Tryz.func90, Tryz.ntmps90
  go_wp2_with fail
  refine HIN.out.mono ?_
  rintro e w2 hsh
  have HE := Lib.hid (HEND.out _ _ hsh)
  obtain ⟨rfl, _⟩ := hsh
  go_wp2_with fail
  go_end0
  exact HE.out
set_option maxRecDepth 100000 in
set_option maxHeartbeats 4000000 in
theorem field90_there (name : ByteArray) (kind : Int) (A : Option Addr) (nk c : Nat) (num : Int) (text : ByteArray) (A2 : Option Addr) (n2 c2 B cb n sb col dep rep de : Nat) (log log' : List Cl) (K : Nat → Prop) (w : World) (hS : ShW w B cb n sb log K) (hde : de ≤ 2000)
    (hin : ∀ (W : World) (K' : Nat → Prop), Below B w W → ShW W B cb n sb log K' → Calls Tryz.prog 134 (shArgs sb (fv name 1 kind A nk c) (dv false num text A2 n2 c2) col dep rep (de + 1)) W (Shr B cb n log' K' W)) :
    Calls Tryz.prog 90 (shArgs sb (fv name 1 kind A nk c) (dv false num text A2 n2 c2) col dep rep de) w (Shr B cb n log' K w) := by
  have hbx := below_two w (.cells #[.string name, .int .i64 1, .int .i64 kind, .slice A nk c] 41) (.cells #[.bool false, .int .i64 num, .string text, .slice A2 n2 c2] 43)
  have HIN := Lib.hid (hin _ _ (hbx.mono hS.bw) (hS.box hbx))
  have HEND := Lib.hid (fun e w' => Shr.behind (cb := cb) (n := n) (e := e) (w' := w') (log := log') hS.kk hS.bw hbx)
  have h0 : (0 : Int) ≤ (de : Int) := Int.natCast_nonneg _
  have h1 : (de : Int) ≤ 2000 := by omega
  clear hS hbx hin
  go_enter Tryz.func90, Tryz.ntmps90
  go_wp2_with fail
  refine HIN.out.mono ?_
  rintro e w2 hsh
  have HE := Lib.hid (HEND.out _ _ hsh)
  obtain ⟨rfl, _⟩ := hsh
  go_wp2_with fail
  go_end0
  exact HE.out
set_option maxRecDepth 100000 in
set_option maxHeartbeats 4000000 in
/-- Nothing is there: hin is what the shredder's none does. -/
theorem field90_null (name : ByteArray) (kind : Int) (A : Option Addr) (nk c : Nat) (num : Int) (text : ByteArray) (A2 : Option Addr) (n2 c2 B cb n sb col dep rep de : Nat) (log log' : List Cl) (K : Nat → Prop) (w : World) (hS : ShW w B cb n sb log K)
    (hin : ∀ (W : World) (K' : Nat → Prop), Below B w W → ShW W B cb n sb log K' → Calls Tryz.prog 135 #[.pointer (some ⟨sb, 0, none⟩), fv name 1 kind A nk c, .int .i64 col, .int .i64 rep, .int .i64 de] W (Shr B cb n log' K' W)) :
    Calls Tryz.prog 90 (shArgs sb (fv name 1 kind A nk c) (dv true num text A2 n2 c2) col dep rep de) w (Shr B cb n log' K w) := by
  have hbx := below_two w (.cells #[.string name, .int .i64 1, .int .i64 kind, .slice A nk c] 41) (.cells #[.bool true, .int .i64 num, .string text, .slice A2 n2 c2] 43)
  have HIN := Lib.hid (hin _ _ (hbx.mono hS.bw) (hS.box hbx))
  have HEND := Lib.hid (fun e w' => Shr.behind (cb := cb) (n := n) (e := e) (w' := w') (log := log') hS.kk hS.bw hbx)
  clear hS hbx hin
  go_enter Tryz.func90, Tryz.ntmps90
  go_wp2_with fail
  refine HIN.out.mono ?_
  rintro e w2 hsh
  have HE := Lib.hid (HEND.out _ _ hsh)
  obtain ⟨rfl, _⟩ := hsh
  go_wp2_with fail
  go_end0
  exact HE.out

/-- The cells of the items of a field that is repeated. -/
def itemsSh (f : Fd) (col dep rep de : Nat) : List Dt → List Cl
  | [] => []
  | x :: xs => shOnce f x col (dep + 1) rep (de + 1) ++ (xs.map fun y => shOnce f y col (dep + 1) (dep + 1) (de + 1)).flatten
theorem itemsSh_take (f : Fd) (col dep rep de : Nat) {items : List Dt} {j : Nat} {x : Dt} (h : items[j]? = some x) :
    itemsSh f col dep rep de (items.take (j + 1)) = itemsSh f col dep rep de (items.take j) ++ shOnce f x col (dep + 1) (if j = 0 then rep else dep + 1) (de + 1) := by
  cases items with
  | nil => simp at h
  | cons y ys =>
    cases j with
    | zero =>
      simp at h
      subst h
      simp [itemsSh]
    | succ j =>
      have hy : ys[j]? = some x := by simpa using h
      rw [List.take_succ_cons, List.take_succ_cons]
      simp only [itemsSh]
      rw [List.take_add_one, hy]
      simp

set_option maxRecDepth 100000 in
set_option maxHeartbeats 4000000 in
theorem field90_rep (f : Fd) (hw : f.way = 2) (A : Option Addr) (nk c : Nat) (nn : Bool) (num : Int) (text : ByteArray) (items : List Dt) (A2 : Option Addr) (n2 c2 B cb n sb col dep rep de : Nat) (log : List Cl) (K : Nat → Prop) (w : World) (hS : ShW w B cb n sb log K) (hde : de ≤ 2000) (hdp : dep ≤ 2000) (hn2 : n2 ≤ 1000000) (h2 : 0 < n2)
    (hds : DtsAt w B A2 n2 c2 items)
    (hin : ∀ (W : World) (K' : Nat → Prop) (j : Nat) (x : Dt) (A3 : Option Addr) (c3 : Nat), items[j]? = some x → Below B w W → ShW W B cb n sb (log ++ itemsSh f col dep rep de (items.take j)) K' → DtsAt W B A3 x.items.length c3 x.items →
      Calls Tryz.prog 134 (shArgs sb (fv f.name 2 f.kind A nk c) (dv x.none x.num x.text A3 x.items.length c3) col (dep + 1) (if j = 0 then rep else dep + 1) (de + 1)) W (Shr B cb n (log ++ itemsSh f col dep rep de (items.take (j + 1))) K' W)) :
    Calls Tryz.prog 90 (shArgs sb (fv f.name 2 f.kind A nk c) (dv nn num text A2 n2 c2) col dep rep de) w (Shr B cb n (log ++ itemsSh f col dep rep de items) K w) := by
  have hbx := below_two w (.cells #[.string f.name, .int .i64 2, .int .i64 f.kind, .slice A nk c] 41) (.cells #[.bool nn, .int .i64 num, .string text, .slice A2 n2 c2] 43)
  obtain ⟨w1, hw1⟩ : ∃ w1, w1 = (w.alloc (.cells #[.string f.name, .int .i64 2, .int .i64 f.kind, .slice A nk c] 41)).alloc (.cells #[.bool nn, .int .i64 num, .string text, .slice A2 n2 c2] 43) := ⟨_, rfl⟩
  have hr1 : RowB w1 w.heap.size 41 #[.string f.name, .int .i64 2, .int .i64 f.kind, .slice A nk c] := by rw [hw1]; exact (RowB.new w 41 _).alloc _
  have hr2 : RowB w1 (w.heap.size + 1) 43 #[.bool nn, .int .i64 num, .string text, .slice A2 n2 c2] := by rw [hw1]; exact rowB_new (by rw [size_alloc1])
  rw [← hw1] at hbx
  have HS1 := Lib.hid (hS.box hbx)
  have HEND := Lib.hid (fun e w' => Shr.behind (cb := cb) (n := n) (e := e) (w' := w') (log := log ++ itemsSh f col dep rep de items) hS.kk hS.bw hbx)
  have HR1 := Lib.hid hr1
  have HR2 := Lib.hid hr2
  have HBX := Lib.hid hbx
  have HIN := Lib.hid hin
  have HDS := Lib.hid hds
  have hlen := hds.len
  have hBw := hS.bw
  have h0 : (0 : Int) ≤ (de : Int) := Int.natCast_nonneg _
  have h1 : (de : Int) ≤ 2000 := by omega
  have h3 : (0 : Int) ≤ (dep : Int) := Int.natCast_nonneg _
  have h4 : (dep : Int) ≤ 2000 := by omega
  have h5 : ((n2 : Int) == 0) = false := by simp; omega
  have HW1 := Lib.hid hw1
  have hl1 := hr1.lt
  have hl2 := hr2.lt
  clear hS hbx hin hr1 hr2 hds hw1
  go_enter Tryz.func90, Tryz.ntmps90
  go_wp2_with fail
  rw [← HW1.out]
  go_loopw [5, 31] (fun r i wr => ∃ (j r5 : Nat), j ≤ n2 ∧ i = .int .i64 j ∧ r = .int .i64 (r5 : Int) ∧ (j ≤ 1 → r5 = rep) ∧ ShW wr B cb n sb (log ++ itemsSh f col dep rep de (items.take j)) (fun g => K g ∨ (w.heap.size ≤ g ∧ g < w1.heap.size)) ∧ Below B w1 wr ∧ (∀ g, (K g ∨ (w.heap.size ≤ g ∧ g < w1.heap.size)) → wr.heap[g]? = w1.heap[g]?)) (fun _ i _ => n2 - (intOf i).toNat)
  case atStart => exact ⟨0, rep, Nat.zero_le _, rfl, rfl, fun _ => rfl, by simpa [itemsSh] using HS1.out, Below.refl _ _, fun _ _ => rfl⟩
  case round =>
    obtain ⟨j, r5, hj, rfl, rfl, hrr, hs5, hb5, hk5⟩ := hrel
    have HRR := Lib.hid hrr
    clear hrr
    have HS5 := Lib.hid hs5
    have HB5 := Lib.hid hb5
    have HK5 := Lib.hid hk5
    have hr5 : RowB wr w.heap.size 41 #[.string f.name, .int .i64 2, .int .i64 f.kind, .slice A nk c] := HR1.out.of_eq (hk5 _ (.inr ⟨Nat.le_refl _, hl1⟩))
    obtain ⟨k0, k1, k2, k3⟩ := hr5.c4
    have hlr := hr5.lt
    have e0 : ∀ o, (wr.alloc o).cell? ⟨w.heap.size, 0, none⟩ = some (.string f.name) := fun o => (cold hlr).trans k0
    have e1 : ∀ o, (wr.alloc o).cell? ⟨w.heap.size, 1, none⟩ = some (.int .i64 2) := fun o => (cold hlr).trans k1
    have e2 : ∀ o, (wr.alloc o).cell? ⟨w.heap.size, 2, none⟩ = some (.int .i64 f.kind) := fun o => (cold hlr).trans k2
    have e3 : ∀ o, (wr.alloc o).cell? ⟨w.heap.size, 3, none⟩ = some (.slice A nk c) := fun o => (cold hlr).trans k3
    clear hs5 hb5 hk5 hr5
    by_cases hlt : j < n2
    · have hbw : Below B w wr := (HBX.out.mono hBw).trans HB5.out
      obtain ⟨b, o, x, A3, c3, rfl, hbl, hx, g0, g1, g2, g3, hxs⟩ := HDS.out.at_ hlt
      have q0 := (bcell hbw hbl).trans g0
      have q1 := (bcell hbw hbl).trans g1
      have q2 := (bcell hbw hbl).trans g2
      have q3 := (bcell hbw hbl).trans g3
      have hal : Below wr.heap.size wr (wr.alloc (.cells #[.bool x.none, .int .i64 x.num, .string x.text, .slice A3 x.items.length c3] 43)) := (Below.refl _ _).alloc (Nat.le_refl _) _
      have hcall := HIN.out _ _ j x A3 c3 hx (hbw.trans (hal.mono HS5.out.bw)) (HS5.out.box hal) (hxs.mono (hbw.trans (hal.mono HS5.out.bw)) (Nat.le_refl _))
      have HBK := Lib.hid (fun e w' => Shr.behind (cb := cb) (n := n) (e := e) (w' := w') (log := log ++ itemsSh f col dep rep de (items.take (j + 1))) HS5.out.kk HS5.out.bw hal)
      have hj0 : (0 : Int) ≤ (j : Int) := Int.natCast_nonneg _
      have hj1 : (j : Int) < (n2 : Int) := by omega
      clear g0 g1 g2 g3 hx hxs hal
      by_cases hz : j = 0
      · subst hz
        simp only [Nat.zero_mul, Nat.add_zero] at q0 q1 q2 q3
        have hrr : rep = r5 := (HRR.out (by omega)).symm
        subst hrr
        simp only [if_true] at hcall
        have hcall' : Calls Tryz.prog 134 (#[.pointer (some ⟨sb, 0, none⟩), fv f.name 2 f.kind A nk c, dv x.none x.num x.text A3 x.items.length c3, .int .i64 col, .int .i64 ((dep : Int) + 1), .int .i64 rep, .int .i64 ((de : Int) + 1)]) _ _ := hcall
        have HCALL := Lib.hid hcall'
        clear hcall hcall'
        go_wp2_with fail
        refine HCALL.out.mono ?_
        rintro e w2 hsh
        obtain ⟨he, h1, h2, h3⟩ := HBK.out _ _ hsh
        have HN := Lib.hid (HS5.out.next h1 h2 h3)
        have H2 := Lib.hid (HB5.out.trans h2)
        have H3 := Lib.hid (fun g hg => (h3 g hg).trans (HK5.out g hg))
        subst he
        clear h1 h2 h3 hsh
        go_wp2_with fail
        refine ⟨?_, by simp [intOf]; omega⟩
        exact ⟨1, rep, by omega, by go_num, rfl, fun _ => rfl, HN.out, H2.out, H3.out⟩
      · have hjp : (0 : Int) < (j : Int) := by omega
        simp only [if_neg hz] at hcall
        have hcall' : Calls Tryz.prog 134 (#[.pointer (some ⟨sb, 0, none⟩), fv f.name 2 f.kind A nk c, dv x.none x.num x.text A3 x.items.length c3, .int .i64 col, .int .i64 ((dep : Int) + 1), .int .i64 ((dep : Int) + 1), .int .i64 ((de : Int) + 1)]) _ _ := hcall
        have HCALL := Lib.hid hcall'
        clear hcall hcall'
        go_wp2_with fail
        refine HCALL.out.mono ?_
        rintro e w2 hsh
        obtain ⟨he, h1, h2, h3⟩ := HBK.out _ _ hsh
        have HN := Lib.hid (HS5.out.next h1 h2 h3)
        have H2 := Lib.hid (HB5.out.trans h2)
        have H3 := Lib.hid (fun g hg => (h3 g hg).trans (HK5.out g hg))
        subst he
        clear h1 h2 h3 hsh
        go_wp2_with fail
        refine ⟨?_, by simp [intOf]; omega⟩
        exact ⟨j + 1, dep + 1, by omega, by go_num, by go_num, fun h => by omega, HN.out, H2.out, H3.out⟩
    · obtain rfl : j = n2 := by omega
      go_wp2_with fail
      go_end0
      refine HEND.out _ _ ⟨rfl, ?_, HB5.out, HK5.out⟩
      have := HS5.out.cols
      rw [List.take_of_length_le (by omega)] at this
      exact this
end Go.Proofs.YtglgclkgppomiaaGreat

namespace Go.Proofs.YtglgclkgppomiaaGreat
open Go Go.RowKit

set_option maxRecDepth 100000 in
set_option maxHeartbeats 4000000 in
theorem field90_empty (name : ByteArray) (kind : Int) (A : Option Addr) (nk c : Nat) (nn : Bool) (num : Int) (text : ByteArray) (A2 : Option Addr) (c2 B cb n sb col dep rep de : Nat) (log log' : List Cl) (K : Nat → Prop) (w : World) (hS : ShW w B cb n sb log K)
    (hin : ∀ (W : World) (K' : Nat → Prop), Below B w W → ShW W B cb n sb log K' → Calls Tryz.prog 135 #[.pointer (some ⟨sb, 0, none⟩), fv name 2 kind A nk c, .int .i64 col, .int .i64 rep, .int .i64 de] W (Shr B cb n log' K' W)) :
    Calls Tryz.prog 90 (shArgs sb (fv name 2 kind A nk c) (dv nn num text A2 0 c2) col dep rep de) w (Shr B cb n log' K w) := by
  have hbx := below_two w (.cells #[.string name, .int .i64 2, .int .i64 kind, .slice A nk c] 41) (.cells #[.bool nn, .int .i64 num, .string text, .slice A2 0 c2] 43)
  obtain ⟨w1, hw1⟩ : ∃ w1, w1 = (w.alloc (.cells #[.string name, .int .i64 2, .int .i64 kind, .slice A nk c] 41)).alloc (.cells #[.bool nn, .int .i64 num, .string text, .slice A2 0 c2] 43) := ⟨_, rfl⟩
  have hr2 : RowB w1 (w.heap.size + 1) 43 #[.bool nn, .int .i64 num, .string text, .slice A2 0 c2] := by rw [hw1]; exact rowB_new (by rw [size_alloc1])
  rw [← hw1] at hbx
  have HIN := Lib.hid (hin _ _ (hbx.mono hS.bw) (hS.box hbx))
  have HEND := Lib.hid (fun e w' => Shr.behind (cb := cb) (n := n) (e := e) (w' := w') (log := log') hS.kk hS.bw hbx)
  have HW1 := Lib.hid hw1
  have HR2 := Lib.hid hr2
  have hl2 := hr2.lt
  clear hS hbx hin hw1 hr2
  go_enter Tryz.func90, Tryz.ntmps90
  go_wp2_with fail
  rw [← HW1.out]
  refine HIN.out.mono ?_
  rintro e w2 hsh
  have HE := Lib.hid (HEND.out _ _ hsh)
  obtain ⟨rfl, _, _, hk⟩ := hsh
  have hr3 : RowB w2 (w.heap.size + 1) 43 #[.bool nn, .int .i64 num, .string text, .slice A2 0 c2] := HR2.out.of_eq (hk _ (.inr ⟨Nat.le_succ _, hl2⟩))
  have m3 : w2.cell? ⟨w.heap.size + 1, 3, none⟩ = some (.slice A2 0 c2) := hr3.cell 3
  clear hk hr3
  go_wp2_with fail
  go_loopw [31] (fun i wr => i = .int .i64 0 ∧ wr = w2) (fun _ _ => 0)
  case atStart => exact ⟨rfl, rfl⟩
  case round =>
    obtain ⟨rfl, rfl⟩ := hrel
    go_wp2_with fail
    go_end0
    exact HE.out

theorem shFields_take (fs : List Fd) (ds : List Dt) (j : Nat) (f : Fd) (d : Dt) (col dep rep de : Nat) (hf : fs[j]? = some f) (hd : ds[j]? = some d) :
    shFields (fs.take (j + 1)) (ds.take (j + 1)) col dep rep de = shFields (fs.take j) (ds.take j) col dep rep de ++ shField f.way (leavesOf f) (fun d col dep rep de => shOnce f d col dep rep de) d (col + leaves (fs.take j)) dep rep de := by
  have h := shFields_split (fs.take (j + 1)) (ds.take (j + 1)) j f d col dep rep de (by rw [List.getElem?_take_of_lt (by omega)]; exact hf) (by rw [List.getElem?_take_of_lt (by omega)]; exact hd)
  rw [h]
  simp [List.take_take, shFields]

set_option maxRecDepth 100000 in
set_option maxHeartbeats 4000000 in
theorem fields60 (fs : List Fd) (ds : List Dt) (A : Option Addr) (nf c : Nat) (A2 : Option Addr) (c2 B cb n sb col dep rep de : Nat) (log : List Cl) (K : Nat → Prop) (w : World) (hS : ShW w B cb n sb log K) (hfs : FdsAt w B A nf c fs) (hds : DtsAt w B A2 nf c2 ds) (hcol : col + leaves fs ≤ n) (hn : n ≤ 1000) (hsz : fdsSize fs ≤ 1000)
    (hin : ∀ (W : World) (K' : Nat → Prop) (j : Nat) (f : Fd) (d : Dt) (A3 : Option Addr) (c3 : Nat) (A4 : Option Addr) (c4 : Nat), fs[j]? = some f → ds[j]? = some d → Below B w W → ShW W B cb n sb (log ++ shFields (fs.take j) (ds.take j) col dep rep de) K' → FdsAt W B A3 f.kids.length c3 f.kids → DtsAt W B A4 d.items.length c4 d.items →
      Calls Tryz.prog 90 (shArgs sb (fv f.name f.way f.kind A3 f.kids.length c3) (dv d.none d.num d.text A4 d.items.length c4) (col + leaves (fs.take j)) dep rep de) W (Shr B cb n (log ++ shFields (fs.take (j + 1)) (ds.take (j + 1)) col dep rep de) K' W)) :
    Calls Tryz.prog 60 #[.pointer (some ⟨sb, 0, none⟩), .slice A nf c, .slice A2 nf c2, .int .i64 col, .int .i64 dep, .int .i64 rep, .int .i64 de] w (Shr B cb n (log ++ shFields fs ds col dep rep de) K w) := by
  have HS := Lib.hid hS
  have HFS := Lib.hid hfs
  have HDS := Lib.hid hds
  have HIN := Lib.hid hin
  have hbw := hS.bw
  have hl1 := hfs.len.1
  have hl2 := hds.len.1
  clear hS hfs hds hin
  go_enter Tryz.func60, Tryz.ntmps60
  go_wp2_with fail
  go_loopw [3, 18] (fun v i wr => ∃ (j cj : Nat), j ≤ nf ∧ cj = col + leaves (fs.take j) ∧ i = .int .i64 j ∧ v = .int .i64 cj ∧ ShW wr B cb n sb (log ++ shFields (fs.take j) (ds.take j) col dep rep de) K ∧ Below B w wr ∧ (∀ g, K g → wr.heap[g]? = w.heap[g]?)) (fun _ i _ => nf - (intOf i).toNat)
  case atStart => exact ⟨0, col, Nat.zero_le _, by simp [leaves], rfl, rfl, by simpa [shFields] using HS.out, Below.refl _ _, fun _ _ => rfl⟩
  case round =>
    obtain ⟨j, cj, hj, hcj, rfl, rfl, hs5, hb5, hk5⟩ := hrel
    have HS5 := Lib.hid hs5
    have HB5 := Lib.hid hb5
    have HK5 := Lib.hid hk5
    have HCJ := Lib.hid hcj
    clear hs5 hk5 hcj
    by_cases hlt : j < nf
    · obtain ⟨b, o, f, A3, c3, rfl, hbl, hf, g0, g1, g2, g3, hkids⟩ := HFS.out.at_ hlt
      obtain ⟨b', o', d, A4, c4, rfl, hbl', hd, k0, k1, k2, k3, hits⟩ := HDS.out.at_ hlt
      have p0 := (bcell hb5 hbl).trans g0
      have p1 := (bcell hb5 hbl).trans g1
      have p2 := (bcell hb5 hbl).trans g2
      have p3 := (bcell hb5 hbl).trans g3
      have hal : Below wr.heap.size wr (World.drew (wr.alloc (.cells #[.string f.name, .int .i64 f.way, .int .i64 f.kind, .slice A3 f.kids.length c3] 41))) := ((Below.refl _ _).alloc (Nat.le_refl _) _).drew
      have hB2 : Below B w (World.drew (wr.alloc (.cells #[.string f.name, .int .i64 f.way, .int .i64 f.kind, .slice A3 f.kids.length c3] 41))) := hb5.trans (hal.mono HS5.out.bw)
      have hne := fun (j : Nat) => World.cell?_alloc_lt wr (.cells #[.string f.name, .int .i64 f.way, .int .i64 f.kind, .slice A3 f.kids.length c3] 41) ⟨b', j, none⟩ (Nat.lt_of_lt_of_le hbl' HS5.out.bw)
      have q0 := (hne _).trans ((bcell hb5 hbl').trans k0)
      have q1 := (hne _).trans ((bcell hb5 hbl').trans k1)
      have q2 := (hne _).trans ((bcell hb5 hbl').trans k2)
      have q3 := (hne _).trans ((bcell hb5 hbl').trans k3)
      have hcall := HIN.out _ _ j f d A3 c3 A4 c4 hf hd hB2 (HS5.out.box hal) (hkids.mono hB2 (Nat.le_refl _)) (hits.mono hB2 (Nat.le_refl _))
      rw [← HCJ.out] at hcall
      have HCALL := Lib.hid hcall
      have HBK := Lib.hid (fun e w' => Shr.behind (cb := cb) (n := n) (e := e) (w' := w') (log := log ++ shFields (fs.take (j + 1)) (ds.take (j + 1)) col dep rep de) HS5.out.kk HS5.out.bw hal)
      have hfz := fdsSize_get fs j f hf
      have hsn := leaves_snoc fs j f hf
      have HSN := Lib.hid hsn
      have HKIDS := Lib.hid (hkids.mono hB2 (Nat.le_refl _))
      have hlo := leavesOf_le _ f (Nat.le_refl _)
      have hlt2 := leaves_take_le fs (j + 1)
      have hcj2 : cj + leavesOf f ≤ 3000 := by have := HCJ.out; have := leaves_take_le fs j; have := leaves_le fs; omega
      have hj0 : (0 : Int) ≤ (j : Int) := Int.natCast_nonneg _
      have hj1 : (j : Int) < (nf : Int) := by omega
      have hj2 : (j : Int) + 1 ≤ 1000 := by have := fdsSize_length fs; omega
      have hc0 : (0 : Int) ≤ (cj : Int) := Int.natCast_nonneg _
      have hv0 : (0 : Int) ≤ (leavesOf f : Int) := Int.natCast_nonneg _
      have hcv : (cj : Int) + (leavesOf f : Int) ≤ 3000 := by omega
      have hfz2 : fdSize f ≤ 1000000000 := by omega
      clear g0 g1 g2 g3 k0 k1 k2 k3 hne hf hd hb5 hkids hits hcall hsn
      go_wp2_with fail
      refine still_tail 10 (by kernel_rfl) (by kernel_rfl) ?_
      simp only [List.take_succ_cons, List.take_zero, List.drop_succ_cons, List.drop_zero]
      repeat still_step
      refine wpStill_nil ?_
      go_wp2_with fail
      refine HCALL.out.mono ?_
      rintro e w2 hsh
      obtain ⟨he, h1, h2, h3⟩ := HBK.out _ _ hsh
      obtain ⟨_, _, hm2, hk2⟩ := hsh
      subst he
      have hr2 : RowB w2 wr.heap.size 41 #[.string f.name, .int .i64 f.way, .int .i64 f.kind, .slice A3 f.kids.length c3] := RowB.of_eq (w := World.drew (wr.alloc (.cells #[.string f.name, .int .i64 f.way, .int .i64 f.kind, .slice A3 f.kids.length c3] 41))) (RowB.new wr 41 _) (hk2 _ (.inr ⟨Nat.le_refl _, by show _ < (wr.alloc _).heap.size; rw [size_alloc1]; omega⟩))
      obtain ⟨r0, r1, r2, r3⟩ := hr2.c4
      have HN := Lib.hid (HS5.out.next h1 h2 h3)
      have H2 := Lib.hid (HB5.out.trans h2)
      have H3 := Lib.hid (fun g hg => (h3 g hg).trans (HK5.out g hg))
      have HLV := Lib.hid (leavesOf_step 1000000000 (by omega) (leaves_all 1000000000 (Nat.le_refl _)) f A3 c3 w2 (by omega) (HKIDS.out.mono hm2 HN.out.bw))
      clear h1 h2 h3 hk2 hm2 hr2
      go_wp2_with fail
      refine HLV.out.mono ?_
      rintro e w3 ⟨rfl, hb6⟩
      have HN3 := Lib.hid (HN.out.next (HN.out.cols.keep hb6) (hb6.mono HN.out.bw) (fun g hg => hb6.block g (HN.out.kk g hg)))
      have HB6 := Lib.hid hb6
      clear hb6
      go_wp2_with fail
      refine ⟨?_, by show nf - ((j : Int) + 1).toNat < nf - (j : Int).toNat; omega⟩
      exact ⟨j + 1, cj + leavesOf f, by omega, by have h1 := HSN.out; have h2 := HCJ.out; omega, by go_num, by go_num, HN3.out, H2.out.trans (HB6.out.mono HN.out.bw), fun g hg => (HB6.out.block g (HN.out.kk g hg)).trans (H3.out g hg)⟩
    · obtain rfl : j = nf := by omega
      go_wp2_with fail
      go_end0
      have h1 := HS5.out.cols
      rw [List.take_of_length_le (by omega), List.take_of_length_le (by omega)] at h1
      exact ⟨rfl, h1, HB5.out, HK5.out⟩
end Go.Proofs.YtglgclkgppomiaaGreat

namespace Go.Proofs.YtglgclkgppomiaaGreat
open Go Go.RowKit

theorem itemsSh_prefix (f : Fd) (col dep rep de : Nat) (items : List Dt) (j : Nat) : ∃ t, itemsSh f col dep rep de items = itemsSh f col dep rep de (items.take j) ++ t := by
  cases items with
  | nil => exact ⟨[], by simp [itemsSh]⟩
  | cons x xs =>
    cases j with
    | zero => exact ⟨_, by simp [itemsSh]; rfl⟩
    | succ j =>
      refine ⟨((xs.drop j).map fun y => shOnce f y col (dep + 1) (dep + 1) (de + 1)).flatten, ?_⟩
      rw [List.take_succ_cons]
      simp only [itemsSh]
      rw [List.append_assoc, ← List.flatten_append, ← List.map_append, List.take_append_drop]
theorem shFields_prefix (fs : List Fd) (ds : List Dt) (j : Nat) (f : Fd) (d : Dt) (col dep rep de : Nat) (hf : fs[j]? = some f) (hd : ds[j]? = some d) : ∃ t, shFields fs ds col dep rep de = shFields (fs.take (j + 1)) (ds.take (j + 1)) col dep rep de ++ t := by
  refine ⟨shFields (fs.drop (j + 1)) (ds.drop (j + 1)) (col + leaves (fs.take (j + 1))) dep rep de, ?_⟩
  rw [shFields_split fs ds j f d col dep rep de hf hd, shFields_take fs ds j f d col dep rep de hf hd, ← List.append_assoc]

def FieldsSh (N : Nat) : Prop := ∀ (fs : List Fd) (ds : List Dt) (n0 m : Nat) (dp : Int) (A : Option Addr) (nf c : Nat) (A2 : Option Addr) (c2 B cb n sb col dep rep de : Nat) (log : List Cl) (K : Nat → Prop) (w : World), fdsSize fs ≤ N → OkL fs dp → rowGo fs ds n0 = some m →
  ShW w B cb n sb log K → FdsAt w B A nf c fs → DtsAt w B A2 nf c2 ds → col + leaves fs ≤ n → n ≤ 1000 → dep + fdsSize fs ≤ 1000 → de + fdsSize fs ≤ 1000 → (log ++ shFields fs ds col dep rep de).length ≤ 1000000000 →
  Calls Tryz.prog 60 #[.pointer (some ⟨sb, 0, none⟩), .slice A nf c, .slice A2 nf c2, .int .i64 col, .int .i64 dep, .int .i64 rep, .int .i64 de] w (Shr B cb n (log ++ shFields fs ds col dep rep de) K w)

theorem once_sh (N : Nat) (ih : FieldsSh N) (f : Fd) (d : Dt) (dp : Int) (k : Nat) (way : Int) (A : Option Addr) (c : Nat) (A2 : Option Addr) (c2 B cb n sb col dep rep de : Nat) (log : List Cl) (K : Nat → Prop) (w : World) (hs : fdSize f ≤ N + 1) (hg : f.kids ≠ [] → OkL f.kids dp) (hk : onceC f d = some k)
    (hS : ShW w B cb n sb log K) (hfs : FdsAt w B A f.kids.length c f.kids) (hds : DtsAt w B A2 d.items.length c2 d.items) (hcol : col + leavesOf f ≤ n) (hn : n ≤ 1000) (hdep : dep + fdSize f ≤ 1001) (hde : de + fdSize f ≤ 1001) (hlen : (log ++ shOnce f d col dep rep de).length ≤ 1000000000) :
    Calls Tryz.prog 134 (shArgs sb (fv f.name way f.kind A f.kids.length c) (dv d.none d.num d.text A2 d.items.length c2) col dep rep de) w (Shr B cb n (log ++ shOnce f d col dep rep de) K w) := by
  have hkz := fdSize_kids f
  by_cases hkd : f.kids = []
  · rw [shOnce_kl hkd]
    have hl := leavesOf_leaf hkd
    have := once134_leaf f.name way f.kind A c d A2 d.items.length c2 B cb n sb col dep rep de log K w hS (by omega) hn (by rw [List.length_append] at hlen; omega)
    rw [hkd]
    exact this
  · rw [onceC_group hkd] at hk
    have hr : ∃ m, rowGo f.kids d.items 0 = some m := by
      split at hk
      · split at hk
        · cases hk
        · exact ⟨_, by assumption⟩
      · cases hk
    obtain ⟨m, hr⟩ := hr
    have hll := (rowGo_len _ _ _ _ hr).1
    rw [shOnce_kg hkd] at hlen ⊢
    have hlo := leavesOf_group hkd
    refine once134_group f.name way f.kind A f.kids.length c d A2 d.items.length c2 B cb n sb col dep rep de log _ K w hS (List.length_pos_iff.2 hkd) fun W K' hW hSW => ?_
    have hW' := hW.mono hS.bw
    rw [← hll]
    refine ih f.kids d.items 0 m dp A _ c A2 c2 B cb n sb col dep rep de log K' W (by omega) (hg hkd) hr hSW (hfs.mono hW' (Nat.le_refl _)) ?_ (by omega) hn (by omega) (by omega) hlen
    rw [hll]
    exact hds.mono hW' (Nat.le_refl _)

theorem field_sh (N : Nat) (ih : FieldsSh N) (f : Fd) (d : Dt) (dp : Int) (k : Nat) (A : Option Addr) (c : Nat) (A2 : Option Addr) (c2 B cb n sb col dep rep de : Nat) (log : List Cl) (K : Nat → Prop) (w : World) (hs : fdSize f ≤ N + 1) (h0 : 0 ≤ f.way) (h2 : f.way ≤ 2) (hg : f.kids ≠ [] → OkL f.kids dp) (hk : dataC f d = some k)
    (hS : ShW w B cb n sb log K) (hfs : FdsAt w B A f.kids.length c f.kids) (hds : DtsAt w B A2 d.items.length c2 d.items) (hcol : col + leavesOf f ≤ n) (hn : n ≤ 1000) (hdep : dep + fdSize f ≤ 1000) (hde : de + fdSize f ≤ 1000)
    (hlen : (log ++ shField f.way (leavesOf f) (fun d col dep rep de => shOnce f d col dep rep de) d col dep rep de).length ≤ 1000000000) :
    Calls Tryz.prog 90 (shArgs sb (fv f.name f.way f.kind A f.kids.length c) (dv d.none d.num d.text A2 d.items.length c2) col dep rep de) w (Shr B cb n (log ++ shField f.way (leavesOf f) (fun d col dep rep de => shOnce f d col dep rep de) d col dep rep de) K w) := by
  have hw : f.way = 0 ∨ f.way = 1 ∨ f.way = 2 := by omega
  have hnone : ∀ (W : World) (K' : Nat → Prop), Below B w W → ShW W B cb n sb log K' → (log ++ nonesOf (leavesOf f) col rep de).length ≤ 1000000000 →
      Calls Tryz.prog 135 #[.pointer (some ⟨sb, 0, none⟩), fv f.name f.way f.kind A f.kids.length c, .int .i64 col, .int .i64 rep, .int .i64 de] W (Shr B cb n (log ++ nonesOf (leavesOf f) col rep de) K' W) := fun W K' hW hSW hl =>
    none135 f A c B cb n sb col rep de log K' W hSW (by omega) (hfs.mono hW (Nat.le_refl _)) hcol hn hl
  unfold dataC dataOf at hk
  unfold shField at hlen ⊢
  rcases hw with hw | hw | hw
  · simp only [hw] at hk hlen hnone ⊢
    rw [if_neg (by simp), if_neg (by simp)] at hk
    rw [if_neg (by simp), if_neg (by simp)] at hlen ⊢
    exact field90_req f.name f.kind A _ c d.none d.num d.text A2 _ c2 B cb n sb col dep rep de log _ K w hS fun W K' hW hSW =>
      once_sh N ih f d dp k 0 A c A2 c2 B cb n sb col dep rep de log K' W hs hg hk hSW (hfs.mono hW (Nat.le_refl _)) (hds.mono hW (Nat.le_refl _)) hcol hn (by omega) (by omega) hlen
  · simp only [hw] at hk hlen hnone ⊢
    cases hdn : d.none with
    | true =>
      simp only [hdn, if_true] at hlen ⊢
      exact field90_null f.name f.kind A _ c d.num d.text A2 _ c2 B cb n sb col dep rep de log _ K w hS fun W K' hW hSW => hnone W K' hW hSW hlen
    | false =>
      rw [hdn, if_neg (by simp), if_neg (by simp)] at hk
      simp only [hdn, if_true, if_false, Bool.false_eq_true] at hlen ⊢
      refine field90_there f.name f.kind A _ c d.num d.text A2 _ c2 B cb n sb col dep rep de log _ K w hS (by omega) fun W K' hW hSW => ?_
      have := once_sh N ih f d dp k 1 A c A2 c2 B cb n sb col dep rep (de + 1) log K' W hs hg hk hSW (hfs.mono hW (Nat.le_refl _)) (hds.mono hW (Nat.le_refl _)) hcol hn (by omega) (by omega) hlen
      rwa [hdn] at this
  · simp only [hw] at hk hlen hnone ⊢
    rw [if_neg (by simp), if_pos (by simp)] at hk
    rw [if_neg (by simp), if_pos (by simp)] at hlen ⊢
    have hi : itemsGo (onceC f) d.items 1 = some k := by
      split at hk
      · exact hk
      · cases hk
    have hil := itemsGo_len (onceC_pos f) _ _ _ hi
    have hile := itemsGo_le _ _ _ _ hi
    cases hit : d.items with
    | nil =>
      rw [hit] at hlen
      exact field90_empty f.name f.kind A _ c d.none d.num d.text A2 c2 B cb n sb col dep rep de log _ K w hS fun W K' hW hSW => hnone W K' hW hSW hlen
    | cons x xs =>
      have hIS : shOnce f x col (dep + 1) rep (de + 1) ++ (xs.map fun y => shOnce f y col (dep + 1) (dep + 1) (de + 1)).flatten = itemsSh f col dep rep de d.items := by rw [hit]; rfl
      rw [hit] at hlen
      simp only [] at hlen ⊢
      rw [hIS] at hlen ⊢
      rw [← hit]
      refine field90_rep f hw A _ c d.none d.num d.text d.items A2 _ c2 B cb n sb col dep rep de log K w hS (by omega) (by omega) (by omega) (by rw [hit]; simp) hds fun W K' j y A3 c3 hy hW hSW hys => ?_
      obtain ⟨ky, hky⟩ := itemsGo_at hi hy
      have e := itemsSh_take f col dep rep de hy
      obtain ⟨t, ht⟩ := itemsSh_prefix f col dep rep de d.items (j + 1)
      rw [e] at ht ⊢
      rw [← List.append_assoc]
      have := once_sh N ih f y dp ky 2 A c A3 c3 B cb n sb col (dep + 1) (if j = 0 then rep else dep + 1) (de + 1) (log ++ itemsSh f col dep rep de (d.items.take j)) K' W hs hg hky hSW (hfs.mono hW (Nat.le_refl _)) hys hcol hn (by omega) (by omega) (by
        rw [ht] at hlen
        simp only [List.length_append] at hlen ⊢
        omega)
      exact this

theorem fieldsSh_all : ∀ N, FieldsSh N
  | 0 => fun fs ds n0 m dp A nf c A2 c2 B cb n sb col dep rep de log K w hs hok hr hS hfs hds hcol hn hdep hde hlen => by
    have h0 := fdsSize_length fs
    have hfs0 : fs = [] := List.eq_nil_of_length_eq_zero (by omega)
    refine fields60 fs ds A nf c A2 c2 B cb n sb col dep rep de log K w hS hfs hds hcol hn (by omega) fun W K' j f d A3 c3 A4 c4 hf => ?_
    subst hfs0
    simp at hf
  | N + 1 => fun fs ds n0 m dp A nf c A2 c2 B cb n sb col dep rep de log K w hs hok hr hS hfs hds hcol hn hdep hde hlen => by
    have ih := fieldsSh_all N
    refine fields60 fs ds A nf c A2 c2 B cb n sb col dep rep de log K w hS hfs hds hcol hn (by omega) fun W K' j f d A3 c3 A4 c4 hf hd hW hSW hkids hits => ?_
    obtain ⟨k, hk⟩ := rowGo_at hr hf hd
    obtain ⟨w0, w2, _, _, hkg⟩ := hok.at_ hf
    have hfz := fdsSize_get _ _ _ hf
    have hsn := leaves_snoc _ _ _ hf
    have hle : leaves (fs.take (j + 1)) ≤ leaves fs := by
      have := leaves_append (fs.take (j + 1)) (fs.drop (j + 1))
      rw [List.take_append_drop] at this
      omega
    obtain ⟨t, ht⟩ := shFields_prefix fs ds j f d col dep rep de hf hd
    rw [shFields_take fs ds j f d col dep rep de hf hd] at ht ⊢
    rw [← List.append_assoc]
    refine field_sh N ih f d (dp + 1) k A3 c3 A4 c4 B cb n sb (col + leaves (fs.take j)) dep rep de (log ++ shFields (fs.take j) (ds.take j) col dep rep de) K' W (by omega) w0 w2 (fun h => (hkg h).2) hk hSW hkids hits (by omega) hn (by omega) (by omega) ?_
    rw [ht] at hlen
    simp only [List.length_append] at hlen ⊢
    omega
end Go.Proofs.YtglgclkgppomiaaGreat

namespace Go.Proofs.YtglgclkgppomiaaGreat
open Go Go.RowKit

theorem info26 : (Tryz.prog.info? 26).map (fun i => (i.zero, i.size, i.bytes)) = some (some (.slice none 0 0), 1, 24) := by kernel_rfl
/-- The call hands back the columns of that log. -/
def GivesCols (log : List Cl) (n : Nat) (w : World) (e : Ending) (w' : World) : Prop :=
  ∃ cb vs, e = .returned (.slice (some ⟨cb, 0, none⟩) n n) ∧ ColsC w' w.heap.size cb n log vs ∧ Below w.heap.size w w'

set_option maxRecDepth 100000 in
set_option maxHeartbeats 4000000 in
theorem columns33 (fs : List Fd) (ds : List Dt) (A : Option Addr) (nf c : Nat) (A2 : Option Addr) (n2 c2 : Nat) (w : World) (hfs : FdsAt w w.heap.size A nf c fs) (hds : DtsAt w w.heap.size A2 n2 c2 ds) (hr : RowFacts fs ds) :
    Calls Tryz.prog 33 #[.slice A nf c, .slice A2 n2 c2] w (GivesCols (shFields fs ds 0 0 0 0) (leaves fs) w) := by
  have HFS := Lib.hid hfs
  have HDS := Lib.hid hds
  have HR := Lib.hid hr
  have hlv := hr.leaves
  have hsz := hr.size
  have hll : n2 = nf := by
    obtain ⟨m, hm⟩ := hr.row
    have h1 := (rowGo_len _ _ _ _ hm).1
    have h2 := hfs.len.1
    have h3 := hds.len.1
    omega
  subst hll
  clear hfs hds hr
  have hmk := make_n (t := 49) (e := 26) Tryz.underlying49 info26 (leaves fs) (by omega) (by omega)
  go_enter Tryz.func33, Tryz.ntmps33
  go_wp2_with fail
  refine (leaves_all 1000000000 (Nat.le_refl _) fs A n2 c w (by omega) HFS.out).mono ?_
  rintro e w1 ⟨rfl, hb1⟩
  have HB1 := Lib.hid hb1
  clear hb1
  go_wp2_with fail
  obtain ⟨w2, hw2⟩ : ∃ w2, w2 = (w1.alloc (.cells (madeCells #[.slice none 0 0] (leaves fs)) 26)).alloc (.cells #[.slice (some ⟨w1.heap.size, 0, none⟩) (leaves fs) (leaves fs)] 94) := ⟨_, rfl⟩
  rw [← hw2]
  have hb2 : Below w.heap.size w w2 := by rw [hw2]; exact HB1.out.trans ((below_two w1 _ _).mono HB1.out.size)
  have hr1 : RowB w2 w1.heap.size 26 (madeCells #[.slice none 0 0] (leaves fs)) := by rw [hw2]; exact (RowB.new w1 26 _).alloc _
  have hr2 : RowB w2 (w1.heap.size + 1) 94 #[.slice (some ⟨w1.heap.size, 0, none⟩) (leaves fs) (leaves fs)] := by rw [hw2]; exact rowB_new (by rw [size_alloc1])
  have hS : ShW w2 w.heap.size w1.heap.size (leaves fs) (w1.heap.size + 1) [] (fun g => g = w1.heap.size + 1) := by
    refine ⟨⟨fun _ => .slice none 0 0, ⟨⟨_, hr1, by simp [madeCells], fun j hj => ?_⟩, HB1.out.size, fun j hj => ?_, fun i j _ _ _ g hg => by simp [Value.ownBlock] at hg⟩, by omega, fun j hj g hg => by simp [Value.ownBlock] at hg⟩, rfl, hr2.cell 0, fun g hg => by rw [hg]; exact hr2.lt, hb2.size⟩
    · rw [madeCells_get _ _ _ hj]
      simp [Nat.mod_one]
    · exact World.ownsRow_nil _ _ _ _
  obtain ⟨m, hm⟩ := HR.out.row
  have hcall := fieldsSh_all _ fs ds 0 m 0 A n2 c A2 c2 w.heap.size w1.heap.size (leaves fs) (w1.heap.size + 1) 0 0 0 0 [] _ w2 (Nat.le_refl _) HR.out.okl hm hS (HFS.out.mono hb2 (Nat.le_refl _)) (HDS.out.mono hb2 (Nat.le_refl _)) (by omega) (by omega) (by omega) (by omega) (by have := HR.out.len; simp only [List.nil_append]; omega)
  have HB2 := Lib.hid hb2
  have HR2 := Lib.hid hr2
  clear hb2 hr1 hS hm
  refine hcall.mono ?_
  rintro e w3 ⟨rfl, ⟨vs, hc, _, _⟩, hb3, hk3⟩
  have hr3 := HR2.out.of_eq (hk3 _ rfl)
  have m0 : w3.cell? ⟨w1.heap.size + 1, 0, none⟩ = some (.slice (some ⟨w1.heap.size, 0, none⟩) (leaves fs) (leaves fs)) := hr3.cell 0
  have HC := Lib.hid hc
  have HB3 := Lib.hid (HB2.out.trans hb3)
  clear hc hb3 hk3 hcall hr3 hr2 hw2
  go_wp2_with fail
  go_ret
  exact ⟨_, vs, rfl, HC.out, HB3.out⟩

set_option maxRecDepth 100000 in
set_option maxHeartbeats 4000000 in
theorem joined39 (B cb n : Nat) (log : List Cl) (vs : Nat → Value) (w : World) (hc : ColsC w B cb n log vs) (hne : ∀ j, j < n → colOf log j ≠ []) (hn : n ≤ 1000) (hlen : (parts (colOf log) n).length ≤ 1000000000) :
    Calls Tryz.prog 39 #[.slice (some ⟨cb, 0, none⟩) n n] w (GivesCls (parts (colOf log) n) w) := by
  have HC := Lib.hid hc
  have HNE := Lib.hid hne
  obtain ⟨i39, j1, j2, j3, j4⟩ := info_parts info39
  have J1 := Lib.hid j1
  have J2 := Lib.hid j2
  have J3 := Lib.hid j3
  have J4 := Lib.hid j4
  have hcbl := hc.lt
  clear hc hne j1 j2 j3 j4
  go_enter Tryz.func39, Tryz.ntmps39
  go_wp2_with fail
  go_loopw [3, 8] (fun v i wr => ∃ (j : Nat), j ≤ n ∧ i = .int .i64 j ∧ wr.ownsRow w.heap.size 39 7 v (parts (colOf log) j).length (clFlat (parts (colOf log) j)) ∧ Below w.heap.size w wr) (fun _ i _ => n - (intOf i).toNat)
  case atStart => exact ⟨0, Nat.zero_le _, rfl, World.ownsRow_nil _ _ _ _, Below.refl _ _⟩
  case round =>
    obtain ⟨j, hj, rfl, hown, hb5⟩ := hrel
    have HOWN := Lib.hid hown
    have HB5 := Lib.hid hb5
    clear hown
    by_cases hlt : j < n
    · have hcr := HC.out.keep hb5
      obtain ⟨m0, _⟩ := hcr.slot hlt
      have hoj := hcr.own j hlt
      obtain ⟨g, cap, hv, hg1, hg2⟩ := hoj.form (List.length_pos_iff.2 (HNE.out j hlt))
      rw [hv] at m0 hoj
      have HOJ := Lib.hid hoj
      have hj0 : (0 : Int) ≤ (j : Int) := Int.natCast_nonneg _
      have hj1 : (j : Int) < (n : Int) := by omega
      have hple := parts_length_le (colOf log) (show j + 1 ≤ n from hlt)
      have hps : (parts (colOf log) (j + 1)).length = (parts (colOf log) j).length + (colOf log j).length := by rw [parts_succ, List.length_append]
      have hsz := hb5.size
      clear hcr hb5 hoj hv
      go_wp2_with (at_builtin; refine wpList_append2 _ rfl _ _ 26 26 rfl w.heap.size 39 39 i39 _ 7 64 Tryz.underlying26 Tryz.underlying26 J1.out J2.out J3.out J4.out rfl (by decide) _ _ (clFlat (parts (colOf log) j)) (by rfl) HOWN.out ⟨g, 0, none⟩ (colOf log j).length cap (clFlat (colOf log j)) (by rfl) (clFlat_length _) (HOJ.out.cells rfl) (cls_one _) (by simp only [maxLen]; omega) (by omega) hsz ?_; intro v' w' hown' hgrow')
      have hb6 : Below w.heap.size w w' := HB5.out.trans (below_grownRow hgrow' hsz (fun k hk => (HOWN.out.lt k hk).1))
      refine ⟨⟨j + 1, by omega, by go_num, ?_, hb6⟩, by simp [intOf]; omega⟩
      rw [parts_succ, cls_append, List.length_append]
      exact hown'
    · obtain rfl : j = n := by omega
      go_wp2_with fail
      go_ret
      obtain ⟨A', c', rfl, hcls⟩ := clsAt_owns HOWN.out rfl
      exact ⟨A', c', rfl, hcls, HB5.out⟩

/-- The shredder's cells are the row's own. -/
theorem shred29 (fs : List Fd) (ds : List Dt) (A : Option Addr) (nf c : Nat) (A2 : Option Addr) (n2 c2 : Nat) (w : World) (hfs : FdsAt w w.heap.size A nf c fs) (hds : DtsAt w w.heap.size A2 n2 c2 ds) (hr : RowFacts fs ds) :
    Calls Tryz.prog 29 #[.slice A nf c, .slice A2 n2 c2] w (GivesCls (rowCells fs ds) w) := by
  have H33 := Lib.hid (columns33 fs ds A nf c A2 n2 c2 w hfs hds hr)
  have HR := Lib.hid hr
  clear hfs hds hr
  go_enter Tryz.func29, Tryz.ntmps29
  go_wp2_with fail
  refine H33.out.mono ?_
  rintro e w1 ⟨cb, vs, rfl, hc, hb1⟩
  have HB1 := Lib.hid hb1
  have H39 := Lib.hid (joined39 w.heap.size cb (leaves fs) (shFields fs ds 0 0 0 0) vs w1 hc (fun j hj => by
    have := ((shCols fs ds 0 0 0 0).blk j hj).ne
    rwa [Nat.zero_add] at this) (by have := HR.out.leaves; omega) HR.out.plen)
  clear hc hb1
  go_wp2_with fail
  refine H39.out.mono ?_
  rintro e w2 ⟨A', c', rfl, hcls, hb2⟩
  have HCLS := Lib.hid hcls
  have HB2 := Lib.hid (HB1.out.trans (hb2.mono HB1.out.size))
  clear hcls hb2
  go_wp2_with fail
  go_ret
  exact ⟨A', c', rfl, HCLS.out, HB2.out⟩
end Go.Proofs.YtglgclkgppomiaaGreat

namespace Go.Proofs.YtglgclkgppomiaaGreat
open Go Go.RowKit

theorem info3 : (Tryz.prog.info? 3).map (fun i => (i.zero, i.size, i.bytes)) = some (some (.int .i64 0), 1, 8) := by kernel_rfl
theorem own_kind {w : World} {B : Nat} {e : TypeId} {size : Nat} {v : Value} {n : Nat} {xs : List Value} (h : w.ownsRow B e size v n xs) : ∀ g, v.ownBlock = some g → ∃ c, w.heap[g]? = some (.cells c e (0, 0)) := fun g hg => by
  rcases h.2 with ⟨rfl, _⟩ | ⟨g', cap, cur, rfl, _, hgg, _⟩
  · simp [Value.ownBlock] at hg
  · simp [Value.ownBlock] at hg
    subst hg
    exact ⟨cur, hgg⟩

theorem own_less {w : World} {B B' : Nat} {e : TypeId} {size : Nat} {v : Value} {n : Nat} {xs : List Value} (h : w.ownsRow B e size v n xs) (hb : B' ≤ B) : w.ownsRow B' e size v n xs := by
  refine ⟨h.1, ?_⟩
  rcases h.2 with h' | ⟨g, cap, cur, hv, hg, rest⟩
  · exact .inl h'
  · exact .inr ⟨g, cap, cur, hv, Nat.le_trans hb hg, rest⟩
theorem rowIn_at {w : World} {lo B B' : Nat} {A : Option Addr} {n c : Nat} {cs : List Cl} (h : RowIn w lo B A n c cs) (hB : B ≤ B') : RowAt w B' A n c cs := by
  obtain ⟨h1, h2, h3⟩ := h
  refine ⟨h1, h2, fun hn => ?_⟩
  obtain ⟨b, o, hA, hb, h⟩ := h3 hn
  refine ⟨b, o, hA, by omega, fun i x hx => ?_⟩
  obtain ⟨D, dn, dc, u, hv, h0, h1, h2, h3, h4, h5⟩ := h i x hx
  exact ⟨D, dn, dc, u, hv.frame (fun _ _ _ => rfl) (Nat.zero_le _) hB, h0, h1, h2, h3, h4, h5⟩

set_option maxRecDepth 100000 in
set_option maxHeartbeats 4000000 in
theorem clos59 (j L b o p1 p2 lo Br B : Nat) (X : List Cl) (v1 v2 : Value) (xs1 xs2 : List Value) (w : World) (hp1 : RowB w p1 48 #[v1]) (hp2 : RowB w p2 49 #[v2]) (ho1 : w.ownsRow B 3 1 v1 j xs1) (ho2 : w.ownsRow B 26 1 v2 j xs2) (hp : p1 < lo ∧ p2 < lo ∧ p1 ≠ p2) (hlo : lo ≤ Br ∧ Br ≤ B)
    (hrow : RowIn w lo Br (some ⟨b, o, none⟩) L L X) (hok : ∀ x ∈ X, ClOk x) (hL : L ≤ 1000000000) (hB : B ≤ w.heap.size) (hj : j ≤ 1000) :
    Calls Tryz.prog 59 #[.int .i64 j, .slice (some ⟨b, o, none⟩) L L, .pointer (some ⟨p1, 0, none⟩), .pointer (some ⟨p2, 0, none⟩)] w fun e w' => e = .returned (.bool true) ∧ ∃ v1' v2' v,
      RowB w' p1 48 #[v1'] ∧ RowB w' p2 49 #[v2'] ∧ w'.ownsRow B 3 1 v1' (j + 1) (xs1 ++ [.int .i64 j]) ∧ w'.ownsRow B 26 1 v2' (j + 1) (xs2 ++ [v]) ∧ w'.ownsRow B 39 7 v L (clFlat X) ∧
      (w'.os = w.os ∧ w'.tape = w.tape ∧ w'.output = w.output ∧ w.heap.size ≤ w'.heap.size) ∧ (∀ q, q < w.heap.size → q ≠ p1 → q ≠ p2 → v1.ownBlock ≠ some q → v2.ownBlock ≠ some q → w'.heap[q]? = w.heap[q]?) := by
  have HP1 := Lib.hid hp1
  have HP2 := Lib.hid hp2
  have HO1 := Lib.hid ho1
  have HO2 := Lib.hid ho2
  have HROW := Lib.hid hrow
  have HOK := Lib.hid hok
  obtain ⟨A1, c1, hv1⟩ := own_slice ho1
  obtain ⟨A2, c2, hv2⟩ := own_slice ho2
  subst hv1 hv2
  have m1 : w.cell? ⟨p1, 0, none⟩ = some (.slice A1 j c1) := hp1.cell 0
  have hl1 := hp1.lt
  have hl2 := hp2.lt
  have hlt1 := HO1.out.lt
  have hlt2 := HO2.out.lt
  have hdis : ∀ q, (Value.slice A1 j c1).ownBlock = some q → (Value.slice A2 j c2).ownBlock ≠ some q := fun q h1 h2 => by
    obtain ⟨x1, k1⟩ := own_kind HO1.out q h1
    obtain ⟨x2, k2⟩ := own_kind HO2.out q h2
    rw [k1] at k2
    simp at k2
  obtain ⟨i3, j1, j2, j3, j4⟩ := info_parts info3
  have J1 := Lib.hid j1
  have J2 := Lib.hid j2
  have J3 := Lib.hid j3
  have J4 := Lib.hid j4
  obtain ⟨i26, q1, q2, q3, q4⟩ := info_parts info26
  have Q1 := Lib.hid q1
  have Q2 := Lib.hid q2
  have Q3 := Lib.hid q3
  have Q4 := Lib.hid q4
  have hs1 : ∀ o : Obj, B ≤ (w.alloc o).heap.size := fun o => by rw [size_alloc1]; omega
  have HS1 := Lib.hid hs1
  have hj0 : (0 : Int) ≤ (j : Int) := Int.natCast_nonneg _
  have HLT1 := Lib.hid hlt1
  have HLT2 := Lib.hid hlt2
  have HDIS := Lib.hid hdis
  have hb1 : p1 < B := by omega
  have hb2 : p2 < B := by omega
  clear hp1 hp2 ho1 ho2 hrow hok j1 j2 j3 j4 q1 q2 q3 q4 hs1 hlt1 hlt2 hdis
  go_enter Tryz.func59, Tryz.ntmps59
  go_wp2_with (at_builtin; refine wpList_append_lies _ rfl _ _ 48 rfl B 3 i3 _ 1 8 Tryz.underlying48 J1.out J2.out J3.out J4.out rfl (by decide) (.slice A1 j c1) j xs1 (by rfl) (HO1.out.alloc _) ⟨w.heap.size, 0, none⟩ 1 1 [.int .i64 j] (by rfl) rfl (World.news_of_block (heap_alloc_new w _)) (by simp [Value.oneCell']) (by decide) (by simp only [maxLen]; omega) (by omega) (HS1.out _) _ rfl ?_; intro g cap w7 hown7 hgrow hat7 hlt7; have HBLK : Hid (∀ q, q < w.heap.size → (Value.slice A1 j c1).ownBlock ≠ some q → w7.heap[q]? = w.heap[q]?) := Lib.hid (fun q hq hne => (hgrow.block q (by rw [size_alloc1]; omega) (fun he => hne he.symm)).trans (Below.heap_alloc w _ q hq)); have HOWN7 := Lib.hid hown7; have HGR := Lib.hid hgrow; have HSZ : Hid (w.heap.size + 1 ≤ w7.heap.size) := Lib.hid (by have := hgrow.size; rwa [size_alloc1] at this); have m2 : w7.cell? ⟨p1, 0, none⟩ = some (.slice A1 j c1) := (World.cell?_of_block (a := ⟨p1, 0, none⟩) (HBLK.out p1 hl1 (fun he => by have := (HLT1.out p1 he).1; omega))).trans m1; have m3 : w7.frozen? ⟨p1, 0, none⟩ = false := (World.frozen?_of_block (a := ⟨p1, 0, none⟩) (HBLK.out p1 hl1 (fun he => by have := (HLT1.out p1 he).1; omega))).trans (HP1.out.free 0); clear hown7 hgrow hat7 hlt7)
  obtain ⟨w8, hw8⟩ : ∃ w8, w8 = w7.setCell ⟨p1, 0, none⟩ (.slice (some ⟨g, 0, none⟩) (j + 1) cap) := ⟨_, rfl⟩
  rw [← hw8]
  have hg7 := HOWN7.out.lt g rfl
  have hsz := HSZ.out
  have hs8 : w8.heap.size = w7.heap.size := by rw [hw8, setCell_size]
  have hk8 : ∀ q, q ≠ p1 → w8.heap[q]? = w7.heap[q]? := fun q hq => by rw [hw8]; exact setCell_other _ _ _ hq
  have hkk : ∀ q, q < w.heap.size → q ≠ p1 → (Value.slice A1 j c1).ownBlock ≠ some q → w8.heap[q]? = w.heap[q]? := fun q h1 h2 h3 => (hk8 q h2).trans (HBLK.out q h1 h3)
  have hP1 : RowB w8 p1 48 #[.slice (some ⟨g, 0, none⟩) (j + 1) cap] := by
    rw [hw8]
    exact (HP1.out.of_eq (HBLK.out p1 hl1 (fun he => by have := (HLT1.out p1 he).1; omega))).set 0 _
  have hP2 : RowB w8 p2 49 #[.slice A2 j c2] := HP2.out.of_eq (hkk p2 hl2 (Ne.symm hp.2.2) (fun he => by have := (HLT1.out p2 he).1; omega))
  have hO1 : w8.ownsRow B 3 1 (.slice (some ⟨g, 0, none⟩) (j + 1) cap) (j + 1) (xs1 ++ [.int .i64 j]) := by
    rw [hw8]
    exact ownsRow_setCell_below HOWN7.out (a := ⟨p1, 0, none⟩) hb1 _
  have hO2 : w8.ownsRow B 26 1 (.slice A2 j c2) j xs2 := by
    rw [hw8]
    refine ownsRow_setCell_below ((HO2.out.alloc _).kept HGR.out ?_) (a := ⟨p1, 0, none⟩) hb1 _
    cases hv : (Value.slice A2 j c2).ownBlock with
    | none => exact .inl rfl
    | some q => exact .inr fun hq => HDIS.out q hq.symm hv
  have hR : RowIn w8 lo Br (some ⟨b, o, none⟩) L L X := HROW.out.frame (fun q h1 h2 => hkk q (by omega) (by omega) (fun he => by have := (HLT1.out q he).1; omega)) (Nat.le_refl _) (Nat.le_refl _)
  have HCALL := Lib.hid (cells47o X (some ⟨b, o, none⟩) L L w8.drew (rowIn_at (RowIn.frame (w := w8) (w' := w8.drew) (fun _ _ _ => rfl) (Nat.le_refl _) (Nat.le_refl _) hR) (by show Br ≤ w8.heap.size; omega)) HOK.out hL)
  have n0 : w8.cell? ⟨p2, 0, none⟩ = some (.slice A2 j c2) := hP2.cell 0
  have HPP1 := Lib.hid hP1
  have HPP2 := Lib.hid hP2
  have HOO1 := Lib.hid hO1
  have HOO2 := Lib.hid hO2
  have HKK := Lib.hid hkk
  have hos : w8.os = w.os ∧ w8.tape = w.tape ∧ w8.output = w.output := by rw [hw8]; exact ⟨HGR.out.os, HGR.out.tape, HGR.out.output⟩
  have HOS := Lib.hid hos
  have hl28 := hP2.lt
  clear hP1 hP2 hO1 hO2 hkk hos hR hk8 hw8
  refine Upto.region (m := 5) (S := (fun w' => w'.cell? ⟨p2, 0, none⟩ = some (.slice A2 j c2))) (by kernel_rfl) n0 (fun hHeld => ?_)
  refine Upto.take (i := 0) (v := ?_) at0 (by kernel_rfl) (by kernel_rfl) (by kernel_rfl) (by kernel_rfl) (fun _ _ _ h => h) (by rfl) ?_ hHeld ?_
  rotate_left
  · intro w hSw
    try dsimp only at hSw
    go_simp
    try with_reducible rfl
  try simp only [Act.put, List.setIfInBounds_toArray, List.set_cons_zero, List.set_cons_succ]
  refine Upto.take (i := 1) (v := ?_) at1 (by kernel_rfl) (by kernel_rfl) (by kernel_rfl) (by kernel_rfl) (fun _ _ _ h => h) (by rfl) ?_ hHeld ?_
  rotate_left
  · intro w hSw
    try dsimp only at hSw
    go_simp
    try with_reducible rfl
  try simp only [Act.put, List.setIfInBounds_toArray, List.set_cons_zero, List.set_cons_succ]
  refine Upto.step (i := 2) (by kernel_rfl) at2 (fun K' hK => ?_)
  go_simp
  go_at_call 47
  refine HCALL.out.mono ?_
  rintro e w9 ⟨v, rfl, hv, hb9⟩
  obtain ⟨Av, cv, rfl⟩ := own_slice hv
  have hbb : Below w8.heap.size w8 w9 := below_of_drew hb9
  have n1 : w9.cell? ⟨p2, 0, none⟩ = some (.slice A2 j c2) := (bcell hbb hl28).trans n0
  have HB9 := Lib.hid hbb
  have HVO := Lib.hid (own_less hv (show B ≤ w8.drew.heap.size by show B ≤ w8.heap.size; omega))
  clear hv hb9 hbb
  try go_wp2_with fail
  refine hK.out _ _ (.inr n1) (fun _ => ?_)
  clear hK K'
  replace hHeld := n1
  try simp only [Act.put, List.setIfInBounds_toArray, List.set_cons_zero, List.set_cons_succ]
  refine Upto.step (i := 3) (by kernel_rfl) at3 (fun K' hK => ?_)
  go_simp
  have hs9 : w8.heap.size ≤ w9.heap.size := HB9.out.size
  have n2 : (w9.alloc (.cells #[.slice Av L cv] 26)).cell? ⟨p2, 0, none⟩ = some (.slice A2 j c2) := (cold (by omega)).trans n1
  refine hK.out _ _ (.inr n2) (fun _ => ?_)
  clear hK K'
  replace hHeld := n2
  try simp only [Act.put, List.setIfInBounds_toArray, List.set_cons_zero, List.set_cons_succ]
  refine Upto.step (i := 4) (by kernel_rfl) at4 (fun K' hK => ?_)
  have hs10 : B ≤ (w9.alloc (.cells #[.slice Av L cv] 26)).heap.size := by rw [size_alloc1]; omega
  have HOA := Lib.hid ((own_below HOO2.out HB9.out).alloc (.cells #[.slice Av L cv] 26))
  refine step_append_lies _ (by rfl) _ _ 49 (by rfl) B 26 i26 _ 1 24 Tryz.underlying49 Q1.out Q2.out Q3.out Q4.out rfl (by decide) (.slice A2 j c2) j xs2 (by rfl) HOA.out ⟨w9.heap.size, 0, none⟩ 1 1 [.slice Av L cv] (by rfl) rfl (World.news_of_block (heap_alloc_new w9 _)) (by simp [Value.oneCell']) (by decide) (by simp only [maxLen]; omega) (by omega) hs10 _ rfl ?_
  intro g2 cap2 w10 hown10 hgrow10 hat10 hlt10
  have hk10 : ∀ q, q < w9.heap.size → (Value.slice A2 j c2).ownBlock ≠ some q → w10.heap[q]? = w9.heap[q]? := fun q hq hne => (hgrow10.block q (by rw [size_alloc1]; omega) (fun he => hne he.symm)).trans (Below.heap_alloc w9 _ q hq)
  have hp10 := hk10 p2 (by omega) (fun he => by have := (HLT2.out p2 he).1; omega)
  have n3 : w10.cell? ⟨p2, 0, none⟩ = some (.slice A2 j c2) := (World.cell?_of_block (a := ⟨p2, 0, none⟩) hp10).trans n1
  have n4 : w10.frozen? ⟨p2, 0, none⟩ = false := (World.frozen?_of_block (a := ⟨p2, 0, none⟩) (hp10.trans (HB9.out.block p2 hl28))).trans (HPP2.out.free 0)
  refine hK.out _ _ (.inr n3) (fun _ => ?_)
  clear hK K'
  replace hHeld := n3
  try simp only [Act.put, List.setIfInBounds_toArray, List.set_cons_zero, List.set_cons_succ]
  refine Upto.step (i := 5) (by kernel_rfl) at5 (fun K' hK => ?_)
  go_simp
  refine hK.out _ _ (.inl rfl) (fun _ => ?_)
  clear hK K'
  try simp only [Act.put, List.setIfInBounds_toArray, List.set_cons_zero, List.set_cons_succ]
  refine Upto.done (by kernel_rfl) ?_ _
  have hs11 : w9.heap.size + 1 ≤ w10.heap.size := by have := hgrow10.size; rwa [size_alloc1] at this
  have hblk : ∀ q, q ≠ p2 → q < w8.heap.size → (Value.slice A2 j c2).ownBlock ≠ some q → (w10.setCell ⟨p2, 0, none⟩ (.slice (some ⟨g2, 0, none⟩) (j + 1) cap2)).heap[q]? = w8.heap[q]? := fun q h1 h2 h3 =>
    (setCell_other (b := q) w10 ⟨p2, 0, none⟩ _ h1).trans ((hk10 q (by omega) h3).trans (HB9.out.block q h2))
  have HBK := Lib.hid hblk
  have HO10 := Lib.hid hown10
  have HG10 := Lib.hid hgrow10
  have HP10 := Lib.hid hp10
  clear hblk hown10 hgrow10 hat10 hlt10 hk10 hp10
  go_wp2_with fail
  go_ret
  refine ⟨rfl, _, HPP1.out.of_eq (HBK.out p1 hp.2.2 HPP1.out.lt (fun he => by have := (HLT2.out p1 he).1; omega)), _, (HPP2.out.of_eq (HP10.out.trans (HB9.out.block p2 hl28))).set 0 _, ?_, .slice Av L cv, ownsRow_setCell_below HO10.out (a := ⟨p2, 0, none⟩) hb2 _, ?_, ⟨?_, ?_, ?_, ?_⟩, ?_⟩
  · have h1 := (own_below HOO1.out HB9.out).alloc (.cells #[.slice Av L cv] 26)
    refine ownsRow_setCell_below (h1.kept HG10.out (.inr fun he => ?_)) (a := ⟨p2, 0, none⟩) hb2 _
    obtain ⟨x1, k1⟩ := own_kind HOO1.out g rfl
    obtain ⟨x2, k2⟩ := own_kind HOO2.out g he.symm
    rw [k1] at k2
    simp at k2
  · have h1 := HVO.out.alloc (.cells #[.slice Av L cv] 26)
    refine ownsRow_setCell_below (h1.kept HG10.out ?_) (a := ⟨p2, 0, none⟩) hb2 _
    cases hv : (Value.slice Av L cv).ownBlock with
    | none => exact .inl rfl
    | some q =>
      refine .inr fun he => ?_
      obtain ⟨x1, k1⟩ := own_kind HVO.out q hv
      obtain ⟨x2, k2⟩ := own_kind (own_below HOO2.out HB9.out) q he.symm
      rw [k1] at k2
      simp at k2
  · exact HG10.out.os.trans (HB9.out.os.trans HOS.out.1)
  · exact HG10.out.tape.trans (HB9.out.tape.trans HOS.out.2.1)
  · exact HG10.out.output.trans (HB9.out.output.trans HOS.out.2.2)
  · rw [setCell_size]; omega
  · exact fun q h1 h2 h3 h4 h5 => (HBK.out q h3 (by omega) h5).trans (HKK.out q h1 h2 h4)
end Go.Proofs.YtglgclkgppomiaaGreat
