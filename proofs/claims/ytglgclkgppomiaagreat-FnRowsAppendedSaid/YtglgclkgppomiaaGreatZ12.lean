/- A region that draws its order and whose last operation waits for all others: a condition on the world that need not hold behind that last one. -/
import Derived.Test.YtglgclkgppomiaaGreatZ02
import Derived.Deep.RegionHeld3
set_option linter.unusedVariables false
set_option linter.unusedSimpArgs false
namespace Go.Proofs.YtglgclkgppomiaaGreat
open Go Go.RowKit
section
variable {P : Program} {ops : Array Oper} {Q : Exit → Act → World → Prop} {md : Region.Mode} {S : World → Prop} {m : Nat}
/-- Whatever comes up, S holds behind it, but for number m. -/
def Upto (P : Program) (md : Region.Mode) (ops : Array Oper) (Q : Exit → Act → World → Prop) (S : World → Prop) (m : Nat) : Nat → Array Bool → Act → World → Prop
  | 0, L, a, w => Region.ready md ops L = [] ∧ Q .normal a w
  | n + 1, L, a, w => (Region.ready md ops L = [] → Q .normal a w) ∧ ∀ i ∈ Region.ready md ops L, wpOp P ops Q i (fun a' w' => (i = m ∨ S w') ∧ Upto P md ops Q S m n (L.setIfInBounds i true) a' w') a w
theorem Upto.any : ∀ (n : Nat) (L : Array Bool) (a : Act) (w : World), Upto P md ops Q S m n L a w → wpAny P md ops Q n L a w
  | 0, _, _, _, h => h
  | n + 1, _, _, _, h => ⟨h.1, fun i hi => wpOp_mono (fun a' w' h' => Upto.any n _ a' w' h'.2) (h.2 i hi)⟩
/-- Does number m wait for number i? -/
def waitsFor (md : Region.Mode) (ops : Array Oper) (m i : Nat) : Bool := match ops[m]? with
  | none => false
  | some o => o.after.toList.any fun e => Region.binds md e && e.on == i
theorem not_ready_of_waits {i : Nat} {L : Array Bool} (h : waitsFor md ops m i = true) (hL : L.getD i false = false) : m ∉ Region.ready md ops L := fun hm => by
  obtain ⟨_, o, ho, hall⟩ := mem_ready.1 hm
  unfold waitsFor at h
  rw [ho] at h
  simp only [List.any_eq_true, Bool.and_eq_true, beq_iff_eq] at h
  obtain ⟨e, he, hb, hi⟩ := h
  have := hall e (by simpa using he) hb
  rw [hi, hL] at this
  cases this
theorem getD_flip {i : Nat} {L : Array Bool} (h : L.getD i true = false) : L.getD i false = false := by
  rcases Nat.lt_or_ge i L.size with h' | h'
  · simp [h'] at h ⊢; exact h
  · simp [Array.getElem?_eq_none h'] at h
theorem Upto.first {i : Nat} {oi : Oper} {v : Value} (hi : ops[i]? = some oi) (hsel : ∀ (j : Nat) (o : Oper) cs b, ops[j]? = some o → o.op ≠ .select cs b) (hQ : ∀ c a w, Q (.panic c) (a.put oi.dst v) w → Q (.panic c) a w) (hwt : waitsFor md ops m i = true) :
    ∀ (n : Nat) (L : Array Bool) (a : Act) (w : World), (∀ j oj, ops[j]? = some oj → j ≠ i → L.getD j true = false → (∀ e ∈ oj.after, Region.binds md e = true → e.on ≠ i) → oi.apart ops oj = true) →
      i ∈ Region.ready md ops L → YieldsIf P ops S oi v a → S w → Upto P md ops Q S m n (L.setIfInBounds i true) (a.put oi.dst v) w → Upto P md ops Q S m (n + 1) L a w := by
  intro n
  induction n with
  | zero =>
    intro L a w _ hr hy hS H
    refine ⟨fun h => (by rw [h] at hr; cases hr), fun j hj => ?_⟩
    by_cases hji : j = i
    · subst hji; exact hy.wpOp hi hS ⟨.inr hS, H⟩
    · have := ready_mono hj hji
      rw [H.1] at this
      cases this
  | succ n ih =>
    intro L a w hfree hr hy hS H
    refine ⟨fun h => (by rw [h] at hr; cases hr), fun j hj => ?_⟩
    by_cases hji : j = i
    · subst hji; exact hy.wpOp hi hS ⟨.inr hS, H⟩
    · have hLi : L.getD i false = false := getD_flip (mem_ready.1 hr).1
      have hjm : j ≠ m := fun h => by subst h; exact not_ready_of_waits hwt hLi hj
      obtain ⟨hjun, oj, hoj, hall⟩ := mem_ready.1 hj
      have hnot : ∀ e ∈ oj.after, Region.binds md e = true → e.on ≠ i := fun e he hb heq => by
        have h1 := hall e he hb
        rw [heq, hLi] at h1
        cases h1
      have h2 := wpOp_putIf hoj (hfree j oj hoj hji hjun hnot) (fun cs b => hsel i oi cs b hi) (fun cs b => hsel j oj cs b hoj) hQ hy (H.2 j (ready_mono hj hji))
      have hfree' : ∀ k ok, ops[k]? = some ok → k ≠ i → (L.setIfInBounds j true).getD k true = false → (∀ e ∈ ok.after, Region.binds md e = true → e.on ≠ i) → oi.apart ops ok = true := fun k ok hk hki hun hno => by
        refine hfree k ok hk hki ?_ hno
        by_cases hjk : j = k
        · subst hjk; exact hjun
        · rw [getD_set_ne true hjk] at hun; exact hun
      refine wpOp_mono (fun a' w' h3 => ?_) h2
      have hS' : S w' := h3.2.1.resolve_left hjm
      refine ⟨h3.2.1, ih (L.setIfInBounds j true) a' w' hfree' (ready_mono hr (Ne.symm hji)) h3.1 hS' ?_⟩
      rw [Array.setIfInBounds_comm _ _ hji]
      exact h3.2.2
/-- Number i is taken first. -/
theorem Upto.take {i : Nat} {oi : Oper} {v : Value} {n : Nat} {L : Array Bool} {a : Act} {w : World} (hi : ops[i]? = some oi) (hs : Region.noSelect ops = true) (hf : Region.free md ops L i = true) (hr : (Region.ready md ops L).contains i = true) (hwt : waitsFor md ops m i = true)
    (hQ : ∀ c a w, Q (.panic c) (a.put oi.dst v) w → Q (.panic c) a w) (hw : Region.wanted oi (yielded ops a.tmps) = true) (hy : ∀ w, S w → (execOp a.eval oi).run P w = .ok (.value v) w) (hS : S w)
    (h : Upto P md ops Q S m n (L.setIfInBounds i true) (a.put oi.dst v) w) : Upto P md ops Q S m (n + 1) L a w :=
  Upto.first hi (Region.noSelect_spec hs) hQ hwt n L a w (Region.free_spec hi hf) (by simpa using hr) (.inl ⟨hw, hy⟩) hS h
/-- Number i alone may come up. -/
theorem Upto.step {i : Nat} {o : Oper} {n : Nat} {L : Array Bool} {a : Act} {w : World} (hr : Region.ready md ops L = [i]) (ho : ops[i]? = some o)
    (h : ∀ K' : Act → World → Prop, Shut (∀ a' w', (i = m ∨ S w') → ((i = m ∨ S w') → Upto P md ops Q S m n (L.setIfInBounds i true) a' w') → K' a' w') → if Region.wanted o (yielded ops a.tmps) = true then Oper.wp P o a w K' Q else K' (a.put o.dst undef) w) : Upto P md ops Q S m (n + 1) L a w := by
  refine ⟨fun h0 => (by rw [hr] at h0; cases h0), fun j hj => ?_⟩
  rw [hr] at hj
  obtain rfl : j = i := by simpa using hj
  exact wpOp_step ho (fun K' hK => h K' (fun a w hS hW => hK a w ⟨hS, hW hS⟩))
theorem Upto.done {L : Array Bool} {a : Act} {w : World} (hr : Region.ready md ops L = []) (h : Q .normal a w) : ∀ n, Upto P md ops Q S m n L a w
  | 0 => ⟨hr, h⟩
  | _ + 1 => ⟨fun _ => h, by rw [hr]; simp⟩
theorem Upto.region {id : Nat} {a : Act} {w : World} (hm : P.follows .mixedOrders = true) (hS : S w.drew) (h : S w.drew → Upto P .any ops Q S m ops.size (Array.replicate ops.size false) a w.drew) : (Code.region id ops true).wp P Q a w :=
  wp_region_any hm (Upto.any _ _ _ _ (h hS))
end
section
variable {o0 o1 o2 o3 o4 o5 o6 o7 o8 o9 o10 o11 : Oper} {r : List Oper}
theorem at0 : (List.toArray (o0 :: r))[0]? = some o0 := rfl
theorem at1 : (List.toArray (o0 :: o1 :: r))[1]? = some o1 := rfl
theorem at2 : (List.toArray (o0 :: o1 :: o2 :: r))[2]? = some o2 := rfl
theorem at3 : (List.toArray (o0 :: o1 :: o2 :: o3 :: r))[3]? = some o3 := rfl
theorem at4 : (List.toArray (o0 :: o1 :: o2 :: o3 :: o4 :: r))[4]? = some o4 := rfl
theorem at5 : (List.toArray (o0 :: o1 :: o2 :: o3 :: o4 :: o5 :: r))[5]? = some o5 := rfl
theorem at6 : (List.toArray (o0 :: o1 :: o2 :: o3 :: o4 :: o5 :: o6 :: r))[6]? = some o6 := rfl
theorem at7 : (List.toArray (o0 :: o1 :: o2 :: o3 :: o4 :: o5 :: o6 :: o7 :: r))[7]? = some o7 := rfl
theorem at8 : (List.toArray (o0 :: o1 :: o2 :: o3 :: o4 :: o5 :: o6 :: o7 :: o8 :: r))[8]? = some o8 := rfl
theorem at9 : (List.toArray (o0 :: o1 :: o2 :: o3 :: o4 :: o5 :: o6 :: o7 :: o8 :: o9 :: r))[9]? = some o9 := rfl
theorem at10 : (List.toArray (o0 :: o1 :: o2 :: o3 :: o4 :: o5 :: o6 :: o7 :: o8 :: o9 :: o10 :: r))[10]? = some o10 := rfl
theorem at11 : (List.toArray (o0 :: o1 :: o2 :: o3 :: o4 :: o5 :: o6 :: o7 :: o8 :: o9 :: o10 :: o11 :: r))[11]? = some o11 := rfl
end
end Go.Proofs.YtglgclkgppomiaaGreat
