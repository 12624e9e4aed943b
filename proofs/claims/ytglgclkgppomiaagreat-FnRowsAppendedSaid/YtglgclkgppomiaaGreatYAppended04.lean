/- As RG: either of two may come up; the condition made stronger on the way. As RG: a condition on the world that holds until that operation is done; an operation that reads nothing may be taken at any time. As RG: operations up to number 25. -/
import Derived.Test.YtglgclkgppomiaaGreatZ12
set_option linter.unusedVariables false
set_option linter.unusedSimpArgs false
namespace Go.Proofs.YtglgclkgppomiaaGreat
open Go Go.RowKit
section
variable {P : Program} {ops : Array Oper} {Q : Exit → Act → World → Prop} {md : Region.Mode} {S S' : World → Prop} {m : Nat}
theorem Upto.weak (hS : ∀ w, S' w → S w) : ∀ (n : Nat) (L : Array Bool) (a : Act) (w : World), Upto P md ops Q S' m n L a w → Upto P md ops Q S m n L a w
  | 0, _, _, _, h => h
  | n + 1, _, _, _, h => ⟨h.1, fun i hi => wpOp_mono (fun a' w' h' => ⟨h'.1.imp_right (hS w'), Upto.weak hS n _ a' w' h'.2⟩) (h.2 i hi)⟩
/-- Either of two may come up. -/
theorem Upto.two {i k : Nat} {o o' : Oper} {n : Nat} {L : Array Bool} {a : Act} {w : World} (hr : Region.ready md ops L = [i, k]) (ho : ops[i]? = some o) (ho' : ops[k]? = some o')
    (h : ∀ K' : Act → World → Prop, Shut (∀ a' w', (i = m ∨ S w') → ((i = m ∨ S w') → Upto P md ops Q S m n (L.setIfInBounds i true) a' w') → K' a' w') → if Region.wanted o (yielded ops a.tmps) = true then Oper.wp P o a w K' Q else K' (a.put o.dst undef) w)
    (h' : ∀ K' : Act → World → Prop, Shut (∀ a' w', (k = m ∨ S w') → ((k = m ∨ S w') → Upto P md ops Q S m n (L.setIfInBounds k true) a' w') → K' a' w') → if Region.wanted o' (yielded ops a.tmps) = true then Oper.wp P o' a w K' Q else K' (a.put o'.dst undef) w) : Upto P md ops Q S m (n + 1) L a w := by
  refine ⟨fun h0 => (by rw [hr] at h0; cases h0), fun j hj => ?_⟩
  rw [hr] at hj
  simp only [List.mem_cons, List.not_mem_nil, or_false] at hj
  rcases hj with rfl | rfl
  · exact wpOp_step ho (fun K' hK => h K' (fun a w hS hW => hK a w ⟨hS, hW hS⟩))
  · exact wpOp_step ho' (fun K' hK => h' K' (fun a w hS hW => hK a w ⟨hS, hW hS⟩))
end
end Go.Proofs.YtglgclkgppomiaaGreat

namespace Go.Proofs.YtglgclkgppomiaaGreat
open Go Go.RowKit
section
variable {P : Program} {ops : Array Oper} {Q : Exit → Act → World → Prop} {md : Region.Mode} {S : World → Prop} {m : Nat}
/-- Whatever comes up, S holds behind it, until number m is done. -/
def Til (P : Program) (md : Region.Mode) (ops : Array Oper) (Q : Exit → Act → World → Prop) (S : World → Prop) (m : Nat) : Nat → Array Bool → Act → World → Prop
  | 0, L, a, w => Region.ready md ops L = [] ∧ Q .normal a w
  | n + 1, L, a, w => (Region.ready md ops L = [] → Q .normal a w) ∧ ∀ i ∈ Region.ready md ops L, wpOp P ops Q i (fun a' w' => ((L.setIfInBounds i true).getD m false = true ∨ S w') ∧ Til P md ops Q S m n (L.setIfInBounds i true) a' w') a w
theorem Til.any : ∀ (n : Nat) (L : Array Bool) (a : Act) (w : World), Til P md ops Q S m n L a w → wpAny P md ops Q n L a w
  | 0, _, _, _, h => h
  | n + 1, _, _, _, h => ⟨h.1, fun i hi => wpOp_mono (fun a' w' h' => Til.any n _ a' w' h'.2) (h.2 i hi)⟩
theorem getD_after {L : Array Bool} {i m : Nat} (h : L.getD m false = true) : (L.setIfInBounds i true).getD m false = true := by
  rcases Nat.lt_or_ge m L.size with h' | h'
  · by_cases hi : i = m
    · subst hi; simp [h']
    · rw [getD_set_ne false hi]; exact h
  · simp [Array.getElem?_eq_none h'] at h
theorem not_after {L : Array Bool} {j m : Nat} (hj : j ≠ m) (h : L.getD m false = false) : (L.setIfInBounds j true).getD m false = false := by
  rw [getD_set_ne false hj]; exact h
theorem Til.first {i : Nat} {oi : Oper} {v : Value} (hi : ops[i]? = some oi) (hsel : ∀ (j : Nat) (o : Oper) cs b, ops[j]? = some o → o.op ≠ .select cs b) (hQ : ∀ c a w, Q (.panic c) (a.put oi.dst v) w → Q (.panic c) a w) (hwt : waitsFor md ops m i = true) (him : i ≠ m) :
    ∀ (n : Nat) (L : Array Bool) (a : Act) (w : World), (∀ j oj, ops[j]? = some oj → j ≠ i → L.getD j true = false → (∀ e ∈ oj.after, Region.binds md e = true → e.on ≠ i) → oi.apart ops oj = true) →
      i ∈ Region.ready md ops L → YieldsIf P ops S oi v a → L.getD m false = false → S w → Til P md ops Q S m n (L.setIfInBounds i true) (a.put oi.dst v) w → Til P md ops Q S m (n + 1) L a w := by
  intro n
  induction n with
  | zero =>
    intro L a w hfree hr hy hm0 hS H
    refine ⟨fun h => (by rw [h] at hr; cases hr), fun j hj => ?_⟩
    by_cases hji : j = i
    · subst hji; exact hy.wpOp hi hS ⟨.inr hS, H⟩
    · have := ready_mono hj hji
      rw [H.1] at this
      cases this
  | succ n ih =>
    intro L a w hfree hr hy hm0 hS H
    refine ⟨fun h => (by rw [h] at hr; cases hr), fun j hj => ?_⟩
    by_cases hji : j = i
    · subst hji; exact hy.wpOp hi hS ⟨.inr hS, H⟩
    · have hLi : L.getD i false = false := getD_flip (mem_ready.1 hr).1
      have hjm : j ≠ m := fun h => by subst h; exact not_ready_of_waits hwt hLi hj
      obtain ⟨hjun, oj, hoj, hall⟩ := mem_ready.1 hj
      have hnot : ∀ e ∈ oj.after, Region.binds md e = true → e.on ≠ i := fun e he hb heq => by
        have h1 := hall e he hb
        rw [heq, hLi] at h1
        cases h1
      have h2 := wpOp_putIf hoj (hfree j oj hoj hji hjun hnot) (fun cs b => hsel i oi cs b hi) (fun cs b => hsel j oj cs b hoj) hQ hy (H.2 j (ready_mono hj hji))
      have hfree' : ∀ k ok, ops[k]? = some ok → k ≠ i → (L.setIfInBounds j true).getD k true = false → (∀ e ∈ ok.after, Region.binds md e = true → e.on ≠ i) → oi.apart ops ok = true := fun k ok hk hki hun hno => by
        refine hfree k ok hk hki ?_ hno
        by_cases hjk : j = k
        · subst hjk; exact hjun
        · rw [getD_set_ne true hjk] at hun; exact hun
      refine wpOp_mono (fun a' w' h3 => ?_) h2
      have hm1 := not_after hjm hm0
      have hS' : S w' := h3.2.1.resolve_left fun h => by
        rw [getD_set_ne false hjm, getD_set_ne false him, hm0] at h; cases h
      refine ⟨.inr hS', ih (L.setIfInBounds j true) a' w' hfree' (ready_mono hr (Ne.symm hji)) h3.1 hm1 hS' ?_⟩
      rw [Array.setIfInBounds_comm _ _ hji]
      exact h3.2.2
theorem Til.pureFirst {i : Nat} {oi : Oper} {v : Value} (hi : ops[i]? = some oi) (hsel : ∀ (j : Nat) (o : Oper) cs b, ops[j]? = some o → o.op ≠ .select cs b) (hQ : ∀ c a w, Q (.panic c) (a.put oi.dst v) w → Q (.panic c) a w) (him : i ≠ m) :
    ∀ (n : Nat) (L : Array Bool) (a : Act) (w : World), (∀ j oj, ops[j]? = some oj → j ≠ i → L.getD j true = false → (∀ e ∈ oj.after, Region.binds md e = true → e.on ≠ i) → oi.apart ops oj = true) →
      i ∈ Region.ready md ops L → YieldsIf P ops (fun _ => True) oi v a → (L.getD m false = true ∨ S w) → Til P md ops Q S m n (L.setIfInBounds i true) (a.put oi.dst v) w → Til P md ops Q S m (n + 1) L a w := by
  intro n
  induction n with
  | zero =>
    intro L a w hfree hr hy hS H
    refine ⟨fun h => (by rw [h] at hr; cases hr), fun j hj => ?_⟩
    by_cases hji : j = i
    · subst hji; exact hy.wpOp hi trivial ⟨hS.imp_left getD_after, H⟩
    · have := ready_mono hj hji
      rw [H.1] at this
      cases this
  | succ n ih =>
    intro L a w hfree hr hy hS H
    refine ⟨fun h => (by rw [h] at hr; cases hr), fun j hj => ?_⟩
    by_cases hji : j = i
    · subst hji; exact hy.wpOp hi trivial ⟨hS.imp_left getD_after, H⟩
    · have hLi : L.getD i false = false := getD_flip (mem_ready.1 hr).1
      obtain ⟨hjun, oj, hoj, hall⟩ := mem_ready.1 hj
      have hnot : ∀ e ∈ oj.after, Region.binds md e = true → e.on ≠ i := fun e he hb heq => by
        have h1 := hall e he hb
        rw [heq, hLi] at h1
        cases h1
      have h2 := wpOp_putIf hoj (hfree j oj hoj hji hjun hnot) (fun cs b => hsel i oi cs b hi) (fun cs b => hsel j oj cs b hoj) hQ hy (H.2 j (ready_mono hj hji))
      have hfree' : ∀ k ok, ops[k]? = some ok → k ≠ i → (L.setIfInBounds j true).getD k true = false → (∀ e ∈ ok.after, Region.binds md e = true → e.on ≠ i) → oi.apart ops ok = true := fun k ok hk hki hun hno => by
        refine hfree k ok hk hki ?_ hno
        by_cases hjk : j = k
        · subst hjk; exact hjun
        · rw [getD_set_ne true hjk] at hun; exact hun
      refine wpOp_mono (fun a' w' h3 => ?_) h2
      have hS' : (L.setIfInBounds j true).getD m false = true ∨ S w' := h3.2.1.imp_left fun h => by
        rw [Array.setIfInBounds_comm _ _ (Ne.symm hji)] at h
        rwa [getD_set_ne false him] at h
      refine ⟨hS', ih (L.setIfInBounds j true) a' w' hfree' (ready_mono hr (Ne.symm hji)) h3.1 hS' ?_⟩
      rw [Array.setIfInBounds_comm _ _ hji]
      exact h3.2.2
/-- Number i is taken first: it reads the world as S tells it. -/
theorem Til.take {i : Nat} {oi : Oper} {v : Value} {n : Nat} {L : Array Bool} {a : Act} {w : World} (hi : ops[i]? = some oi) (hs : Region.noSelect ops = true) (hf : Region.free md ops L i = true) (hr : (Region.ready md ops L).contains i = true) (hwt : waitsFor md ops m i = true) (him : (i == m) = false) (hLm : L.getD m false = false)
    (hQ : ∀ c a w, Q (.panic c) (a.put oi.dst v) w → Q (.panic c) a w) (hw : Region.wanted oi (yielded ops a.tmps) = true) (hy : ∀ w, S w → (execOp a.eval oi).run P w = .ok (.value v) w) (hS : S w)
    (h : Til P md ops Q S m n (L.setIfInBounds i true) (a.put oi.dst v) w) : Til P md ops Q S m (n + 1) L a w :=
  Til.first hi (Region.noSelect_spec hs) hQ hwt (by simpa using him) n L a w (Region.free_spec hi hf) (by simpa using hr) (.inl ⟨hw, hy⟩) hLm hS h
/-- Number i is taken first: it reads nothing of the world. -/
theorem Til.pure {i : Nat} {oi : Oper} {v : Value} {n : Nat} {L : Array Bool} {a : Act} {w : World} (hi : ops[i]? = some oi) (hs : Region.noSelect ops = true) (hf : Region.free md ops L i = true) (hr : (Region.ready md ops L).contains i = true) (him : (i == m) = false)
    (hQ : ∀ c a w, Q (.panic c) (a.put oi.dst v) w → Q (.panic c) a w) (hw : Region.wanted oi (yielded ops a.tmps) = true) (hy : ∀ w, (execOp a.eval oi).run P w = .ok (.value v) w) (hS : L.getD m false = true ∨ S w)
    (h : Til P md ops Q S m n (L.setIfInBounds i true) (a.put oi.dst v) w) : Til P md ops Q S m (n + 1) L a w :=
  Til.pureFirst hi (Region.noSelect_spec hs) hQ (by simpa using him) n L a w (Region.free_spec hi hf) (by simpa using hr) (.inl ⟨hw, fun w _ => hy w⟩) hS h
/-- Number i alone may come up. -/
theorem Til.step {i : Nat} {o : Oper} {n : Nat} {L : Array Bool} {a : Act} {w : World} (hr : Region.ready md ops L = [i]) (ho : ops[i]? = some o)
    (h : ∀ K' : Act → World → Prop, Shut (∀ a' w', ((L.setIfInBounds i true).getD m false = true ∨ S w') → (((L.setIfInBounds i true).getD m false = true ∨ S w') → Til P md ops Q S m n (L.setIfInBounds i true) a' w') → K' a' w') → if Region.wanted o (yielded ops a.tmps) = true then Oper.wp P o a w K' Q else K' (a.put o.dst undef) w) : Til P md ops Q S m (n + 1) L a w := by
  refine ⟨fun h0 => (by rw [hr] at h0; cases h0), fun j hj => ?_⟩
  rw [hr] at hj
  obtain rfl : j = i := by simpa using hj
  exact wpOp_step ho (fun K' hK => h K' (fun a w hS hW => hK a w ⟨hS, hW hS⟩))
/-- Either of two may come up. -/
theorem Til.two {i k : Nat} {o o' : Oper} {n : Nat} {L : Array Bool} {a : Act} {w : World} (hr : Region.ready md ops L = [i, k]) (ho : ops[i]? = some o) (ho' : ops[k]? = some o')
    (h : ∀ K' : Act → World → Prop, Shut (∀ a' w', ((L.setIfInBounds i true).getD m false = true ∨ S w') → (((L.setIfInBounds i true).getD m false = true ∨ S w') → Til P md ops Q S m n (L.setIfInBounds i true) a' w') → K' a' w') → if Region.wanted o (yielded ops a.tmps) = true then Oper.wp P o a w K' Q else K' (a.put o.dst undef) w)
    (h' : ∀ K' : Act → World → Prop, Shut (∀ a' w', ((L.setIfInBounds k true).getD m false = true ∨ S w') → (((L.setIfInBounds k true).getD m false = true ∨ S w') → Til P md ops Q S m n (L.setIfInBounds k true) a' w') → K' a' w') → if Region.wanted o' (yielded ops a.tmps) = true then Oper.wp P o' a w K' Q else K' (a.put o'.dst undef) w) : Til P md ops Q S m (n + 1) L a w := by
  refine ⟨fun h0 => (by rw [hr] at h0; cases h0), fun j hj => ?_⟩
  rw [hr] at hj
  simp only [List.mem_cons, List.not_mem_nil, or_false] at hj
  rcases hj with rfl | rfl
  · exact wpOp_step ho (fun K' hK => h K' (fun a w hS hW => hK a w ⟨hS, hW hS⟩))
  · exact wpOp_step ho' (fun K' hK => h' K' (fun a w hS hW => hK a w ⟨hS, hW hS⟩))
theorem Til.done {L : Array Bool} {a : Act} {w : World} (hr : Region.ready md ops L = []) (h : Q .normal a w) : ∀ n, Til P md ops Q S m n L a w
  | 0 => ⟨hr, h⟩
  | _ + 1 => ⟨fun _ => h, by rw [hr]; simp⟩
theorem Til.region {id : Nat} {a : Act} {w : World} (hm : P.follows .mixedOrders = true) (hS : S w.drew) (h : S w.drew → Til P .any ops Q S m ops.size (Array.replicate ops.size false) a w.drew) : (Code.region id ops true).wp P Q a w :=
  wp_region_any hm (Til.any _ _ _ _ (h hS))
end
section
variable {o0 o1 o2 o3 o4 o5 o6 o7 o8 o9 o10 o11 o12 o13 o14 : Oper} {r : List Oper}
theorem at12 : (List.toArray (o0 :: o1 :: o2 :: o3 :: o4 :: o5 :: o6 :: o7 :: o8 :: o9 :: o10 :: o11 :: o12 :: r))[12]? = some o12 := rfl
theorem at13 : (List.toArray (o0 :: o1 :: o2 :: o3 :: o4 :: o5 :: o6 :: o7 :: o8 :: o9 :: o10 :: o11 :: o12 :: o13 :: r))[13]? = some o13 := rfl
theorem at14 : (List.toArray (o0 :: o1 :: o2 :: o3 :: o4 :: o5 :: o6 :: o7 :: o8 :: o9 :: o10 :: o11 :: o12 :: o13 :: o14 :: r))[14]? = some o14 := rfl
end
end Go.Proofs.YtglgclkgppomiaaGreat

namespace Go.Proofs.YtglgclkgppomiaaGreat
open Go Go.RowKit
section
variable {o0 o1 o2 o3 o4 o5 o6 o7 o8 o9 o10 o11 o12 o13 o14 o15 o16 o17 o18 o19 o20 o21 o22 o23 o24 o25 : Oper} {r : List Oper}
theorem at15 : (List.toArray (o0 :: o1 :: o2 :: o3 :: o4 :: o5 :: o6 :: o7 :: o8 :: o9 :: o10 :: o11 :: o12 :: o13 :: o14 :: o15 :: r))[15]? = some o15 := rfl
theorem at16 : (List.toArray (o0 :: o1 :: o2 :: o3 :: o4 :: o5 :: o6 :: o7 :: o8 :: o9 :: o10 :: o11 :: o12 :: o13 :: o14 :: o15 :: o16 :: r))[16]? = some o16 := rfl
theorem at17 : (List.toArray (o0 :: o1 :: o2 :: o3 :: o4 :: o5 :: o6 :: o7 :: o8 :: o9 :: o10 :: o11 :: o12 :: o13 :: o14 :: o15 :: o16 :: o17 :: r))[17]? = some o17 := rfl
theorem at18 : (List.toArray (o0 :: o1 :: o2 :: o3 :: o4 :: o5 :: o6 :: o7 :: o8 :: o9 :: o10 :: o11 :: o12 :: o13 :: o14 :: o15 :: o16 :: o17 :: o18 :: r))[18]? = some o18 := rfl
theorem at19 : (List.toArray (o0 :: o1 :: o2 :: o3 :: o4 :: o5 :: o6 :: o7 :: o8 :: o9 :: o10 :: o11 :: o12 :: o13 :: o14 :: o15 :: o16 :: o17 :: o18 :: o19 :: r))[19]? = some o19 := rfl
theorem at20 : (List.toArray (o0 :: o1 :: o2 :: o3 :: o4 :: o5 :: o6 :: o7 :: o8 :: o9 :: o10 :: o11 :: o12 :: o13 :: o14 :: o15 :: o16 :: o17 :: o18 :: o19 :: o20 :: r))[20]? = some o20 := rfl
theorem at21 : (List.toArray (o0 :: o1 :: o2 :: o3 :: o4 :: o5 :: o6 :: o7 :: o8 :: o9 :: o10 :: o11 :: o12 :: o13 :: o14 :: o15 :: o16 :: o17 :: o18 :: o19 :: o20 :: o21 :: r))[21]? = some o21 := rfl
theorem at22 : (List.toArray (o0 :: o1 :: o2 :: o3 :: o4 :: o5 :: o6 :: o7 :: o8 :: o9 :: o10 :: o11 :: o12 :: o13 :: o14 :: o15 :: o16 :: o17 :: o18 :: o19 :: o20 :: o21 :: o22 :: r))[22]? = some o22 := rfl
theorem at23 : (List.toArray (o0 :: o1 :: o2 :: o3 :: o4 :: o5 :: o6 :: o7 :: o8 :: o9 :: o10 :: o11 :: o12 :: o13 :: o14 :: o15 :: o16 :: o17 :: o18 :: o19 :: o20 :: o21 :: o22 :: o23 :: r))[23]? = some o23 := rfl
theorem at24 : (List.toArray (o0 :: o1 :: o2 :: o3 :: o4 :: o5 :: o6 :: o7 :: o8 :: o9 :: o10 :: o11 :: o12 :: o13 :: o14 :: o15 :: o16 :: o17 :: o18 :: o19 :: o20 :: o21 :: o22 :: o23 :: o24 :: r))[24]? = some o24 := rfl
theorem at25 : (List.toArray (o0 :: o1 :: o2 :: o3 :: o4 :: o5 :: o6 :: o7 :: o8 :: o9 :: o10 :: o11 :: o12 :: o13 :: o14 :: o15 :: o16 :: o17 :: o18 :: o19 :: o20 :: o21 :: o22 :: o23 :: o24 :: o25 :: r))[25]? = some o25 := rfl
end
end Go.Proofs.YtglgclkgppomiaaGreat
