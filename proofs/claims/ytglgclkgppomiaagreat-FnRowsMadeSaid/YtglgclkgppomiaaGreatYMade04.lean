/- As RG: either of two may come up; the condition made stronger on the way. -/
import Derived.Test.YtglgclkgppomiaaGreatZ12
set_option linter.unusedVariables false
set_option linter.unusedSimpArgs false
namespace Go.Proofs.YtglgclkgppomiaaGreat
open Go Go.RowKit
section
variable {P : Program} {ops : Array Oper} {Q : Exit → Act → World → Prop} {md : Region.Mode} {S S' : World → Prop} {m : Nat}
theorem Upto.weak (hS : ∀ w, S' w → S w) : ∀ (n : Nat) (L : Array Bool) (a : Act) (w : World), Upto P md ops Q S' m n L a w → Upto P md ops Q S m n L a w
  | 0, _, _, _, h => h
  | n + 1, _, _, _, h => ⟨h.1, fun i hi => wpOp_mono (fun a' w' h' => ⟨h'.1.imp_right (hS w'), Upto.weak hS n _ a' w' h'.2⟩) (h.2 i hi)⟩
/-- Either of two may come up. -/
theorem Upto.two {i k : Nat} {o o' : Oper} {n : Nat} {L : Array Bool} {a : Act} {w : World} (hr : Region.ready md ops L = [i, k]) (ho : ops[i]? = some o) (ho' : ops[k]? = some o')
    (h : ∀ K' : Act → World → Prop, Shut (∀ a' w', (i = m ∨ S w') → ((i = m ∨ S w') → Upto P md ops Q S m n (L.setIfInBounds i true) a' w') → K' a' w') → if Region.wanted o (yielded ops a.tmps) = true then Oper.wp P o a w K' Q else K' (a.put o.dst undef) w)
    (h' : ∀ K' : Act → World → Prop, Shut (∀ a' w', (k = m ∨ S w') → ((k = m ∨ S w') → Upto P md ops Q S m n (L.setIfInBounds k true) a' w') → K' a' w') → if Region.wanted o' (yielded ops a.tmps) = true then Oper.wp P o' a w K' Q else K' (a.put o'.dst undef) w) : Upto P md ops Q S m (n + 1) L a w := by
  refine ⟨fun h0 => (by rw [hr] at h0; cases h0), fun j hj => ?_⟩
  rw [hr] at hj
  simp only [List.mem_cons, List.not_mem_nil, or_false] at hj
  rcases hj with rfl | rfl
  · exact wpOp_step ho (fun K' hK => h K' (fun a w hS hW => hK a w ⟨hS, hW hS⟩))
  · exact wpOp_step ho' (fun K' hK => h' K' (fun a w hS hW => hK a w ⟨hS, hW hS⟩))
end
end Go.Proofs.YtglgclkgppomiaaGreat
