/- Plain: two floating-point numbers that are neither none nor a negative nought are equal just if their words are. -/
import Derived.Test.YtglgclkgppomiaaGreatZ01
set_option linter.unusedVariables false
set_option linter.unusedSimpArgs false
namespace Go.Proofs.YtglgclkgppomiaaGreat
open Go

def mgOf (B r : Nat) : Nat := if r < B then r else B + r % B
def exOf (B r : Nat) : Nat := if r < B then 0 else r / B - 1
theorem mgex_lt {B r q : Nat} (hB : 0 < B) (h : exOf B r < exOf B q) : mgOf B r * 2 ^ exOf B r < mgOf B q * 2 ^ exOf B q := by
  have hm : mgOf B r < 2 * B := by
    unfold mgOf
    have := Nat.mod_lt r hB
    split <;> omega
  have hq : B ≤ mgOf B q := by
    unfold exOf at h
    unfold mgOf
    split
    · rename_i hq; simp only [hq, if_true] at h; omega
    · omega
  have hp : 0 < 2 ^ exOf B r := Nat.pow_pos (by omega)
  have h1 : mgOf B r * 2 ^ exOf B r < (2 * B) * 2 ^ exOf B r := Nat.mul_lt_mul_of_pos_right hm hp
  have h2 : (2 * B) * 2 ^ exOf B r = B * 2 ^ (exOf B r + 1) := by rw [Nat.pow_succ, Nat.mul_comm 2 B, Nat.mul_assoc, Nat.mul_comm 2]
  have h3 : B * 2 ^ (exOf B r + 1) ≤ B * 2 ^ exOf B q := Nat.mul_le_mul_left _ (Nat.pow_le_pow_right (by omega) (by omega))
  have h4 : B * 2 ^ exOf B q ≤ mgOf B q * 2 ^ exOf B q := Nat.mul_le_mul_right _ hq
  omega
theorem mgex_inj {B r q : Nat} (hB : 0 < B) (h : mgOf B r * 2 ^ exOf B r = mgOf B q * 2 ^ exOf B q) : r = q := by
  have he : exOf B r = exOf B q := by
    rcases Nat.lt_trichotomy (exOf B r) (exOf B q) with h1 | h1 | h1
    · have := mgex_lt hB h1; omega
    · exact h1
    · have := mgex_lt hB h1; omega
  rw [he] at h
  have hm : mgOf B r = mgOf B q := Nat.eq_of_mul_eq_mul_right (Nat.pow_pos (by omega)) h
  have key : ∀ n, n = if n < B then mgOf B n else exOf B n * B + mgOf B n := fun n => by
    unfold mgOf exOf
    split
    · rfl
    · rename_i hn
      have h1 : 1 ≤ n / B := (Nat.one_le_div_iff hB).2 (by omega)
      have h2 := Nat.div_add_mod n B
      have h3 : (n / B - 1) * B + B = n / B * B := by
        rw [← Nat.succ_mul, Nat.succ_eq_add_one, Nat.sub_add_cancel h1]
      rw [Nat.mul_comm] at h2
      omega
  have hge : ∀ n, ¬ n < B → B ≤ mgOf B n := fun n hn => by unfold mgOf; rw [if_neg hn]; omega
  have hlt : ∀ n, n < B → mgOf B n = n ∧ exOf B n = 0 := fun n hn => by unfold mgOf exOf; rw [if_pos hn, if_pos hn]; exact ⟨rfl, rfl⟩
  have kr := key r
  have kq := key q
  by_cases c1 : r < B
  · by_cases c2 : q < B
    · have := hlt r c1; have := hlt q c2; omega
    · have := hlt r c1; have := hge q c2; omega
  · by_cases c2 : q < B
    · have := hlt q c2; have := hge r c1; omega
    · rw [if_neg c1] at kr
      rw [if_neg c2] at kq
      rw [kr, kq, he, hm]
theorem signed_eq {s t : Bool} {M N : Nat} (h0 : M = 0 → s = false) (h1 : N = 0 → t = false) : ((if s then -(M : Int) else (M : Int)) = (if t then -(N : Int) else (N : Int))) ↔ (s = t ∧ M = N) := by
  cases s <;> cases t <;> simp at * <;> omega
theorem compare_eq (a b : Int) : (compare a b == Ordering.eq) = decide (a = b) := by
  by_cases h : a = b
  · subst h; simp [compare, compareOfLessAndEq]
  · simp only [h, decide_false, compare, compareOfLessAndEq, if_false]
    split <;> rfl
/-- What a word is: its sign and its rung. -/
theorem read_cases {f : Ieee.Format} {x : Nat} (hBI : f.binade ≤ f.infRung) (hI : x % f.signWeight ≤ f.infRung) :
    (x % f.signWeight < f.infRung ∧ f.read x = .number (x / f.signWeight % 2 == 1) (mgOf f.binade (x % f.signWeight)) (f.leastPlace + (exOf f.binade (x % f.signWeight) : Nat))) ∨
    (x % f.signWeight = f.infRung ∧ f.read x = .infinity (x / f.signWeight % 2 == 1)) := by
  by_cases h1 : x % f.signWeight < f.binade
  · left
    refine ⟨by omega, ?_⟩
    unfold Ieee.Format.read mgOf exOf
    simp only [h1, if_true]
    simp
  · by_cases h2 : x % f.signWeight < f.infRung
    · left
      refine ⟨h2, ?_⟩
      unfold Ieee.Format.read mgOf exOf
      simp only [h1, h2, if_true, if_false]
    · right
      have h3 : x % f.signWeight = f.infRung := by omega
      refine ⟨h3, ?_⟩
      unfold Ieee.Format.read
      simp only [h1, h2, if_false]
      rw [if_pos h3]
theorem word_split {W x : Nat} (hW : 0 < W) (hx : x < 2 * W) : x = (if x / W % 2 == 1 then W else 0) + x % W := by
  have h1 : x / W < 2 := Nat.div_lt_of_lt_mul (by rw [Nat.mul_comm]; exact hx)
  have h2 := Nat.div_add_mod x W
  generalize x % W = r at h2 ⊢
  generalize x / W = k at h1 h2 ⊢
  rcases (by omega : k = 0 ∨ k = 1) with h | h
  · subst h; simp; omega
  · subst h; simp; omega
theorem order_eq {f : Ieee.Format} {x y : Nat} (hB : 0 < f.binade) (hBI : f.binade ≤ f.infRung) (hIW : f.infRung < f.signWeight) (hx : x < 2 * f.signWeight) (hy : y < 2 * f.signWeight)
    (nx : x % f.signWeight ≤ f.infRung) (ny : y % f.signWeight ≤ f.infRung) (zx : x ≠ f.signWeight) (zy : y ≠ f.signWeight) : (f.order x y == some Ordering.eq) = decide (x = y) := by
  have sx := word_split (by omega) hx
  have sy := word_split (by omega) hy
  unfold Ieee.Format.order
  obtain ⟨s, hs⟩ : ∃ s, (x / f.signWeight % 2 == 1) = s := ⟨_, rfl⟩
  obtain ⟨t, ht⟩ : ∃ t, (y / f.signWeight % 2 == 1) = t := ⟨_, rfl⟩
  rcases read_cases hBI nx with ⟨hr, ex⟩ | ⟨hr, ex⟩ <;> rcases read_cases hBI ny with ⟨hq, ey⟩ | ⟨hq, ey⟩
  · rw [ex, ey, hs, ht]
    rw [hs] at sx
    rw [ht] at sy
    generalize x % f.signWeight = r at *
    generalize y % f.signWeight = q at *
    show (some (compare (Ieee.signed s _ _) (Ieee.signed t _ _)) == some Ordering.eq) = _
    have hcmp : ∀ a b : Int, (some (compare a b) == some Ordering.eq) = decide (a = b) := fun a b => compare_eq a b
    rw [hcmp]
    have hz : ∀ n, mgOf f.binade n = 0 → n = 0 := fun n hn => by
      unfold mgOf at hn; split at hn <;> omega
    have hmz : ∀ n c, mgOf f.binade n * 2 ^ c = 0 → n = 0 := fun n c hn => by
      rcases Nat.mul_eq_zero.1 hn with h | h
      · exact hz n h
      · exact absurd h (Nat.ne_of_gt (Nat.pow_pos (by omega)))
    have hxs : ∀ c, mgOf f.binade r * 2 ^ c = 0 → s = false := fun c hc => by
      have := hmz r c hc
      cases s with
      | false => rfl
      | true => simp at sx; omega
    have hyt : ∀ c, mgOf f.binade q * 2 ^ c = 0 → t = false := fun c hc => by
      have := hmz q c hc
      cases t with
      | false => rfl
      | true => simp at sy; omega
    obtain ⟨m, hm⟩ : ∃ m, m = min (exOf f.binade r) (exOf f.binade q) := ⟨_, rfl⟩
    obtain ⟨c, hc⟩ : ∃ c, exOf f.binade r = m + c := ⟨exOf f.binade r - m, by omega⟩
    obtain ⟨d, hd⟩ : ∃ d, exOf f.binade q = m + d := ⟨exOf f.binade q - m, by omega⟩
    have hbase : min (f.leastPlace + ((exOf f.binade r : Nat) : Int)) (f.leastPlace + ((exOf f.binade q : Nat) : Int)) = f.leastPlace + (m : Nat) := by omega
    rw [hbase]
    have g1 : Ieee.signed s (mgOf f.binade r) (f.leastPlace + ((exOf f.binade r : Nat) : Int) - (f.leastPlace + (m : Nat))).toNat = (if s then -((mgOf f.binade r * 2 ^ c : Nat) : Int) else ((mgOf f.binade r * 2 ^ c : Nat) : Int)) := by
      have : (f.leastPlace + ((exOf f.binade r : Nat) : Int) - (f.leastPlace + (m : Nat))).toNat = c := by omega
      rw [this]; unfold Ieee.signed; rw [Nat.shiftLeft_eq]
    have g2 : Ieee.signed t (mgOf f.binade q) (f.leastPlace + ((exOf f.binade q : Nat) : Int) - (f.leastPlace + (m : Nat))).toNat = (if t then -((mgOf f.binade q * 2 ^ d : Nat) : Int) else ((mgOf f.binade q * 2 ^ d : Nat) : Int)) := by
      have : (f.leastPlace + ((exOf f.binade q : Nat) : Int) - (f.leastPlace + (m : Nat))).toNat = d := by omega
      rw [this]; unfold Ieee.signed; rw [Nat.shiftLeft_eq]
    rw [g1, g2]
    refine decide_eq_decide.2 ((signed_eq (hxs c) (hyt d)).trans ⟨fun ⟨h1, h2⟩ => ?_, fun h => ?_⟩)
    · have hrq : r = q := by
        refine mgex_inj hB ?_
        rw [hc, hd, Nat.pow_add, Nat.pow_add, Nat.mul_left_comm, h2, ← Nat.mul_left_comm]
      rw [sx, sy, h1, hrq]
    · have hst : s = t ∧ r = q := by
        cases s <;> cases t <;> simp at sx sy ⊢ <;> omega
      obtain ⟨rfl, rfl⟩ := hst
      have : c = d := by omega
      subst this
      exact ⟨rfl, rfl⟩
  · rw [ex, ey]
    have : x ≠ y := fun h => by rw [h] at hr; omega
    simp only [this, decide_false]
    show (some _ == some Ordering.eq) = false
    cases (y / f.signWeight % 2 == 1) <;> rfl
  · rw [ex, ey]
    have : x ≠ y := fun h => by rw [h] at hr; omega
    simp only [this, decide_false]
    show (some _ == some Ordering.eq) = false
    cases (x / f.signWeight % 2 == 1) <;> rfl
  · rw [ex, ey, hs, ht]
    rw [hs] at sx
    rw [ht] at sy
    rw [hr] at sx
    rw [hq] at sy
    show (some (compare t.toNat s.toNat) == some Ordering.eq) = _
    cases s <;> cases t <;> simp at sx sy
    · have : x = y := by omega
      simp [this]
    · have : x ≠ y := by omega
      simp only [this, decide_false]; rfl
    · have : x ≠ y := by omega
      simp only [this, decide_false]; rfl
    · have : x = y := by omega
      simp [this]
end Go.Proofs.YtglgclkgppomiaaGreat
