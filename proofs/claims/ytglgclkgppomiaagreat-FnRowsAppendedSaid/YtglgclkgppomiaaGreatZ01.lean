/- The plain data types of this claim (fields, data, cells, trees, values) and the plain functions that the Go functions compute. No program in sight. -/
import Derived.WalkKit
set_option linter.unusedVariables false
set_option linter.unusedSimpArgs false
namespace Go.Proofs.YtglgclkgppomiaaGreat
open Go

/-- A field of a schema. -/
inductive Fd where
  | mk (name : ByteArray) (way kind : Int) (kids : List Fd)
/-- A datum. -/
inductive Dt where
  | mk (none : Bool) (num : Int) (text : ByteArray) (items : List Dt)
/-- A cell. -/
structure Cl where
  col : Int
  rep : Int
  de : Int
  null : Bool
  kind : Int
  num : Int
  text : ByteArray

def Fd.name : Fd → ByteArray | .mk n _ _ _ => n
def Fd.way : Fd → Int | .mk _ w _ _ => w
def Fd.kind : Fd → Int | .mk _ _ k _ => k
def Fd.kids : Fd → List Fd | .mk _ _ _ k => k
def Dt.none : Dt → Bool | .mk n _ _ _ => n
def Dt.num : Dt → Int | .mk _ n _ _ => n
def Dt.text : Dt → ByteArray | .mk _ _ t _ => t
def Dt.items : Dt → List Dt | .mk _ _ _ i => i

mutual
def fdSize : Fd → Nat
  | .mk _ _ _ kids => 1 + fdsSize kids
def fdsSize : List Fd → Nat
  | [] => 0
  | f :: r => fdSize f + fdsSize r
end
mutual
def dtSize : Dt → Nat
  | .mk _ _ _ items => 1 + dtsSize items
def dtsSize : List Dt → Nat
  | [] => 0
  | d :: r => dtSize d + dtsSize r
end

mutual
def leavesOf : Fd → Nat
  | .mk _ _ _ kids => match kids with
    | [] => 1
    | f :: r => leaves (f :: r)
def leaves : List Fd → Nat
  | [] => 0
  | f :: r => leavesOf f + leaves r
end

theorem fdSize_pos (f : Fd) : 1 ≤ fdSize f := by cases f; simp [fdSize]
theorem dtSize_pos (d : Dt) : 1 ≤ dtSize d := by cases d; simp [dtSize]
theorem fdsSize_length : ∀ l : List Fd, l.length ≤ fdsSize l
  | [] => by simp [fdsSize]
  | f :: r => by have := fdsSize_length r; have := fdSize_pos f; simp [fdsSize]; omega
theorem dtsSize_length : ∀ l : List Dt, l.length ≤ dtsSize l
  | [] => by simp [dtsSize]
  | f :: r => by have := dtsSize_length r; have := dtSize_pos f; simp [dtsSize]; omega
theorem fdsSize_get : ∀ (l : List Fd) (k : Nat) (f : Fd), l[k]? = some f → fdSize f ≤ fdsSize l
  | [], _, _, h => by simp at h
  | g :: r, 0, f, h => by simp at h; subst h; simp [fdsSize]
  | g :: r, k + 1, f, h => by have := fdsSize_get r k f (by simpa using h); simp [fdsSize]; omega
theorem dtsSize_get : ∀ (l : List Dt) (k : Nat) (f : Dt), l[k]? = some f → dtSize f ≤ dtsSize l
  | [], _, _, h => by simp at h
  | g :: r, 0, f, h => by simp at h; subst h; simp [dtsSize]
  | g :: r, k + 1, f, h => by have := dtsSize_get r k f (by simpa using h); simp [dtsSize]; omega
theorem fdSize_kids (f : Fd) : fdSize f = 1 + fdsSize f.kids := by cases f; simp [fdSize, Fd.kids]
theorem dtSize_items (f : Dt) : dtSize f = 1 + dtsSize f.items := by cases f; simp [dtSize, Dt.items]

theorem leavesOf_leaf {f : Fd} (h : f.kids = []) : leavesOf f = 1 := by
  cases f; simp [Fd.kids] at h; subst h; simp [leavesOf]
theorem leavesOf_group {f : Fd} (h : f.kids ≠ []) : leavesOf f = leaves f.kids := by
  obtain ⟨n, w, k, kids⟩ := f
  cases kids with
  | nil => simp [Fd.kids] at h
  | cons a r => simp [leavesOf, Fd.kids]
theorem leavesOf_le : ∀ (n : Nat) (f : Fd), fdSize f ≤ n → leavesOf f ≤ fdSize f := by
  intro n
  induction n with
  | zero => intro f h; have := fdSize_pos f; omega
  | succ n ih =>
    intro f hf
    by_cases hk : f.kids = []
    · rw [leavesOf_leaf hk]; exact fdSize_pos f
    · rw [leavesOf_group hk, fdSize_kids]
      rw [fdSize_kids] at hf
      have : ∀ l : List Fd, fdsSize l ≤ n → leaves l ≤ fdsSize l := by
        intro l
        induction l with
        | nil => intro _; simp [leaves]
        | cons a r ihr =>
          intro hl
          simp only [fdsSize] at hl
          have h1 := ih a (by omega)
          have h2 := ihr (by omega)
          simp only [leaves, fdsSize]; omega
      have := this f.kids (by omega)
      omega
theorem leaves_le (l : List Fd) : leaves l ≤ fdsSize l := by
  induction l with
  | nil => simp [leaves]
  | cons a r ih => have := leavesOf_le _ a (Nat.le_refl _); simp only [leaves, fdsSize]; omega
theorem leaves_append (a b : List Fd) : leaves (a ++ b) = leaves a + leaves b := by
  induction a with
  | nil => simp [leaves]
  | cons x r ih => simp only [List.cons_append, leaves, ih]; omega
theorem leaves_snoc (l : List Fd) (k : Nat) (f : Fd) (h : l[k]? = some f) : leaves (l.take (k + 1)) = leaves (l.take k) + leavesOf f := by
  have hk : k < l.length := (List.getElem?_eq_some_iff.1 h).1
  have he : l[k] = f := (List.getElem?_eq_some_iff.1 h).2
  rw [List.take_succ_eq_append_getElem hk, leaves_append, he]
  simp [leaves]
theorem fdsSize_append (a b : List Fd) : fdsSize (a ++ b) = fdsSize a + fdsSize b := by
  induction a with
  | nil => simp [fdsSize]
  | cons x r ih => simp only [List.cons_append, fdsSize, ih]; omega
theorem fdsSize_take (l : List Fd) (k : Nat) : fdsSize (l.take k) ≤ fdsSize l := by
  have := fdsSize_append (l.take k) (l.drop k)
  rw [List.take_append_drop] at this
  omega
theorem leaves_take_le (l : List Fd) (k : Nat) : leaves (l.take k) ≤ fdsSize l := Nat.le_trans (leaves_le _) (fdsSize_take _ _)

/-- What spec.isName tells. -/
def nmByte (c : Int) : Bool := (decide (97 ≤ c) && decide (c ≤ 122)) || (decide (48 ≤ c) && decide (c ≤ 57))
def isNm (s : ByteArray) : Bool := s.data.toList.all (fun c => nmByte c.toNat) && decide (0 < s.size) && decide (s.size ≤ 50)
/-- What spec.isKind tells. -/
def isKd (k : Int) : Bool := decide (0 ≤ k) && decide (k ≤ 6) && !decide (k = 3)

theorem all_snoc (s : ByteArray) (k : Nat) (h : k < s.size) (p : UInt8 → Bool) : (s.data.toList.take (k + 1)).all p = ((s.data.toList.take k).all p && p s[k]) := by
  rw [List.take_succ_eq_append_getElem (by simpa using h), List.all_append]
  simp
  rfl
theorem isNm_bad (s : ByteArray) (k : Nat) (h : k < s.size) (hb : nmByte s[k].toNat = false) : isNm s = false := by
  unfold isNm
  have : s.data.toList.all (fun c => nmByte c.toNat) = false := by
    rw [List.all_eq_false]
    exact ⟨s[k], by simp [ByteArray.getElem_eq_getElem_data], by simp [hb]⟩
  simp [this]
theorem isNm_all (s : ByteArray) (h : s.data.toList.all (fun c => nmByte c.toNat) = true) : isNm s = (decide (0 < s.size) && decide (s.size ≤ 50)) := by
  unfold isNm; simp [h]
theorem toList_empty (s : ByteArray) : s.toList.isEmpty = decide (s.size = 0) := by
  rw [ByteArray.toList_eq]
  cases s with | mk d => cases d with | mk l => cases l <;> simp [ByteArray.size]

/-- Is a field one that may follow a field of the name p at a depth? -/
def okHead (p : Option ByteArray) (f : Fd) (depth : Int) : Bool :=
  isNm f.name && (match p with | none => true | some q => Op.bytesLess q.toList f.name.toList) && decide (0 ≤ f.way) && decide (f.way ≤ 2) && decide (depth ≤ 60)
mutual
/-- How many fields there are in one (what spec.fieldsIn adds for it), or none. -/
def cntF : Fd → Int → Option Nat
  | .mk _ _ kind kids, depth => match kids with
    | [] => if isKd kind then some 1 else none
    | g :: r => match cntL none (g :: r) (depth + 1) with
      | none => none
      | some k => if kind = 0 then some (1 + k) else none
/-- How many fields there are in some behind a field of the name p, or none (what spec.fieldsIn tells, -1 for none). -/
def cntL : Option ByteArray → List Fd → Int → Option Nat
  | _, [], _ => some 0
  | p, f :: r, depth => if okHead p f depth then (match cntF f depth with
      | none => none
      | some a => match cntL (some f.name) r depth with
        | none => none
        | some b => some (a + b)) else none
end
def optInt : Option Nat → Int
  | none => -1
  | some n => n
def areFields (fs : List Fd) : Bool := decide (1 ≤ optInt (cntL none fs 0)) && decide (optInt (cntL none fs 0) ≤ 300)

def lastNm (p : Option ByteArray) (l : List Fd) : Option ByteArray := match l.getLast? with | none => p | some f => some f.name
theorem lastNm_cons (p : Option ByteArray) (f : Fd) (l : List Fd) : lastNm p (f :: l) = lastNm (some f.name) l := by
  unfold lastNm
  cases l with
  | nil => simp
  | cons a r => simp [List.getLast?_cons]
theorem cntL_append (d : Int) : ∀ (a b : List Fd) (p : Option ByteArray), cntL p (a ++ b) d =
    (match cntL p a d with | none => none | some m => match cntL (lastNm p a) b d with | none => none | some n => some (m + n)) := by
  intro a
  induction a with
  | nil => intro b p; simp only [List.nil_append, cntL, lastNm, List.getLast?_nil]; cases cntL p b d <;> simp
  | cons f r ih =>
    intro b p
    simp only [List.cons_append, cntL, lastNm_cons]
    by_cases h : okHead p f d = true
    · simp only [h, if_true]
      cases cntF f d with
      | none => simp
      | some x =>
        simp only [ih]
        cases cntL (some f.name) r d with
        | none => simp
        | some y => cases cntL (lastNm (some f.name) r) b d <;> simp [Nat.add_assoc]
    · simp [h]
theorem lastNm_take (fs : List Fd) (k : Nat) (hk : k ≤ fs.length) : lastNm none (fs.take k) = if h : 0 < k then some (fs[k - 1]'(by omega)).name else none := by
  unfold lastNm
  by_cases h : 0 < k
  · rw [dif_pos h, List.getLast?_eq_getElem?]
    have : (fs.take k)[(fs.take k).length - 1]? = some (fs[k - 1]'(by omega)) := by
      rw [List.length_take, List.getElem?_take, if_pos (by omega), Nat.min_eq_left hk]
      exact List.getElem?_eq_getElem (by omega)
    rw [this]
  · obtain rfl : k = 0 := by omega
    simp
theorem fs_split (fs : List Fd) (k : Nat) (f : Fd) (h : fs[k]? = some f) : fs = fs.take k ++ (f :: fs.drop (k + 1)) := by
  have hk := (List.getElem?_eq_some_iff.1 h).1
  have he := (List.getElem?_eq_some_iff.1 h).2
  conv => lhs; rw [← List.take_append_drop k fs, List.drop_eq_getElem_cons hk, he]
theorem cntL_bad {fs : List Fd} {k : Nat} {f : Fd} {d : Int} (h : fs[k]? = some f) (hb : okHead (lastNm none (fs.take k)) f d = false ∨ cntF f d = none) : cntL none fs d = none := by
  rw [fs_split fs k f h, cntL_append]
  cases cntL none (fs.take k) d with
  | none => rfl
  | some m => rcases hb with hb | hb <;> simp [cntL, hb]
theorem cntL_good {fs : List Fd} {k : Nat} {f : Fd} {d : Int} {m c : Nat} (h : fs[k]? = some f) (hm : cntL none (fs.take k) d = some m) (hb : okHead (lastNm none (fs.take k)) f d = true) (hc : cntF f d = some c) :
    cntL none (fs.take (k + 1)) d = some (m + c) := by
  have hk := (List.getElem?_eq_some_iff.1 h).1
  have he := (List.getElem?_eq_some_iff.1 h).2
  rw [List.take_succ_eq_append_getElem hk, cntL_append, hm, he]
  simp [cntL, hb, hc]
theorem cntF_leaf {f : Fd} (h : f.kids = []) (d : Int) : cntF f d = if isKd f.kind then some 1 else none := by
  obtain ⟨n, w, k, kids⟩ := f
  simp [Fd.kids] at h; subst h
  simp [cntF, Fd.kind]; rfl
theorem cntF_group {f : Fd} (h : f.kids ≠ []) (d : Int) : cntF f d = (match cntL none f.kids (d + 1) with | none => none | some k => if f.kind = 0 then some (1 + k) else none) := by
  obtain ⟨n, w, k, kids⟩ := f
  cases kids with
  | nil => simp [Fd.kids] at h
  | cons a r => simp [cntF, Fd.kids, Fd.kind]; rfl
mutual
theorem cntF_le : ∀ (f : Fd) (d : Int) (n : Nat), cntF f d = some n → n ≤ fdSize f
  | .mk _ _ kind [], d, n, h => by
    simp only [cntF] at h
    split at h
    · injection h with h; subst h; simp [fdSize]
    · cases h
  | .mk _ _ kind (g :: r), d, n, h => by
    simp only [cntF] at h
    split at h
    · cases h
    · rename_i k hk
      have := cntL_le (g :: r) none (d + 1) k hk
      split at h
      · injection h with h; subst h; simp only [fdSize]; omega
      · cases h
theorem cntL_le : ∀ (l : List Fd) (p : Option ByteArray) (d : Int) (n : Nat), cntL p l d = some n → n ≤ fdsSize l
  | [], p, d, n, h => by simp [cntL] at h; omega
  | f :: r, p, d, n, h => by
    simp only [cntL] at h
    split at h
    · split at h
      · cases h
      · rename_i a ha
        split at h
        · cases h
        · rename_i b hb
          have h1 := cntF_le f d a ha
          have h2 := cntL_le r _ d b hb
          injection h with h
          simp only [fdsSize]; omega
    · cases h
end

/-- No name is longer than any text in memory. -/
inductive NamesFit : List Fd → Prop where
  | mk (fs : List Fd) (h : ∀ f, f ∈ fs → f.name.size ≤ 1000000000000) (hr : ∀ f, f ∈ fs → NamesFit f.kids) : NamesFit fs
theorem NamesFit.at_ {fs : List Fd} (h : NamesFit fs) {k : Nat} {f : Fd} (hk : fs[k]? = some f) : f.name.size ≤ 1000000000000 ∧ NamesFit f.kids := by
  cases h with
  | mk _ h hr => exact ⟨h f (List.mem_of_getElem? hk), hr f (List.mem_of_getElem? hk)⟩

/-- What spec.isPlain tells. -/
def plainOk (kind : Int) (d : Dt) : Bool :=
  if d.none || decide (0 < d.items.length) || decide (20000 < d.text.size) then false else
  if kind = 0 then decide (d.text.size = 0) && (decide (d.num = 0) || decide (d.num = 1))
  else if kind = 1 then decide (d.text.size = 0) && (decide (-2147483648 ≤ d.num) && decide (d.num < 2147483648))
  else if kind = 4 then decide (d.text.size = 0) && (decide (0 ≤ d.num) && decide (d.num < 4294967296))
  else if kind = 6 then decide (d.num = 0)
  else decide (d.text.size = 0)
/-- The datum has nothing but items. -/
def bareOf (d : Dt) : Bool := !d.none && decide (d.num = 0) && decide (d.text.size = 0)
/-- How many data there are in the items of a repeated field, from a number on. -/
def itemsGo (once : Dt → Option Nat) : List Dt → Nat → Option Nat
  | [], n => some n
  | x :: xs, n => match once x with
    | none => none
    | some k => if 20000 < n + k then none else itemsGo once xs (n + k)
/-- How many data there are in what a field has. -/
def dataOf (once : Dt → Option Nat) (way : Int) (d : Dt) : Option Nat :=
  if way = 1 ∧ d.none = true then (if d.num = 0 ∧ d.text.size = 0 ∧ d.items.length = 0 then some 1 else none)
  else if way = 2 then (if bareOf d then itemsGo once d.items 1 else none)
  else once d
mutual
/-- How many data there are in what a field has once. -/
def onceC : Fd → Dt → Option Nat
  | .mk _ _ kind kids, x => match kids with
    | [] => if plainOk kind x then some (1 + x.text.size) else none
    | g :: r => if bareOf x then (match rowGo (g :: r) x.items 0 with
      | none => none
      | some n => some (n + 1)) else none
/-- How many data there are in what fields have, from a number on. -/
def rowGo : List Fd → List Dt → Nat → Option Nat
  | [], [], n => some n
  | f :: fs, d :: ds, n => (match dataOf (fun x => onceC f x) f.way d with
    | none => none
    | some k => if 20000 < n + k then none else rowGo fs ds (n + k))
  | [], _ :: _, _ => none
  | _ :: _, [], _ => none
end
def dataC (f : Fd) (d : Dt) : Option Nat := dataOf (fun x => onceC f x) f.way d
def isRow (fs : List Fd) (ds : List Dt) : Bool := areFields fs && (rowGo fs ds 0).isSome

theorem onceC_leaf {f : Fd} (h : f.kids = []) (x : Dt) : onceC f x = if plainOk f.kind x then some (1 + x.text.size) else none := by
  obtain ⟨n, w, k, kids⟩ := f
  simp [Fd.kids] at h; subst h
  simp [onceC, Fd.kind]; rfl
theorem onceC_group {f : Fd} (h : f.kids ≠ []) (x : Dt) : onceC f x = if bareOf x then (match rowGo f.kids x.items 0 with | none => none | some n => some (n + 1)) else none := by
  obtain ⟨n, w, k, kids⟩ := f
  cases kids with
  | nil => simp [Fd.kids] at h
  | cons a r => simp only [onceC, Fd.kids]
theorem rowGo_cons (f : Fd) (fs : List Fd) (d : Dt) (ds : List Dt) (n : Nat) : rowGo (f :: fs) (d :: ds) n = (match dataC f d with | none => none | some k => if 20000 < n + k then none else rowGo fs ds (n + k)) := by
  simp only [rowGo]; rfl
theorem rowGo_len : ∀ (fs : List Fd) (ds : List Dt) (n m : Nat), rowGo fs ds n = some m → fs.length = ds.length ∧ n ≤ m
  | [], [], n, m, h => by simp [rowGo] at h; simp [h]
  | f :: fs, d :: ds, n, m, h => by
    rw [rowGo_cons] at h
    split at h
    · cases h
    · split at h
      · cases h
      · have := rowGo_len fs ds _ m h
        simp; omega
  | [], _ :: _, n, m, h => by simp [rowGo] at h
  | _ :: _, [], n, m, h => by simp [rowGo] at h
theorem rowGo_split : ∀ (fs : List Fd) (ds : List Dt) (k : Nat) (f : Fd) (d : Dt) (n : Nat), fs[k]? = some f → ds[k]? = some d →
    rowGo fs ds n = (match rowGo (fs.take k) (ds.take k) n with | none => none | some m => match dataC f d with | none => none | some c => if 20000 < m + c then none else rowGo (fs.drop (k + 1)) (ds.drop (k + 1)) (m + c))
  | [], _, k, f, d, n, h, _ => by simp at h
  | _ :: _, [], k, f, d, n, _, h => by simp at h
  | g :: fs, e :: ds, 0, f, d, n, hf, hd => by
    simp at hf hd; subst hf; subst hd
    rw [rowGo_cons]
    simp [rowGo]
  | g :: fs, e :: ds, k + 1, f, d, n, hf, hd => by
    have ih := rowGo_split fs ds k f d
    simp only [List.take_succ_cons, List.drop_succ_cons, rowGo_cons]
    cases dataC g e with
    | none => rfl
    | some c =>
      simp only []
      by_cases h : 20000 < n + c
      · simp [h]
      · simp only [h, if_false]
        exact ih (n + c) (by simpa using hf) (by simpa using hd)
theorem rowGo_snoc {fs : List Fd} {ds : List Dt} {k : Nat} {f : Fd} {d : Dt} {m c : Nat} (hf : fs[k]? = some f) (hd : ds[k]? = some d) (hm : rowGo (fs.take k) (ds.take k) 0 = some m) (hc : dataC f d = some c) (hs : ¬ 20000 < m + c) :
    rowGo (fs.take (k + 1)) (ds.take (k + 1)) 0 = some (m + c) := by
  have hk := (List.getElem?_eq_some_iff.1 hf).1
  have hk2 := (List.getElem?_eq_some_iff.1 hd).1
  rw [rowGo_split _ _ k f d 0 (by rw [List.getElem?_take, if_pos (by omega)]; exact hf) (by rw [List.getElem?_take, if_pos (by omega)]; exact hd)]
  rw [List.take_take, List.take_take, Nat.min_eq_left (by omega), hm]
  simp only [hc, hs, if_false]
  rw [List.drop_of_length_le (by simp; omega), List.drop_of_length_le (by simp; omega)]
  simp [rowGo]
theorem rowGo_bad {fs : List Fd} {ds : List Dt} {k : Nat} {f : Fd} {d : Dt} {m : Nat} (hf : fs[k]? = some f) (hd : ds[k]? = some d) (hm : rowGo (fs.take k) (ds.take k) 0 = some m)
    (hc : dataC f d = none ∨ ∃ c, dataC f d = some c ∧ 20000 < m + c) : rowGo fs ds 0 = none := by
  rw [rowGo_split _ _ k f d 0 hf hd, hm]
  rcases hc with hc | ⟨c, hc, h⟩
  · simp [hc]
  · simp [hc, h]
theorem itemsGo_split (once : Dt → Option Nat) : ∀ (ds : List Dt) (k : Nat) (d : Dt) (n : Nat), ds[k]? = some d →
    itemsGo once ds n = (match itemsGo once (ds.take k) n with | none => none | some m => match once d with | none => none | some c => if 20000 < m + c then none else itemsGo once (ds.drop (k + 1)) (m + c))
  | [], k, d, n, h => by simp at h
  | e :: ds, 0, d, n, h => by simp at h; subst h; simp [itemsGo]
  | e :: ds, k + 1, d, n, h => by
    have ih := itemsGo_split once ds k d
    simp only [List.take_succ_cons, List.drop_succ_cons, itemsGo]
    cases once e with
    | none => rfl
    | some c =>
      simp only []
      by_cases h' : 20000 < n + c
      · simp [h']
      · simp only [h', if_false]
        exact ih (n + c) (by simpa using h)
theorem itemsGo_snoc {once : Dt → Option Nat} {ds : List Dt} {k : Nat} {d : Dt} {n m c : Nat} (hd : ds[k]? = some d) (hm : itemsGo once (ds.take k) n = some m) (hc : once d = some c) (hs : ¬ 20000 < m + c) :
    itemsGo once (ds.take (k + 1)) n = some (m + c) := by
  have hk2 := (List.getElem?_eq_some_iff.1 hd).1
  rw [itemsGo_split once _ k d n (by rw [List.getElem?_take, if_pos (by omega)]; exact hd)]
  rw [List.take_take, Nat.min_eq_left (by omega), hm]
  simp only [hc, hs, if_false]
  rw [List.drop_of_length_le (by simp; omega)]
  simp [itemsGo]
theorem itemsGo_bad {once : Dt → Option Nat} {ds : List Dt} {k : Nat} {d : Dt} {n m : Nat} (hd : ds[k]? = some d) (hm : itemsGo once (ds.take k) n = some m)
    (hc : once d = none ∨ ∃ c, once d = some c ∧ 20000 < m + c) : itemsGo once ds n = none := by
  rw [itemsGo_split once _ k d n hd, hm]
  rcases hc with hc | ⟨c, hc, h⟩
  · simp [hc]
  · simp [hc, h]
theorem itemsGo_le (once : Dt → Option Nat) : ∀ (ds : List Dt) (n m : Nat), itemsGo once ds n = some m → m ≤ max n 20000
  | [], n, m, h => by simp [itemsGo] at h; omega
  | d :: ds, n, m, h => by
    simp only [itemsGo] at h
    split at h
    · cases h
    · split at h
      · cases h
      · have := itemsGo_le once ds _ m h; omega
theorem rowGo_le : ∀ (fs : List Fd) (ds : List Dt) (n m : Nat), rowGo fs ds n = some m → m ≤ max n 20000
  | [], [], n, m, h => by simp [rowGo] at h; omega
  | f :: fs, d :: ds, n, m, h => by
    rw [rowGo_cons] at h
    split at h
    · cases h
    · split at h
      · cases h
      · have := rowGo_le fs ds _ m h; omega
  | [], _ :: _, n, m, h => by simp [rowGo] at h
  | _ :: _, [], n, m, h => by simp [rowGo] at h
theorem plainOk_text {k : Int} {d : Dt} (h : plainOk k d = true) : d.text.size ≤ 20000 := by
  unfold plainOk at h
  split at h
  · cases h
  · rename_i hn; simp at hn; omega
theorem onceC_le (f : Fd) (x : Dt) (n : Nat) (h : onceC f x = some n) : n ≤ 20001 := by
  by_cases hk : f.kids = []
  · rw [onceC_leaf hk] at h
    split at h
    · rename_i hp; have := plainOk_text hp; injection h with h; omega
    · cases h
  · rw [onceC_group hk] at h
    split at h
    · split at h
      · cases h
      · rename_i m hm; have := rowGo_le _ _ _ _ hm; injection h with h; omega
    · cases h
theorem dataC_le (f : Fd) (x : Dt) (n : Nat) (h : dataC f x = some n) : n ≤ 20001 := by
  unfold dataC dataOf at h
  split at h
  · split at h
    · injection h with h; omega
    · cases h
  · split at h
    · split at h
      · have := itemsGo_le _ _ _ _ h; omega
      · cases h
    · exact onceC_le f x n h

theorem plainOk_rest (kind : Int) (d : Dt) (h1 : d.none = false) (h2 : ¬ 0 < d.items.length) (h3 : ¬ 20000 < d.text.size) : plainOk kind d =
    (if kind = 0 then decide (d.text.size = 0) && (decide (d.num = 0) || decide (d.num = 1))
    else if kind = 1 then decide (d.text.size = 0) && (decide (-2147483648 ≤ d.num) && decide (d.num < 2147483648))
    else if kind = 4 then decide (d.text.size = 0) && (decide (0 ≤ d.num) && decide (d.num < 4294967296))
    else if kind = 6 then decide (d.num = 0) else decide (d.text.size = 0)) := by
  unfold plainOk
  rw [if_neg (by simp only [h1, h2, h3, decide_false]; simp)]

/-- No text is longer than any text in memory, and no list. -/
inductive TextsFit : List Dt → Prop where
  | mk (ds : List Dt) (h : ∀ d, d ∈ ds → d.text.size ≤ 1000000000000 ∧ d.items.length ≤ 1000000000000) (hr : ∀ d, d ∈ ds → TextsFit d.items) : TextsFit ds
theorem TextsFit.at_ {ds : List Dt} (h : TextsFit ds) {k : Nat} {d : Dt} (hk : ds[k]? = some d) : d.text.size ≤ 1000000000000 ∧ d.items.length ≤ 1000000000000 ∧ TextsFit d.items := by
  cases h with
  | mk _ h hr => exact ⟨(h d (List.mem_of_getElem? hk)).1, (h d (List.mem_of_getElem? hk)).2, hr d (List.mem_of_getElem? hk)⟩
theorem bareOf_mk (num : Int) (txt : ByteArray) (its : List Dt) : bareOf (.mk false num txt its) = (decide (num = 0) && decide (txt.size = 0)) := by
  rfl
theorem bareOf_none (num : Int) (txt : ByteArray) (its : List Dt) : bareOf (.mk true num txt its) = false := by
  simp [bareOf, Dt.none]
end Go.Proofs.YtglgclkgppomiaaGreat
