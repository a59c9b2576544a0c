/- Plain facts on an object filled from lists, some keys marked: the last entry of a repeated key decides. No program in sight. -/
import Derived.Test.YtjjkgpjhohnpaaaMapR
set_option linter.unusedVariables false
namespace Go.Proofs.Ytjjkgpjhohnpaaa.hol
open mapr

/-- the key at place i, as bytes -/
def key (ks : List ByteArray) (i : Nat) : List UInt8 := (ks.getD i ByteArray.empty).data.toList
/-- the last place below n that holds x -/
def last (ks : List ByteArray) : Nat → List UInt8 → Option Nat
  | 0, _ => none
  | n + 1, x => if x = key ks n then some n else last ks n x
/-- what a map says that was filled from the first n places, f i laid at place i -/
def mOf (ks : List ByteArray) (n : Nat) (f : Nat → Value) : M := fun x => (last ks n x).map f
theorem mOf_zero (ks : List ByteArray) (f : Nat → Value) : ∀ x, (fun _ => none : M) x = mOf ks 0 f x := fun x => rfl
theorem mOf_step (ks : List ByteArray) (n : Nat) (f : Nat → Value) : ∀ x, ((mOf ks n f).put (key ks n) (f n)) x = mOf ks (n + 1) f x := by
  intro x
  by_cases e : x = key ks n <;> simp [mOf, M.put, last, e]
theorem last_is {ks : List ByteArray} : ∀ {n : Nat} {x : List UInt8} {i : Nat}, last ks n x = some i → i < n ∧ key ks i = x
  | 0, x, i, h => by simp [last] at h
  | n + 1, x, i, h => by
    unfold last at h
    split at h
    · rename_i e
      have : n = i := by simpa using h
      subst this
      exact ⟨by omega, e.symm⟩
    · have := last_is h
      exact ⟨by omega, this.2⟩
theorem last_some {ks : List ByteArray} : ∀ {n i : Nat}, i < n → ∃ j, last ks n (key ks i) = some j ∧ i ≤ j
  | n + 1, i, h => by
    unfold last
    split
    · exact ⟨n, rfl, by omega⟩
    · rename_i e
      have : i < n := by
        by_cases c : i = n
        · subst c; exact absurd rfl e
        · omega
      exact last_some this

/-- what stays: at each key its last place, if that bears no mark -/
def fin (ks : List ByteArray) (hs : Nat → Bool) (n : Nat) (x : List UInt8) : Option Nat := (last ks n x).filter fun i => !hs i
def finM (ks : List ByteArray) (hs : Nat → Bool) (n : Nat) (f : Nat → Value) : M := fun x => (fin ks hs n x).map f
/-- while it is swept: what is to come stands as it was -/
def sweep (ks : List ByteArray) (hs : Nat → Bool) (n : Nat) (f : Nat → Value) (left : Lit → Bool) : M := fun x => (last ks n x).bind fun i => if hs i && !left (.string x) then none else some (f i)
theorem sweep_start (ks : List ByteArray) (hs : Nat → Bool) (n : Nat) (f : Nat → Value) (left : Lit → Bool) (h : ∀ x, left (.string x) = (mOf ks n f x).isSome) : ∀ x, mOf ks n f x = sweep ks hs n f left x := by
  intro x
  have hx := h x
  unfold mOf at hx
  unfold mOf sweep
  cases hl : last ks n x with
  | none => rfl
  | some i => rw [hl] at hx; simp at hx; simp [hx]
theorem sweep_end (ks : List ByteArray) (hs : Nat → Bool) (n : Nat) (f : Nat → Value) (left : Lit → Bool) (h : ∀ l, left l = false) : ∀ x, sweep ks hs n f left x = finM ks hs n f x := by
  intro x
  unfold sweep finM fin
  cases hl : last ks n x with
  | none => rfl
  | some i =>
    simp only [Option.bind_some, h, Bool.not_false, Bool.and_true, Option.filter]
    by_cases c : hs i = true <;> simp [c]
theorem same_key (x y : List UInt8) : (Lit.string y).sameKey (.string x) = (y == x) := rfl
theorem sweep_hole {ks : List ByteArray} {hs : Nat → Bool} {n : Nat} {f : Nat → Value} {left : Lit → Bool} {x : List UInt8} {i : Nat} (hl : last ks n x = some i) (hh : hs i = true) : ∀ y, ((sweep ks hs n f left).del x) y = sweep ks hs n f (fun z => left z && !z.sameKey (.string x)) y := by
  intro y
  by_cases e : y = x
  · subst e
    simp [M.del, sweep, hl, hh, same_key]
  · have : (Lit.string y).sameKey (.string x) = false := by rw [same_key]; simpa using e
    simp [M.del, sweep, e, this]
theorem sweep_keep {ks : List ByteArray} {hs : Nat → Bool} {n : Nat} {f : Nat → Value} {left : Lit → Bool} {x : List UInt8} {i : Nat} (hl : last ks n x = some i) (hh : hs i = false) : ∀ y, ((sweep ks hs n f left).put x (f i)) y = sweep ks hs n f (fun z => left z && !z.sameKey (.string x)) y := by
  intro y
  by_cases e : y = x
  · subst e
    simp [M.put, sweep, hl, hh]
  · have : (Lit.string y).sameKey (.string x) = false := by rw [same_key]; simpa using e
    simp [M.put, sweep, e, this]
theorem sweep_at {ks : List ByteArray} {hs : Nat → Bool} {n : Nat} {f : Nat → Value} {left : Lit → Bool} {x : List UInt8} {v : Value} (h : sweep ks hs n f left x = some v) (hl : left (.string x) = true) : ∃ i, last ks n x = some i ∧ v = f i := by
  unfold sweep at h
  cases e : last ks n x with
  | none => rw [e] at h; cases h
  | some i => rw [e] at h; simp [hl] at h; exact ⟨i, rfl, h.symm⟩

/-- the answer's map while it is filled from the sorted keys -/
def part (ks : List ByteArray) (hs : Nat → Bool) (n : Nat) (f : Nat → Value) (ts : List (List UInt8)) (k : Nat) : M := fun x => if x ∈ ts.take k then (fin ks hs n x).map f else none
theorem part_zero (ks : List ByteArray) (hs : Nat → Bool) (n : Nat) (f : Nat → Value) (ts : List (List UInt8)) : ∀ x, (fun _ => none : M) x = part ks hs n f ts 0 x := fun x => by simp [part]
theorem part_step {ks : List ByteArray} {hs : Nat → Bool} {n : Nat} {f : Nat → Value} {ts : List (List UInt8)} {k i : Nat} (hk : k < ts.length) (hi : fin ks hs n (ts.getD k []) = some i) : ∀ x, ((part ks hs n f ts k).put (ts.getD k []) (f i)) x = part ks hs n f ts (k + 1) x := by
  intro x
  have ht : ts.take (k + 1) = ts.take k ++ [ts.getD k []] := by rw [List.take_succ_eq_append_getElem hk]; simp [hk]
  unfold part M.put
  rw [ht]
  generalize ts.getD k [] = y at hi ⊢
  by_cases e : x = y
  · subst e; simp [hi]
  · simp [e]
theorem part_end {ks : List ByteArray} {hs : Nat → Bool} {n : Nat} {f : Nat → Value} {ts : List (List UInt8)} (hm : ∀ x, x ∈ ts ↔ (fin ks hs n x).isSome = true) : ∀ x, part ks hs n f ts ts.length x = finM ks hs n f x := by
  intro x
  unfold part finM
  rw [List.take_length]
  by_cases e : x ∈ ts
  · simp [e]
  · have : fin ks hs n x = none := by
      cases c : fin ks hs n x with
      | none => rfl
      | some i => exact absurd ((hm x).2 (by simp [c])) e
    simp [e, this]

/-- the keys that the law counts -/
def cl (ks : List ByteArray) (hs : Nat → Bool) (n k : Nat) : List (List UInt8) := ((List.range k).filter fun i => last ks n (key ks i) == some i && !hs i).map (key ks)
theorem cl_zero (ks : List ByteArray) (hs : Nat → Bool) (n : Nat) : cl ks hs n 0 = [] := rfl
theorem cl_yes {ks : List ByteArray} {hs : Nat → Bool} {n k : Nat} (h : last ks n (key ks k) = some k) (hh : hs k = false) : (cl ks hs n (k + 1)).length = (cl ks hs n k).length + 1 := by
  simp [cl, List.range_succ, List.filter_append, h, hh]
theorem cl_no {ks : List ByteArray} {hs : Nat → Bool} {n k : Nat} (h : ¬ (last ks n (key ks k) = some k ∧ hs k = false)) : (cl ks hs n (k + 1)).length = (cl ks hs n k).length := by
  have : (last ks n (key ks k) == some k && !hs k) = false := by
    rw [Bool.and_eq_false_iff]
    by_cases c : last ks n (key ks k) = some k
    · right; cases d : hs k
      · exact absurd ⟨c, d⟩ h
      · rfl
    · left; simpa using c
  simp [cl, List.range_succ, List.filter_append, this]
theorem cl_le (ks : List ByteArray) (hs : Nat → Bool) (n k : Nat) : (cl ks hs n k).length ≤ k := by
  unfold cl
  rw [List.length_map]
  exact Nat.le_trans (List.length_filter_le _ _) (by simp)
theorem cl_nodup (ks : List ByteArray) (hs : Nat → Bool) (n k : Nat) : (cl ks hs n k).Nodup := by
  unfold cl
  refine List.pairwise_map.2 ?_
  have h0 : ((List.range k).filter fun i => last ks n (key ks i) == some i && !hs i).Nodup := List.nodup_range.filter _
  refine h0.imp_of_mem ?_
  intro i j hi hj hne e
  have h1 : last ks n (key ks i) = some i := by have := (List.mem_filter.1 hi).2; simp at this; exact this.1
  have h2 : last ks n (key ks j) = some j := by have := (List.mem_filter.1 hj).2; simp at this; exact this.1
  rw [e, h2] at h1
  exact hne (by injection h1 with h1; exact h1.symm)
theorem cl_mem (ks : List ByteArray) (hs : Nat → Bool) (n : Nat) (f : Nat → Value) (x : List UInt8) : x ∈ cl ks hs n n ↔ (finM ks hs n f x).isSome = true := by
  unfold cl finM fin
  simp only [List.mem_map, List.mem_filter, List.mem_range, Option.isSome_map]
  constructor
  · rintro ⟨i, ⟨hi, hp⟩, rfl⟩
    simp at hp
    simp [hp.1, Option.filter, hp.2]
  · intro h
    cases hl : last ks n x with
    | none => rw [hl] at h; simp [Option.filter] at h
    | some i =>
      rw [hl] at h
      have hh : hs i = false := by
        cases c : hs i
        · rfl
        · simp [Option.filter, c] at h
      obtain ⟨h1, h2⟩ := last_is hl
      exact ⟨i, ⟨h1, by rw [h2]; simp [hl, hh]⟩, h2⟩
theorem fin_some {ks : List ByteArray} {hs : Nat → Bool} {n : Nat} {x : List UInt8} {i : Nat} (h : fin ks hs n x = some i) : last ks n x = some i ∧ hs i = false := by
  unfold fin at h
  cases hl : last ks n x with
  | none => rw [hl] at h; simp [Option.filter] at h
  | some j =>
    rw [hl] at h
    simp only [Option.filter] at h
    split at h
    · rename_i hj
      have : j = i := by simpa using h
      subst this
      exact ⟨rfl, by simpa using hj⟩
    · cases h
theorem fin_yes {ks : List ByteArray} {hs : Nat → Bool} {n : Nat} {x : List UInt8} {i : Nat} (h : last ks n x = some i) (hh : hs i = false) : fin ks hs n x = some i := by
  simp [fin, h, Option.filter, hh]
theorem fin_no {ks : List ByteArray} {hs : Nat → Bool} {n : Nat} {x : List UInt8} {i : Nat} (h : last ks n x = some i) (hh : hs i = true) : fin ks hs n x = none := by
  simp [fin, h, Option.filter, hh]
end Go.Proofs.Ytjjkgpjhohnpaaa.hol
