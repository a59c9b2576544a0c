/- Insertion sort on keys: the order, exchange by exchange; no function of the program in sight. -/
import Derived.Test.YtbogmmpbmgibnaaDoorOrder
set_option linter.unusedVariables false
namespace Go.Proofs.YtbogmmpbmgibnaaDoor.ins
open less order

/-- places j and j + 1 exchanged -/
def xch (K : List (ByteArray × Int)) (j : Nat) (x y : ByteArray × Int) : List (ByteArray × Int) := (K.set (j + 1) x).set j y
theorem xch_len (K : List (ByteArray × Int)) (j : Nat) (x y : ByteArray × Int) : (xch K j x y).length = K.length := by simp [xch]
theorem xch_perm {K : List (ByteArray × Int)} {j : Nat} {x y : ByteArray × Int} (hx : K[j]? = some x) (hy : K[j + 1]? = some y) : (xch K j x y).Perm K := by
  obtain ⟨h1, rfl⟩ := List.getElem?_eq_some_iff.1 hx
  obtain ⟨h2, rfl⟩ := List.getElem?_eq_some_iff.1 hy
  exact List.set_set_perm h2 h1
theorem xch_get {K : List (ByteArray × Int)} {j : Nat} {x y : ByteArray × Int} (hx : K[j]? = some x) (hy : K[j + 1]? = some y) (p : Nat) : (xch K j x y)[p]? = if p = j then some y else if p = j + 1 then some x else K[p]? := by
  have h1 := (List.getElem?_eq_some_iff.1 hx).1
  have h2 := (List.getElem?_eq_some_iff.1 hy).1
  unfold xch
  rw [List.getElem?_set, List.getElem?_set]
  by_cases e : p = j
  · subst e; simp [h1]
  · rw [if_neg (fun h => e h.symm), if_neg e]
    by_cases e2 : p = j + 1
    · subst e2; simp [h2]
    · rw [if_neg (fun h => e2 h.symm), if_neg e2]
/-- the first i are in order but for place j, which is no greater than those behind it -/
def Near (K : List (ByteArray × Int)) (i j : Nat) : Prop := ∀ (p q : Nat) (x y : ByteArray × Int), p < q → q ≤ i → q ≠ j → K[p]? = some x → K[q]? = some y → keyLt y x = false
/-- the first i are in order -/
def Pre (K : List (ByteArray × Int)) (i : Nat) : Prop := ∀ (p q : Nat) (x y : ByteArray × Int), p < q → q < i → K[p]? = some x → K[q]? = some y → keyLt y x = false
theorem Pre.one (K : List (ByteArray × Int)) : Pre K 1 := fun p q x y h1 h2 => by omega
theorem Pre.near {K : List (ByteArray × Int)} {i : Nat} (h : Pre K i) : Near K i i := fun p q x y h1 h2 h3 hx hy => h p q x y h1 (by omega) hx hy
theorem Near.zero {K : List (ByteArray × Int)} {i : Nat} (h : Near K i 0) : Pre K (i + 1) := fun p q x y h1 h2 hx hy => h p q x y h1 (by omega) (by omega) hx hy
theorem Near.stop {K : List (ByteArray × Int)} {i j : Nat} {x y : ByteArray × Int} (h : Near K i (j + 1)) (hx : K[j]? = some x) (hy : K[j + 1]? = some y) (hl : keyLt y x = false) : Pre K (i + 1) := fun p q a b h1 h2 ha hb => by
  by_cases e : q = j + 1
  · subst e
    rw [hy] at hb; cases hb
    by_cases e2 : p = j
    · subst e2; rw [hx] at ha; cases ha; exact hl
    · exact key_ntrans hl (h p j a x (by omega) (by omega) (by omega) ha hx)
  · exact h p q a b h1 (by omega) e ha hb
theorem key_asymm {x y : ByteArray × Int} (h : keyLt y x = true) : keyLt x y = false := by
  cases h2 : keyLt x y with
  | false => rfl
  | true => have := key_trans h h2; rw [key_irrefl] at this; cases this
theorem Near.step {K : List (ByteArray × Int)} {i j : Nat} {x y : ByteArray × Int} (h : Near K i (j + 1)) (hi : j + 1 ≤ i) (hx : K[j]? = some x) (hy : K[j + 1]? = some y) (hl : keyLt y x = true) : Near (xch K j x y) i j := fun p q a b h1 h2 h3 ha hb => by
  rw [xch_get hx hy] at ha hb
  rw [if_neg h3] at hb
  by_cases e : q = j + 1
  · subst e
    rw [if_pos rfl] at hb; cases hb
    by_cases e2 : p = j
    · rw [if_pos e2] at ha; cases ha; exact key_asymm hl
    · rw [if_neg e2, if_neg (by omega)] at ha
      exact h p j a x (by omega) (by omega) (by omega) ha hx
  · rw [if_neg e] at hb
    by_cases e2 : p = j
    · rw [if_pos e2] at ha; cases ha
      exact h (j + 1) q y b (by omega) h2 e hy hb
    · rw [if_neg e2] at ha
      by_cases e3 : p = j + 1
      · rw [if_pos e3] at ha; cases ha
        exact h j q x b (by omega) h2 e hx hb
      · rw [if_neg e3] at ha
        exact h p q a b h1 h2 e ha hb
theorem Pre.all {K : List (ByteArray × Int)} {i : Nat} (h : Pre K i) (hi : K.length ≤ i) : InOrder K := by
  unfold InOrder
  rw [List.pairwise_iff_getElem]
  intro p q hp hq hpq
  exact h p q _ _ hpq (by omega) (List.getElem?_eq_getElem hp) (List.getElem?_eq_getElem hq)
end Go.Proofs.YtbogmmpbmgibnaaDoor.ins
