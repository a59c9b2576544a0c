/- Plain facts: how many different strings a list holds, and that a map filled from it holds so many entries; no program in sight. -/
import Derived.Maps.OwnSet
import Derived.Lib.Hide
namespace Go.Proofs.Ytiegckcmgdfjeaa.dist
open Go.Maps Go.WideShapes

/-- the strings as keys -/
def klits (ks : List ByteArray) : List Lit := ks.map fun s => .string s.data.toList
/-- how many different ones the first i hold -/
def dist (ks : List ByteArray) (i : Nat) : Nat := (((klits ks).take i).foldl addKey []).length

theorem same_str (a b : List UInt8) : (Lit.string a).sameKey (.string b) = (a == b) := by
  unfold Lit.sameKey; rfl

theorem any_fold (p : Lit) (hp : WideAt.IsKeyLit p) : ∀ (xs acc : List Lit), (xs.foldl addKey acc).any (fun y => y.sameKey p) = (acc.any (fun y => y.sameKey p) || xs.any (fun y => y.sameKey p))
  | [], acc => by simp
  | x :: r, acc => by
    rw [List.foldl_cons, any_fold p hp r, List.any_cons]
    unfold addKey
    split
    · rename_i h
      rw [List.any_eq_true] at h
      obtain ⟨y, hy, hs⟩ := h
      have e := WideAt.sameKey_eq hs
      subst e
      cases hq : y.sameKey p
      · simp
      · have : acc.any (fun y => y.sameKey p) = true := List.any_eq_true.2 ⟨y, hy, hq⟩
        rw [this]; simp
    · simp [List.any_append, Bool.or_assoc]

theorem addKey_len (acc : List Lit) (x : Lit) : (addKey acc x).length = acc.length + if acc.any (fun y => y.sameKey x) then 0 else 1 := by
  unfold addKey; split <;> simp

theorem dist_step (ks : List ByteArray) (i : Nat) (h : i < ks.length) : dist ks (i + 1) = dist ks i + if ((klits ks).take i).any (fun y => y.sameKey (.string (ks.getD i ByteArray.empty).data.toList)) then 0 else 1 := by
  have hl : i < (klits ks).length := by simpa [klits] using h
  have hx : (klits ks)[i] = .string (ks.getD i ByteArray.empty).data.toList := by simp [klits, h]
  unfold dist
  rw [List.take_succ_eq_append_getElem hl, List.foldl_append, List.foldl_cons, List.foldl_nil, hx]
  generalize hp : Lit.string (ks.getD i ByteArray.empty).data.toList = p
  have hk : WideAt.IsKeyLit p := by rw [← hp]; trivial
  rw [addKey_len, any_fold p hk _ []]
  simp only [List.any_nil, Bool.false_or]

theorem dist_yes (ks : List ByteArray) (i j : Nat) (h : i < ks.length) (hj : j < i) (e : ks.getD j ByteArray.empty = ks.getD i ByteArray.empty) : dist ks (i + 1) = dist ks i := by
  rw [dist_step ks i h, if_pos]; · omega
  rw [List.any_eq_true]
  refine ⟨.string (ks.getD j ByteArray.empty).data.toList, ?_, by rw [e, same_str]; simp⟩
  rw [List.mem_take_iff_getElem]
  exact ⟨j, by simp [klits]; omega, by simp [klits, show j < ks.length by omega]⟩
theorem dist_no (ks : List ByteArray) (i : Nat) (h : i < ks.length) (e : ∀ j, j < i → ks.getD j ByteArray.empty ≠ ks.getD i ByteArray.empty) : dist ks (i + 1) = dist ks i + 1 := by
  rw [dist_step ks i h, if_neg]
  rw [Bool.not_eq_true, List.any_eq_false]
  intro y hy
  rw [List.mem_take_iff_getElem] at hy
  obtain ⟨j, hj, rfl⟩ := hy
  have hj2 : j < i ∧ j < ks.length := by simp [klits] at hj; omega
  have hx : (klits ks)[j]'(by simp [klits]; omega) = .string (ks.getD j ByteArray.empty).data.toList := by simp [klits, hj2.2]
  rw [hx, same_str]
  intro hq
  have hq2 : (ks.getD j ByteArray.empty).data.toList = (ks.getD i ByteArray.empty).data.toList := by simpa using hq
  exact e j hj2.1 (ByteArray.ext (Array.toList_inj.1 hq2))
theorem dist_zero (ks : List ByteArray) : dist ks 0 = 0 := by simp [dist]
theorem dist_le (ks : List ByteArray) : ∀ i, dist ks i ≤ i
  | 0 => by simp [dist]
  | i + 1 => by
    have ih := dist_le ks i
    by_cases h : i < ks.length
    · rw [dist_step ks i h]; split <;> omega
    · have : dist ks (i + 1) = dist ks i := by
        unfold dist
        rw [List.take_of_length_le (by simp [klits]; omega), List.take_of_length_le (by simp [klits]; omega)]
      omega
theorem size_set {H : Type} (u : DataW H) (ks : List ByteArray) : Maps.size (setOf u (klits ks)) = dist ks ks.length := by
  rw [size_setOf u (klits ks) (fun x hx => by simp [klits] at hx; obtain ⟨s, _, rfl⟩ := hx; trivial)]
  unfold dist
  rw [List.take_of_length_le (by simp [klits])]
end Go.Proofs.Ytiegckcmgdfjeaa.dist
