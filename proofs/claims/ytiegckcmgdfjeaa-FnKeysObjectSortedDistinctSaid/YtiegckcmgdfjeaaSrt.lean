/- Plain facts: the keys of a map, collected in whatever order and sorted: strictly rising, just the map's keys, as many as it has. No program in sight. -/
import Derived.Test.YtiegckcmgdfjeaaDist
import Derived.Sort.KeysCollected
namespace Go.Proofs.Ytiegckcmgdfjeaa.srt
open Go.Maps Go.WideShapes
open dist

/-- what the collected and sorted list is -/
structure SrtD {H : Type} (D0 : DataW H) (ts : List (List UInt8)) : Prop where
  len : ts.length = Maps.size D0
  mem : ∀ x, x ∈ ts ↔ Maps.has D0 (.string x) = true
  up : ts.Pairwise (· < ·)

theorem len_of_perm {H : Type} {D0 : DataW H} {ss : List (List UInt8)} (h : ss.Perm (strKeys D0)) (hm : ∃ es, D0 = .map es) : ss.length = Maps.size D0 := by
  obtain ⟨es, rfl⟩ := hm
  rw [h.length_eq]
  simp [strKeys, Maps.size]

theorem srt_of {H : Type} {D0 : DataW H} {left : Lit → Bool} {ss : List (List UInt8)} (hC : Collected D0 left ss) (hl : ∀ kl, left kl = false) (hlen : ss.length = Maps.size D0) : SrtD D0 (ss.mergeSort fun x y => decide (x ≤ y)) := by
  refine ⟨by simpa using hlen, fun x => ?_, ?_⟩
  · rw [List.mem_mergeSort, hC.2 x, hl]; simp
  · have tr : ∀ a b c : List UInt8, decide (a ≤ b) = true → decide (b ≤ c) = true → decide (a ≤ c) = true := fun a b c h1 h2 => by simp only [decide_eq_true_eq] at *; exact List.le_trans h1 h2
    have to : ∀ a b : List UInt8, (decide (a ≤ b) || decide (b ≤ a)) = true := fun a b => by simp only [Bool.or_eq_true, decide_eq_true_eq]; exact List.le_total a b
    have h1 := List.pairwise_mergeSort (le := fun x y : List UInt8 => decide (x ≤ y)) tr to ss
    have h2 : (ss.mergeSort fun x y => decide (x ≤ y)).Nodup := (List.mergeSort_perm ss _).nodup_iff.2 hC.1
    refine (h1.and h2).imp fun {a b} ⟨hle, hne⟩ => ?_
    simp only [decide_eq_true_eq] at hle
    by_cases h : a < b
    · exact h
    · exact absurd (List.le_antisymm hle (List.not_lt.1 h)) hne

theorem has_klits {H : Type} (u : DataW H) (ks : List ByteArray) (x : List UInt8) : has (setOf u (klits ks)) (.string x) = true ↔ ∃ s ∈ ks, s.data.toList = x := by
  rw [has_setOf u _ _ (fun x hx => by simp [klits] at hx; obtain ⟨s, _, rfl⟩ := hx; trivial), List.any_eq_true]
  constructor
  · rintro ⟨l, hl, hs⟩
    simp only [klits, List.mem_map] at hl
    obtain ⟨s, hm, rfl⟩ := hl
    rw [same_str] at hs
    exact ⟨s, hm, by simpa using hs⟩
  · rintro ⟨s, hm, rfl⟩
    exact ⟨.string s.data.toList, by simp only [klits, List.mem_map]; exact ⟨s, hm, rfl⟩, by rw [same_str]; simp⟩
/-- at an object filled from a list: the keys of that list -/
structure Srt (ks : List ByteArray) (ts : List (List UInt8)) : Prop where
  len : ts.length = dist ks ks.length
  mem : ∀ x, x ∈ ts ↔ ∃ s ∈ ks, s.data.toList = x
  up : ts.Pairwise (· < ·)
theorem SrtD.srt {H : Type} {u : DataW H} {ks : List ByteArray} {ts : List (List UInt8)} (h : SrtD (setOf u (klits ks)) ts) : Srt ks ts :=
  ⟨by rw [h.len, size_set], fun x => by rw [h.mem x, has_klits], h.up⟩
end Go.Proofs.Ytiegckcmgdfjeaa.srt
