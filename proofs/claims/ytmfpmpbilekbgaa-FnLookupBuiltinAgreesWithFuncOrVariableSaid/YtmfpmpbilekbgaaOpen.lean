/- A slice of descriptions that came in, opened: its rows of strings and numbers. -/
import Derived.Test.YtmfpmpbilekbgaaZs
import Derived.Deep.Slices
import Derived.ChangeSame
import Derived.SliceStrings
import Derived.OpenShut
set_option linter.unusedVariables false
namespace Go.Proofs.Ytmfpmpbilekbgaa.opn
open Go.ChangeShapes Go.WideShapes Go.ChangeAt Go.RowKit Go.Deep
open upd comp zs

theorem exists_list {α : Type} {P : Nat → α → Prop} : ∀ n : Nat, (∀ i, i < n → ∃ z, P i z) → ∃ D : List α, D.length = n ∧ ∀ i z, D[i]? = some z → P i z
  | 0, _ => ⟨[], rfl, fun i z h => by simp at h⟩
  | n + 1, h => by
    obtain ⟨D, hl, hD⟩ := exists_list n (fun i hi => h i (by omega))
    obtain ⟨z, hz⟩ := h n (by omega)
    refine ⟨D ++ [z], by simp [hl], fun i y hy => ?_⟩
    rcases Nat.lt_or_ge i n with hlt | hge
    · rw [List.getElem?_append_left (by omega)] at hy; exact hD i y hy
    · have hi : i = n := by have := (List.getElem?_eq_some_iff.1 hy).1; simp [hl] at this; omega
      subst hi
      rw [List.getElem?_append_right (by omega), hl] at hy
      simp at hy
      exact hy ▸ hz
theorem strRow_of {H : Type} {enc : TypeId × Value → H} {w : World} {n : Nat} {v : Value} {y : DataW H × List MemPlace} (h : DataW.trod enc Try.prog w 0 (fun _ => true) true n 22 [v] = some y) : ∃ l, StrRow w v l := by
  rcases open_strings Try.underlying22 Try.underlying9 (by kernel_rfl) h with ⟨hcs, _⟩ | ⟨x, l, c, zs, hcs, _, hl, hm, hz, _, hcell, hwz⟩
  · simp at hcs; exact ⟨[], .inl ⟨hcs, rfl⟩⟩
  · simp at hcs
    have hz' : zs.length = c := by simpa using hz
    refine ⟨zs.take l, .inr ⟨x, c, by rw [hcs]; simp; omega, by simp; omega, hm, fun j s hs => ?_⟩⟩
    rw [List.getElem?_take] at hs
    split at hs
    · have e : zs.getD j ByteArray.empty = s := by simp [List.getD, hs]
      exact ⟨by rw [← e]; exact hcell j (List.getElem?_eq_some_iff.1 hs).1, hwz s (List.mem_of_getElem? hs)⟩
    · cases hs
theorem intRow_of {H : Type} {enc : TypeId × Value → H} {w : World} {n : Nat} {v : Value} {y : DataW H × List MemPlace} (h : DataW.trod enc Try.prog w 0 (fun _ => true) true n 23 [v] = some y) : ∃ l, IntRow w v l := by
  rcases open_ints Try.underlying23 Try.underlying3 (by kernel_rfl) h with ⟨hcs, _⟩ | ⟨x, l, c, zs, hcs, _, hl, hm, hz, _, hcell, hwz⟩
  · simp at hcs; exact ⟨[], .inl ⟨hcs, rfl⟩⟩
  · simp at hcs
    have hz' : zs.length = c := by simpa using hz
    refine ⟨zs.take l, .inr ⟨x, c, by rw [hcs]; simp; omega, by simp; omega, hm, fun j s hs => ?_⟩⟩
    rw [List.getElem?_take] at hs
    split at hs
    · have e : zs.getD j 0 = s := by simp [List.getD, hs]
      exact ⟨by rw [← e]; exact hcell j (List.getElem?_eq_some_iff.1 hs).1, hwz s (List.mem_of_getElem? hs)⟩
    · cases hs
set_option maxRecDepth 100000 in
theorem zsRow_of {H : Type} {enc : TypeId × Value → H} {w : World} {v : Value} {d : DataW H} {p : List MemPlace} (h : DataW.Trod enc Try.prog w 0 (fun _ => true) true 41 v d p) (hv : ∃ a l c, v = .slice a l c) : ∃ D, ZsRow w v D := by
  obtain ⟨fuel, hf⟩ := h
  obtain ⟨a0, l0, c0, rfl⟩ := hv
  rcases open_slice Try.underlying41 hf with ⟨hcs, _⟩ | ⟨a, len, cap, m, n, D, Pl, hcs, _, hl, hm, hmm, _, hi⟩
  · simp [Value.cells] at hcs
    obtain ⟨rfl, rfl, rfl⟩ := hcs
    exact ⟨[], .inl ⟨rfl, rfl⟩⟩
  · simp [Value.cells] at hcs
    obtain ⟨rfl, rfl, rfl⟩ := hcs
    have hml : l0 ≤ m := by rw [hmm]; split <;> omega
    have e59 : Try.prog.cellsOf 59 = 3 := by kernel_rfl
    have e22 : Try.prog.cellsOf 22 = 1 := by kernel_rfl
    have e23 : Try.prog.cellsOf 23 = 1 := by kernel_rfl
    obtain ⟨L, hL, hz⟩ := exists_list (P := fun i z => ZsAt w a i z) l0 (fun i hil => by
      obtain ⟨cs, hc, ht⟩ := hi i (by omega)
      obtain ⟨ys, n', _, _, hlen, hyl, hg⟩ := DataW.trod_struct Try.underlying59 ht
      rw [e59] at hc hlen
      obtain ⟨_, _, hat⟩ := World.cells?_some hc
      match cs, hlen with
      | [c0, c1, c2], _ =>
        match ys, hyl with
        | [y0, y1, y2], _ =>
          have t1 := hg 0 _ rfl
          have t2 := hg 1 _ rfl
          have t3 := hg 2 _ rfl
          simp [e22, e23] at t1 t2 t3
          obtain ⟨q1, r1⟩ := strRow_of t1
          obtain ⟨q2, r2⟩ := strRow_of t2
          obtain ⟨q3, r3⟩ := intRow_of t3
          refine ⟨⟨q1, q2, q3⟩, c0, c1, c2, ?_, ?_, ?_, r1, r2, r3⟩
          · have := hat 0 (by omega); rwa [Deep.add_add] at this
          · have := hat 1 (by omega); rwa [Deep.add_add] at this
          · have := hat 2 (by omega); rwa [Deep.add_add] at this)
    exact ⟨L, .inr ⟨a, c0, by rw [hL], by omega, hm, hz⟩⟩
end Go.Proofs.Ytmfpmpbilekbgaa.opn
