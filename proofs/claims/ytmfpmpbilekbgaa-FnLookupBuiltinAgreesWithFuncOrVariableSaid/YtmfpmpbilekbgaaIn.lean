/- Slices that came in, as rows. -/
import Derived.Test.YtmfpmpbilekbgaaZs
import Derived.Test.YtmfpmpbilekbgaaBase
set_option linter.unusedVariables false
namespace Go.Proofs.Ytmfpmpbilekbgaa.inrow
open Go.RowKit zs

theorem strRow {w : World} {a : Option Addr} {len cap : Nat} {z : List ByteArray} (h : inp.IsStrs w a len cap z) : StrRow w (.slice a len cap) (z.take len) := by
  rcases h with ⟨rfl, rfl, rfl, rfl⟩ | ⟨x, rfl, h1, h2, h3, h4, h5⟩
  · exact .inl ⟨rfl, rfl⟩
  · have hl : (z.take len).length = len := by rw [List.length_take]; omega
    refine .inr ⟨x, cap, by rw [hl], by rw [hl]; exact h1, h2, fun j s hs => ?_⟩
    have hj : j < len := by have := (List.getElem?_eq_some_iff.1 hs).1; omega
    rw [List.getElem?_take_of_lt hj] at hs
    have hjz := (List.getElem?_eq_some_iff.1 hs).1
    have e : z.getD j ByteArray.empty = s := by simp [List.getD, hs]
    exact ⟨by rw [h4 j hjz, e], h5 s (List.mem_of_getElem? hs)⟩
theorem intRow {w : World} {a : Option Addr} {len cap : Nat} {z : List Int} (h : inp.IsRow .i64 w a len cap z) : IntRow w (.slice a len cap) (z.take len) := by
  rcases h with ⟨rfl, rfl, rfl, rfl⟩ | ⟨x, rfl, h1, h2, h3, h4, h5⟩
  · exact .inl ⟨rfl, rfl⟩
  · have hl : (z.take len).length = len := by rw [List.length_take]; omega
    refine .inr ⟨x, cap, by rw [hl], by rw [hl]; exact h1, h2, fun j s hs => ?_⟩
    have hj : j < len := by have := (List.getElem?_eq_some_iff.1 hs).1; omega
    rw [List.getElem?_take_of_lt hj] at hs
    have hjz := (List.getElem?_eq_some_iff.1 hs).1
    have e : z.getD j 0 = s := by simp [List.getD, hs]
    exact ⟨by rw [h4 j hjz, e], h5 s (List.mem_of_getElem? hs)⟩
end Go.Proofs.Ytmfpmpbilekbgaa.inrow
