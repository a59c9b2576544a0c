/- The statements' description of scopes in memory: a slice of three slices each (three cells an element); no function of the program in sight. -/
import Derived.Test.YtmfpmpbilekbgaaComp
set_option linter.unusedVariables false
namespace Go.Proofs.Ytmfpmpbilekbgaa.zs
open Go.ChangeShapes Go.WideShapes Go.ChangeAt Go.RowKit
open upd comp

structure Zs where
  vars : List ByteArray
  funcs : List ByteArray
  ars : List Int

theorem addr_lt {w : World} {x : Addr} {i : Nat} {v : Value} (h : w.cell? (x.add i) = some v) : x.block < w.heap.size := by
  have e : (x.add i).block = x.block := by unfold Addr.add; split <;> rfl
  unfold World.cell? at h
  rw [e] at h
  by_cases hx : x.block < w.heap.size
  · exact hx
  · rw [Array.getElem?_eq_none (by omega)] at h; simp at h
theorem add_block (x : Addr) (n : Nat) : (x.add n).block = x.block := by unfold Addr.add; split <;> rfl
/-- v is a slice of the strings l -/
def StrRow (w : World) (v : Value) (l : List ByteArray) : Prop :=
  (v = .slice none 0 0 ∧ l = []) ∨ ∃ x cap, v = .slice (some x) l.length cap ∧ l.length ≤ cap ∧ cap ≤ maxLen ∧ ∀ j s, l[j]? = some s → w.cell? (x.add j) = some (.string s) ∧ s.size ≤ maxLen
/-- v is a slice of the numbers l -/
def IntRow (w : World) (v : Value) (l : List Int) : Prop :=
  (v = .slice none 0 0 ∧ l = []) ∨ ∃ x cap, v = .slice (some x) l.length cap ∧ l.length ≤ cap ∧ cap ≤ maxLen ∧ ∀ j z, l[j]? = some z → w.cell? (x.add j) = some (.int .i64 z) ∧ (Lit.int .i64 z).wf = true
theorem StrRow.kept {w w' : World} {v : Value} {l : List ByteArray} (h : StrRow w v l) (hb : Below w.heap.size w w') : StrRow w' v l := by
  rcases h with h | ⟨x, cap, h1, h2, h3, h5⟩
  · exact .inl h
  · exact .inr ⟨x, cap, h1, h2, h3, fun j s hs => ⟨(hb.cell (p := x.add j) (by rw [add_block]; exact addr_lt (h5 j s hs).1)).trans (h5 j s hs).1, (h5 j s hs).2⟩⟩
theorem IntRow.kept {w w' : World} {v : Value} {l : List Int} (h : IntRow w v l) (hb : Below w.heap.size w w') : IntRow w' v l := by
  rcases h with h | ⟨x, cap, h1, h2, h3, h5⟩
  · exact .inl h
  · exact .inr ⟨x, cap, h1, h2, h3, fun j s hs => ⟨(hb.cell (p := x.add j) (by rw [add_block]; exact addr_lt (h5 j s hs).1)).trans (h5 j s hs).1, (h5 j s hs).2⟩⟩
/-- the element k of a row at x -/
def ZsAt (w : World) (x : Addr) (k : Nat) (z : Zs) : Prop :=
  ∃ v f r, w.cell? (x.add (k * 3)) = some v ∧ w.cell? (x.add (k * 3 + 1)) = some f ∧ w.cell? (x.add (k * 3 + 2)) = some r ∧ StrRow w v z.vars ∧ StrRow w f z.funcs ∧ IntRow w r z.ars
theorem ZsAt.kept {w w' : World} {x : Addr} {k : Nat} {z : Zs} (h : ZsAt w x k z) (hb : Below w.heap.size w w') : ZsAt w' x k z := by
  obtain ⟨v, f, r, h1, h2, h3, h4, h5, h6⟩ := h
  have e : ∀ n, w'.cell? (x.add n) = w.cell? (x.add n) := fun n => hb.cell (p := x.add n) (by rw [add_block]; exact addr_lt h1)
  exact ⟨v, f, r, (e _).trans h1, (e _).trans h2, (e _).trans h3, h4.kept hb, h5.kept hb, h6.kept hb⟩
/-- v is a slice of the descriptions D -/
def ZsRow (w : World) (v : Value) (D : List Zs) : Prop :=
  (v = .slice none 0 0 ∧ D = []) ∨ ∃ x cap, v = .slice (some x) D.length cap ∧ D.length ≤ cap ∧ cap ≤ maxLen ∧ ∀ k z, D[k]? = some z → ZsAt w x k z
theorem ZsRow.kept {w w' : World} {v : Value} {D : List Zs} (h : ZsRow w v D) (hb : Below w.heap.size w w') : ZsRow w' v D := by
  rcases h with h | ⟨x, cap, h1, h2, h3, h5⟩
  · exact .inl h
  · exact .inr ⟨x, cap, h1, h2, h3, fun k z hz => (h5 k z hz).kept hb⟩
end Go.Proofs.Ytmfpmpbilekbgaa.zs
