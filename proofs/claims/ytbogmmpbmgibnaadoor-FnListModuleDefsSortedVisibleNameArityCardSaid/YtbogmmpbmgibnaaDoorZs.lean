/- Rows of strings and of numbers in memory. -/
import Derived.Test.YtbogmmpbmgibnaaDoorProg
import Derived.Test.YtbogmmpbmgibnaaDoorUpd
import Derived.WalkKit
import Derived.KernelRfl
import Derived.ProofKit
import Derived.OpenShut
import Derived.LoopTactic
import Derived.WalkLawsBesides
import Derived.WalkSpells
import Derived.Laws.EntriesVeiled
import Derived.Deep.QuietTactic
import Derived.BigQuiet
import Derived.Deep.RegionLaw
import Derived.Deep.AppendLies
import Derived.StillTailTactics
import Derived.IntWalk
import Derived.Lib.Strings
set_option linter.unusedVariables false
namespace Go.Proofs.YtbogmmpbmgibnaaDoor.zs
open Go.ChangeShapes Go.WideShapes Go.ChangeAt Go.RowKit
open upd
theorem addr_lt {w : World} {x : Addr} {i : Nat} {v : Value} (h : w.cell? (x.add i) = some v) : x.block < w.heap.size := by
  have e : (x.add i).block = x.block := by unfold Addr.add; split <;> rfl
  unfold World.cell? at h
  rw [e] at h
  by_cases hx : x.block < w.heap.size
  · exact hx
  · rw [Array.getElem?_eq_none (by omega)] at h; simp at h
theorem add_block (x : Addr) (n : Nat) : (x.add n).block = x.block := by unfold Addr.add; split <;> rfl
/-- v is a slice of the strings l -/
def StrRow (w : World) (v : Value) (l : List ByteArray) : Prop :=
  (v = .slice none 0 0 ∧ l = []) ∨ ∃ x cap, v = .slice (some x) l.length cap ∧ l.length ≤ cap ∧ cap ≤ maxLen ∧ ∀ j s, l[j]? = some s → w.cell? (x.add j) = some (.string s) ∧ s.size ≤ maxLen
/-- v is a slice of the numbers l -/
def IntRow (w : World) (v : Value) (l : List Int) : Prop :=
  (v = .slice none 0 0 ∧ l = []) ∨ ∃ x cap, v = .slice (some x) l.length cap ∧ l.length ≤ cap ∧ cap ≤ maxLen ∧ ∀ j z, l[j]? = some z → w.cell? (x.add j) = some (.int .i64 z) ∧ (Lit.int .i64 z).wf = true
theorem StrRow.kept {w w' : World} {v : Value} {l : List ByteArray} (h : StrRow w v l) (hb : Below w.heap.size w w') : StrRow w' v l := by
  rcases h with h | ⟨x, cap, h1, h2, h3, h5⟩
  · exact .inl h
  · exact .inr ⟨x, cap, h1, h2, h3, fun j s hs => ⟨(hb.cell (p := x.add j) (by rw [add_block]; exact addr_lt (h5 j s hs).1)).trans (h5 j s hs).1, (h5 j s hs).2⟩⟩
theorem IntRow.kept {w w' : World} {v : Value} {l : List Int} (h : IntRow w v l) (hb : Below w.heap.size w w') : IntRow w' v l := by
  rcases h with h | ⟨x, cap, h1, h2, h3, h5⟩
  · exact .inl h
  · exact .inr ⟨x, cap, h1, h2, h3, fun j s hs => ⟨(hb.cell (p := x.add j) (by rw [add_block]; exact addr_lt (h5 j s hs).1)).trans (h5 j s hs).1, (h5 j s hs).2⟩⟩
theorem str_open {w : World} {v : Value} {l : List ByteArray} (h : StrRow w v l) : ∃ a c, v = .slice a l.length c ∧ l.length ≤ c ∧ c ≤ maxLen ∧ ∀ j s, l[j]? = some s → ∃ x, a = some x ∧ w.cell? (x.add j) = some (.string s) ∧ s.size ≤ maxLen := by
  rcases h with ⟨rfl, rfl⟩ | ⟨x, cap, rfl, h1, h2, h4⟩
  · exact ⟨_, _, rfl, Nat.le_refl _, Nat.zero_le _, fun j s h => by simp at h⟩
  · exact ⟨_, _, rfl, h1, h2, fun j s hs => ⟨x, rfl, h4 j s hs⟩⟩
theorem int_open {w : World} {v : Value} {l : List Int} (h : IntRow w v l) : ∃ a c, v = .slice a l.length c ∧ l.length ≤ c ∧ c ≤ maxLen ∧ ∀ j s, l[j]? = some s → ∃ x, a = some x ∧ w.cell? (x.add j) = some (.int .i64 s) ∧ (Lit.int .i64 s).wf = true := by
  rcases h with ⟨rfl, rfl⟩ | ⟨x, cap, rfl, h1, h2, h4⟩
  · exact ⟨_, _, rfl, Nat.le_refl _, Nat.zero_le _, fun j s h => by simp at h⟩
  · exact ⟨_, _, rfl, h1, h2, fun j s hs => ⟨x, rfl, h4 j s hs⟩⟩
theorem strRow {w : World} {a : Option Addr} {len cap : Nat} {z : List ByteArray} (h : inp.IsStrs w a len cap z) : StrRow w (.slice a len cap) (z.take len) := by
  rcases h with ⟨rfl, rfl, rfl, rfl⟩ | ⟨x, rfl, h1, h2, h3, h4, h5⟩
  · exact .inl ⟨rfl, rfl⟩
  · have hl : (z.take len).length = len := by rw [List.length_take]; omega
    refine .inr ⟨x, cap, by rw [hl], by rw [hl]; exact h1, h2, fun j s hs => ?_⟩
    have hj : j < len := by have := (List.getElem?_eq_some_iff.1 hs).1; omega
    rw [List.getElem?_take_of_lt hj] at hs
    have hjz := (List.getElem?_eq_some_iff.1 hs).1
    have e : z.getD j ByteArray.empty = s := by simp [List.getD, hs]
    exact ⟨by rw [h4 j hjz, e], h5 s (List.mem_of_getElem? hs)⟩
theorem intRow {w : World} {a : Option Addr} {len cap : Nat} {z : List Int} (h : inp.IsRow .i64 w a len cap z) : IntRow w (.slice a len cap) (z.take len) := by
  rcases h with ⟨rfl, rfl, rfl, rfl⟩ | ⟨x, rfl, h1, h2, h3, h4, h5⟩
  · exact .inl ⟨rfl, rfl⟩
  · have hl : (z.take len).length = len := by rw [List.length_take]; omega
    refine .inr ⟨x, cap, by rw [hl], by rw [hl]; exact h1, h2, fun j s hs => ?_⟩
    have hj : j < len := by have := (List.getElem?_eq_some_iff.1 hs).1; omega
    rw [List.getElem?_take_of_lt hj] at hs
    have hjz := (List.getElem?_eq_some_iff.1 hs).1
    have e : z.getD j 0 = s := by simp [List.getD, hs]
    exact ⟨by rw [h4 j hjz, e], h5 s (List.mem_of_getElem? hs)⟩
theorem info_parts {t : TypeId} {z : Value} {s b : Nat} (h : (Tryd.prog.info? t).map (fun i => (i.zero, i.size, i.bytes)) = some (some z, s, b)) : ∃ i, Tryd.prog.info? t = some i ∧ i.zero = some z ∧ i.size = s ∧ i.bytes = b := by
  cases hi : Tryd.prog.info? t with
  | none => rw [hi] at h; cases h
  | some i => rw [hi] at h; simp at h; exact ⟨i, rfl, h.1, h.2.1, h.2.2⟩

end Go.Proofs.YtbogmmpbmgibnaaDoor.zs
