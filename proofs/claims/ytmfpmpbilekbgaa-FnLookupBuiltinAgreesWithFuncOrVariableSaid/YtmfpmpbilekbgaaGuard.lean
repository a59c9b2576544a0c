/- The length guards over the statements' descriptions: some answer; where it is true, every length is bounded. -/
import Derived.Test.YtmfpmpbilekbgaaZs
set_option linter.unusedVariables false
namespace Go.Proofs.Ytmfpmpbilekbgaa.guard
open Go.ChangeShapes Go.WideShapes Go.ChangeAt Go.RowKit
open upd comp zs

theorem str_open {w : World} {v : Value} {l : List ByteArray} (h : StrRow w v l) : ∃ a c, v = .slice a l.length c ∧ l.length ≤ c ∧ c ≤ maxLen ∧ ∀ j s, l[j]? = some s → ∃ x, a = some x ∧ w.cell? (x.add j) = some (.string s) ∧ s.size ≤ maxLen := by
  rcases h with ⟨rfl, rfl⟩ | ⟨x, cap, rfl, h1, h2, h4⟩
  · exact ⟨_, _, rfl, Nat.le_refl _, Nat.zero_le _, fun j s h => by simp at h⟩
  · exact ⟨_, _, rfl, h1, h2, fun j s hs => ⟨x, rfl, h4 j s hs⟩⟩
theorem int_open {w : World} {v : Value} {l : List Int} (h : IntRow w v l) : ∃ a c, v = .slice a l.length c ∧ l.length ≤ c ∧ c ≤ maxLen ∧ ∀ j s, l[j]? = some s → ∃ x, a = some x ∧ w.cell? (x.add j) = some (.int .i64 s) ∧ (Lit.int .i64 s).wf = true := by
  rcases h with ⟨rfl, rfl⟩ | ⟨x, cap, rfl, h1, h2, h4⟩
  · exact ⟨_, _, rfl, Nat.le_refl _, Nat.zero_le _, fun j s h => by simp at h⟩
  · exact ⟨_, _, rfl, h1, h2, fun j s hs => ⟨x, rfl, h4 j s hs⟩⟩
theorem zs_open {w : World} {v : Value} {D : List Zs} (h : ZsRow w v D) : ∃ a c, v = .slice a D.length c ∧ D.length ≤ c ∧ c ≤ maxLen ∧ ∀ k z, D[k]? = some z → ∃ x, a = some x ∧ ZsAt w x k z := by
  rcases h with ⟨rfl, rfl⟩ | ⟨x, cap, rfl, h1, h2, h4⟩
  · exact ⟨_, _, rfl, Nat.le_refl _, Nat.zero_le _, fun j s h => by simp at h⟩
  · exact ⟨_, _, rfl, h1, h2, fun j s hs => ⟨x, rfl, h4 j s hs⟩⟩
/-- the spelling of the second and third cell of an element -/
theorem add_succ (x : Addr) (p q : Nat) : x.add (p + (q + 1)) = ⟨(x.add p).block, (x.add p).off + (q + 1), none⟩ := by
  unfold Addr.add; rw [if_neg (by omega)]; split
  · rename_i h; subst h; simp
  · simp; omega
def Short (z : Zs) : Prop := z.vars.length ≤ 1048576 ∧ z.funcs.length ≤ 1048576 ∧ z.ars.length ≤ 1048576
def ShortTo (D : List Zs) (k : Nat) : Prop := ∀ (j : Nat) (z : Zs), j < k → D[j]? = some z → Short z
theorem ShortTo.next {D : List Zs} {k : Nat} {z : Zs} (h : ShortTo D k) (hz : D[k]? = some z) (hs : Short z) : ShortTo D (k + 1) := fun j y hj hy => by
  rcases Nat.lt_or_ge j k with hlt | hge
  · exact h j y hlt hy
  · obtain rfl : j = k := by omega
    rw [hz] at hy; cases hy; exact hs
def Guard (w : World) (D : List Zs) (e : Ending) (w' : World) : Prop := ∃ b : Bool, e = .returned (.bool b) ∧ w = w' ∧ (b = true → D.length ≤ 1048576 ∧ ShortTo D D.length)
theorem Guard.no {w : World} {D : List Zs} : Guard w D (.returned (.bool false)) w := ⟨false, rfl, rfl, fun h => by cases h⟩
end Go.Proofs.Ytmfpmpbilekbgaa.guard
