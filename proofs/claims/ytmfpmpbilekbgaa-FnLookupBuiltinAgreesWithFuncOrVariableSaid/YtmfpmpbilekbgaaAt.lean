/- zzAt: the j-th number, or 0. -/
import Derived.Test.YtmfpmpbilekbgaaZs
set_option linter.unusedVariables false
namespace Go.Proofs.Ytmfpmpbilekbgaa.at'
open Go.ChangeShapes Go.WideShapes Go.ChangeAt Go.RowKit
open upd comp zs

theorem zzAt (w : World) (v : Value) (l : List Int) (h : IntRow w v l) (j : Nat) : Calls Try.prog 18 #[v, .int .i64 j] w fun e w' => e = .returned (.int .i64 (l.getD j 0)) ∧ w = w' := by
  rcases h with ⟨rfl, rfl⟩ | ⟨x, cap, rfl, h1, h2, h4⟩
  · have j1 : ¬ (j : Int) < 0 := by omega
    go_enter Try.func18, Try.ntmps18
    go_wp2_with fail
    go_ret
    exact ⟨rfl, rfl⟩
  · by_cases hlt : j < l.length
    · obtain ⟨n, hn⟩ : ∃ n, n = l.length := ⟨_, rfl⟩
      have HN := Lib.hid hn
      have c0 := (h4 j l[j] (List.getElem?_eq_getElem hlt)).1
      have e : l.getD j 0 = l[j] := by simp [List.getD, hlt]
      rw [e]
      generalize l[j] = z at c0 ⊢
      have j0 : (0 : Int) ≤ j := by omega
      have j1 : (j : Int) < n := by omega
      have j2 : n ≤ cap := by omega
      rw [← hn]
      clear h4 h1 hn e hlt
      go_enter Try.func18, Try.ntmps18
      go_wp2_with fail
      go_ret
      exact ⟨rfl, rfl⟩
    · have e : l.getD j 0 = 0 := by simp [List.getD, List.getElem?_eq_none (by omega : l.length ≤ j)]
      rw [e]
      have j1 : ¬ (j : Int) < l.length := by omega
      clear h4 e
      go_enter Try.func18, Try.ntmps18
      go_wp2_with fail
      go_ret
      exact ⟨rfl, rfl⟩
end Go.Proofs.Ytmfpmpbilekbgaa.at'
