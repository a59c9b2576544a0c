/- Where the codes of builtins lie; the sums of their bodies. -/
import Derived.Test.YtmfpmpbilekbgaaLay
set_option linter.unusedVariables false
namespace Go.Proofs.Ytmfpmpbilekbgaa.slots
open Go.ChangeShapes Go.WideShapes Go.ChangeAt Go.RowKit
open upd comp grow add lookv var newc push wrap pushv lookf doors codes lazy bi45 body lookb zs guard model lay

theorem start_mono (bd : Nat → Nat) {j n : Nat} (h : j ≤ n) : lay.start bd j ≤ lay.start bd n := by
  induction n with
  | zero => obtain rfl : j = 0 := by omega
            exact Nat.le_refl _
  | succ n ih =>
    rcases Nat.lt_or_ge j (n + 1) with hlt | hge
    · have := ih (by omega); simp only [lay.start]; omega
    · obtain rfl : j = n + 1 := by omega
      exact Nat.le_refl _
theorem start_fits (bd : Nat → Nat) {j n : Nat} (h : j < n) : lay.start bd j + 1 + bd j ≤ lay.start bd n := start_mono bd (j := j + 1) h
theorem at_old (bd : Nat → Nat) {n t : Nat} {x : Int × Value} (h : (bcodes bd n)[t]? = some x) : (bcodes bd (n + 1))[t]? = some x := by
  have ht := (List.getElem?_eq_some_iff.1 h).1
  unfold bcodes
  rw [List.append_assoc, List.getElem?_append_left ht]; exact h
theorem jump_at (bd : Nat → Nat) {j : Nat} : ∀ {n : Nat}, j < n → (bcodes bd n)[lay.start bd j]? = some (jump (lay.start bd j + 1 + bd j))
  | 0, h => by omega
  | n + 1, h => by
    rcases Nat.lt_or_ge j n with hlt | hge
    · exact at_old bd (jump_at bd hlt)
    · obtain rfl : j = n := by omega
      unfold bcodes
      rw [List.append_assoc, List.getElem?_append_right (by rw [bcodes_len]; exact Nat.le_refl _), bcodes_len]
      simp
theorem nop_at (bd : Nat → Nat) {j i : Nat} (h1 : 1 ≤ i) (h2 : i ≤ bd j) : ∀ {n : Nat}, j < n → (bcodes bd n)[lay.start bd j + i]? = some nop
  | 0, h => by omega
  | n + 1, h => by
    rcases Nat.lt_or_ge j n with hlt | hge
    · exact at_old bd (nop_at bd h1 h2 hlt)
    · obtain rfl : j = n := by omega
      obtain ⟨q, rfl⟩ : ∃ q, i = q + 1 := ⟨i - 1, by omega⟩
      unfold bcodes
      rw [List.append_assoc, List.getElem?_append_right (by rw [bcodes_len]; omega), bcodes_len]
      have e : lay.start bd j + (q + 1) - lay.start bd j = q + 1 := by omega
      rw [e]
      simp [List.getElem?_replicate]; omega
def tot (bd : Nat → Nat) : Nat → Nat
  | 0 => 0
  | j + 1 => tot bd j + bd j
theorem start_tot (bd : Nat → Nat) : ∀ k, lay.start bd k = k + tot bd k
  | 0 => rfl
  | k + 1 => by simp only [lay.start, tot, start_tot bd k]; omega
/-- the bodies' lengths -/
def bodyOf (lc : List Int) (j : Nat) : Nat := (lc.getD j 0).toNat
/-- the first j bodies are as the statement asks -/
def GoodB (lc : List Int) (j : Nat) : Prop := (∀ i, i < j → 0 ≤ lc.getD i 0 ∧ lc.getD i 0 ≤ 65536) ∧ tot (bodyOf lc) j ≤ 65536
theorem GoodB.zero (lc : List Int) : GoodB lc 0 := ⟨fun i h => by omega, Nat.zero_le _⟩
theorem GoodB.next {lc : List Int} {j : Nat} (h : GoodB lc j) (h1 : 0 ≤ lc.getD j 0) (h2 : lc.getD j 0 ≤ 65536) (h3 : (tot (bodyOf lc) j : Int) + lc.getD j 0 ≤ 65536) : GoodB lc (j + 1) ∧ ((tot (bodyOf lc) (j + 1) : Nat) : Int) = (tot (bodyOf lc) j : Int) + lc.getD j 0 := by
  have e : ((bodyOf lc j : Nat) : Int) = lc.getD j 0 := by unfold bodyOf; omega
  refine ⟨⟨fun i hi => ?_, ?_⟩, ?_⟩
  · rcases Nat.lt_or_ge i j with hlt | hge
    · exact h.1 i hlt
    · obtain rfl : i = j := by omega
      exact ⟨h1, h2⟩
  · simp only [tot]; omega
  · simp only [tot]; omega
theorem body_zero {lc : List Int} {j : Nat} (h : lc.length ≤ j) : lc.getD j 0 = 0 := by simp [List.getD, List.getElem?_eq_none h]
theorem GoodB.rest {lc : List Int} (h : GoodB lc lc.length) : ∀ n, lc.length ≤ n → GoodB lc n ∧ tot (bodyOf lc) n = tot (bodyOf lc) lc.length
  | 0, hn => by have e : lc.length = 0 := by omega
                rw [e] at h ⊢; exact ⟨h, rfl⟩
  | n + 1, hn => by
    rcases Nat.lt_or_ge n lc.length with hlt | hge
    · have e : n + 1 = lc.length := by omega
      rw [e]; exact ⟨h, rfl⟩
    · obtain ⟨h1, h2⟩ := GoodB.rest h n hge
      have hz := body_zero hge
      obtain ⟨h3, h4⟩ := h1.next (by omega) (by omega) (by have := h1.2; omega)
      exact ⟨h3, by omega⟩
theorem GoodB.nat {lc : List Int} {n k : Nat} (h : GoodB lc n) (hk : k < n) : lc.getD k 0 = ((bodyOf lc k : Nat) : Int) := by
  have := (h.1 k hk).1; unfold bodyOf; omega
theorem tot_mono (bd : Nat → Nat) {j n : Nat} (h : j ≤ n) : tot bd j ≤ tot bd n := by
  induction n with
  | zero => obtain rfl : j = 0 := by omega
            exact Nat.le_refl _
  | succ n ih =>
    rcases Nat.lt_or_ge j (n + 1) with hlt | hge
    · have := ih (by omega); simp only [tot]; omega
    · obtain rfl : j = n + 1 := by omega
      exact Nat.le_refl _
theorem GoodB.body {lc : List Int} {n k : Nat} (h : GoodB lc n) (hk : k < n) : bodyOf lc k ≤ 65536 ∧ tot (bodyOf lc) k ≤ 65536 := by
  have := (h.1 k hk).2
  exact ⟨by unfold bodyOf; omega, Nat.le_trans (tot_mono _ (Nat.le_of_lt hk)) h.2⟩
/-- the last builtin is found -/
theorem last_found {la : List ByteArray} {lb : List Int} {bd : Nat → Nat} {fs : List Nat} {w : World} {e : Ending} {m : Nat} {nm : ByteArray} {ac : Int} (hm : la.length = m + 1) (h1 : la[m]? = some nm) (h2 : lb.getD m 0 = ac) (k : LookB (bfuncs la lb bd la.length) fs nm ac w e) :
    ∃ p, e = .returned (.pointer (some ⟨p, 0, none⟩)) ∧ FunAt w p (nm, (lay.start bd m : Int) + 1, ac) := by
  have hmt : Mt la lb nm ac m := ⟨h1, h2⟩
  have hwb : WB la lb nm ac la.length ((m : Int) + 1) := .inr ⟨m, rfl, by omega, hmt, fun t h1 h2 => by omega⟩
  rcases agreeB hwb k with ⟨h, _⟩ | ⟨p, i, h, h3, h4, _⟩
  · omega
  · obtain rfl : i = m := by omega
    exact ⟨p, h3, h4⟩
theorem qt {w : World} {n : Nat} {f : FuncId} {args : Array Value} {v : Value} (h : Calls Try.prog f args (w.drewN n) fun e w' => e = .returned v ∧ w.drewN n = w') : Calls Try.prog f args (w.drewN n) fun e w'' => e = .returned v ∧ ∃ m, w'' = w.drewN m :=
  h.mono fun e w' ⟨h1, h2⟩ => ⟨h1, n, h2.symm⟩
end Go.Proofs.Ytmfpmpbilekbgaa.slots
