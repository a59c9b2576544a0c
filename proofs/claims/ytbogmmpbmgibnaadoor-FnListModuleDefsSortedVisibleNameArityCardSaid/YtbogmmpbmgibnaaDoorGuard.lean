/- The length guards of the laws with builtins: some answer; where it is true, every length is bounded. -/
import Derived.Test.YtbogmmpbmgibnaaDoorZs
set_option linter.unusedVariables false
namespace Go.Proofs.YtbogmmpbmgibnaaDoor.guard
open Go.ChangeShapes Go.WideShapes Go.ChangeAt Go.RowKit
open upd zs

def StrTo (l : List ByteArray) (k : Nat) : Prop := ∀ (j : Nat) (s : ByteArray), j < k → l[j]? = some s → s.size ≤ 1048576
theorem StrTo.next {l : List ByteArray} {k : Nat} {s : ByteArray} (h : StrTo l k) (hs : l[k]? = some s) (hz : s.size ≤ 1048576) : StrTo l (k + 1) := fun j y hj hy => by
  rcases Nat.lt_or_ge j k with hlt | hge
  · exact h j y hlt hy
  · obtain rfl : j = k := by omega
    rw [hs] at hy; cases hy; exact hz
def StrOK (l : List ByteArray) : Prop := l.length ≤ 1048576 ∧ StrTo l l.length
def GP (w : World) (P : Prop) (e : Ending) (w' : World) : Prop := ∃ b : Bool, e = .returned (.bool b) ∧ w = w' ∧ (b = true → P)
theorem GP.no {w : World} {P : Prop} : GP w P (.returned (.bool false)) w := ⟨false, rfl, rfl, fun h => by cases h⟩

set_option maxRecDepth 100000 in
set_option maxHeartbeats 4000000 in
theorem g5 (w : World) (va vb : Value) (la : List ByteArray) (lb : List Int) (ha : StrRow w va la) (hb : IntRow w vb lb) : Calls Tryd.prog 5 #[va, vb] w (GP w (StrOK la ∧ lb.length ≤ 1048576)) := by
  obtain ⟨aa, ca, rfl, hac, ham, haa⟩ := str_open ha
  obtain ⟨na, hna⟩ : ∃ na, na = la.length := ⟨_, rfl⟩
  have HNa := Lib.hid hna
  have HCa := Lib.hid haa
  rw [← hna] at hac ⊢
  clear ha haa hna
  unfold maxLen at ham
  obtain ⟨ab, cb, rfl, hbc, hbm, hba⟩ := int_open hb
  obtain ⟨nb, hnb⟩ : ∃ nb, nb = lb.length := ⟨_, rfl⟩
  have HNb := Lib.hid hnb
  rw [← hnb] at hbc ⊢
  clear hb hba hnb
  unfold maxLen at hbm
  go_enter Tryd.func5, Tryd.ntmps5
  go_wp2_with fail
  all_goals first | (go_ret; exact GP.no) | skip
  go_loop [5, 6] (fun z i => ∃ (k : Nat) (y : Int), k ≤ na ∧ z = .int .i64 y ∧ i = .int .i64 k ∧ Hid (StrTo la k)) (fun _ i => na - (intOf i).toNat)
  case atStart => exact ⟨0, _, Nat.zero_le _, rfl, rfl, fun j z h => by omega⟩
  case round =>
    obtain ⟨ka, ya, hka, rfl, rfl, HSa⟩ := hrel
    by_cases hlta : ka < na
    · obtain ⟨s, hs⟩ : ∃ s, la[ka]? = some s := ⟨_, List.getElem?_eq_getElem (by have := HNa.out; omega)⟩
      obtain ⟨x2, rfl, c0, hsz⟩ := HCa.out ka s hs
      have HZ := Lib.hid hs
      clear hs
      unfold maxLen at hsz
      go_wp2_with fail
      all_goals first | (go_ret; exact GP.no) | skip
      refine ⟨⟨ka + 1, _, by omega, rfl, by go_num, HSa.out.next HZ.out (by omega)⟩, ?_⟩
      simp [intOf] <;> omega
    · obtain rfl : ka = na := by omega
      go_wp2_with fail
      all_goals first | (go_ret; exact GP.no) | skip
      all_goals (go_ret; exact ⟨true, rfl, rfl, fun _ => ⟨⟨by rw [← HNa.out]; omega, by rw [← HNa.out]; exact HSa.out⟩, (by omega)⟩⟩)

set_option maxRecDepth 100000 in
set_option maxHeartbeats 4000000 in
theorem g10 (w : World) (va vb : Value) (la : List ByteArray) (lb : List Int) (ha : StrRow w va la) (hb : IntRow w vb lb) : Calls Tryd.prog 10 #[va, vb] w (GP w (StrOK la ∧ lb.length ≤ 1048576)) := by
  obtain ⟨aa, ca, rfl, hac, ham, haa⟩ := str_open ha
  obtain ⟨na, hna⟩ : ∃ na, na = la.length := ⟨_, rfl⟩
  have HNa := Lib.hid hna
  have HCa := Lib.hid haa
  rw [← hna] at hac ⊢
  clear ha haa hna
  unfold maxLen at ham
  obtain ⟨ab, cb, rfl, hbc, hbm, hba⟩ := int_open hb
  obtain ⟨nb, hnb⟩ : ∃ nb, nb = lb.length := ⟨_, rfl⟩
  have HNb := Lib.hid hnb
  rw [← hnb] at hbc ⊢
  clear hb hba hnb
  unfold maxLen at hbm
  go_enter Tryd.func10, Tryd.ntmps10
  go_wp2_with fail
  all_goals first | (go_ret; exact GP.no) | skip
  go_loop [5, 6] (fun z i => ∃ (k : Nat) (y : Int), k ≤ na ∧ z = .int .i64 y ∧ i = .int .i64 k ∧ Hid (StrTo la k)) (fun _ i => na - (intOf i).toNat)
  case atStart => exact ⟨0, _, Nat.zero_le _, rfl, rfl, fun j z h => by omega⟩
  case round =>
    obtain ⟨ka, ya, hka, rfl, rfl, HSa⟩ := hrel
    by_cases hlta : ka < na
    · obtain ⟨s, hs⟩ : ∃ s, la[ka]? = some s := ⟨_, List.getElem?_eq_getElem (by have := HNa.out; omega)⟩
      obtain ⟨x2, rfl, c0, hsz⟩ := HCa.out ka s hs
      have HZ := Lib.hid hs
      clear hs
      unfold maxLen at hsz
      go_wp2_with fail
      all_goals first | (go_ret; exact GP.no) | skip
      refine ⟨⟨ka + 1, _, by omega, rfl, by go_num, HSa.out.next HZ.out (by omega)⟩, ?_⟩
      simp [intOf] <;> omega
    · obtain rfl : ka = na := by omega
      go_wp2_with fail
      all_goals first | (go_ret; exact GP.no) | skip
      all_goals (go_ret; exact ⟨true, rfl, rfl, fun _ => ⟨⟨by rw [← HNa.out]; omega, by rw [← HNa.out]; exact HSa.out⟩, (by omega)⟩⟩)
end Go.Proofs.YtbogmmpbmgibnaaDoor.guard
