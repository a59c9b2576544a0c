/- The length guards of the laws with builtins: some answer; where it is true, every length is bounded. -/
import Derived.Test.YtmfpmpbilekbgaaGuard
set_option linter.unusedVariables false
namespace Go.Proofs.Ytmfpmpbilekbgaa.guard
open Go.ChangeShapes Go.WideShapes Go.ChangeAt Go.RowKit
open upd comp zs

def StrTo (l : List ByteArray) (k : Nat) : Prop := ∀ (j : Nat) (s : ByteArray), j < k → l[j]? = some s → s.size ≤ 1048576
theorem StrTo.next {l : List ByteArray} {k : Nat} {s : ByteArray} (h : StrTo l k) (hs : l[k]? = some s) (hz : s.size ≤ 1048576) : StrTo l (k + 1) := fun j y hj hy => by
  rcases Nat.lt_or_ge j k with hlt | hge
  · exact h j y hlt hy
  · obtain rfl : j = k := by omega
    rw [hs] at hy; cases hy; exact hz
def StrOK (l : List ByteArray) : Prop := l.length ≤ 1048576 ∧ StrTo l l.length
def GP (w : World) (P : Prop) (e : Ending) (w' : World) : Prop := ∃ b : Bool, e = .returned (.bool b) ∧ w = w' ∧ (b = true → P)
theorem GP.no {w : World} {P : Prop} : GP w P (.returned (.bool false)) w := ⟨false, rfl, rfl, fun h => by cases h⟩

set_option maxRecDepth 100000 in
set_option maxHeartbeats 4000000 in
theorem g35 (w : World) (va vb : Value) (la : List ByteArray) (lb : List Int) (nm : ByteArray) (ac : Int) (ha : StrRow w va la) (hb : IntRow w vb lb) (hnm : nm.size ≤ maxLen) : Calls Try.prog 35 #[va, vb, .string nm, .int .i64 ac] w (GP w (StrOK la ∧ lb.length ≤ 1048576 ∧ nm.size ≤ 1048576)) := by
  obtain ⟨aa, ca, rfl, hac, ham, haa⟩ := str_open ha
  obtain ⟨na, hna⟩ : ∃ na, na = la.length := ⟨_, rfl⟩
  have HNa := Lib.hid hna
  have HCa := Lib.hid haa
  rw [← hna] at hac ⊢
  clear ha haa hna
  unfold maxLen at ham
  obtain ⟨ab, cb, rfl, hbc, hbm, hba⟩ := int_open hb
  obtain ⟨nb, hnb⟩ : ∃ nb, nb = lb.length := ⟨_, rfl⟩
  have HNb := Lib.hid hnb
  rw [← hnb] at hbc ⊢
  clear hb hba hnb
  unfold maxLen at hbm
  unfold maxLen at hnm
  go_enter Try.func35, Try.ntmps35
  go_wp2_with fail
  all_goals first | (go_ret; exact GP.no) | skip
  go_loop [9, 10] (fun z i => ∃ (k : Nat) (y : Int), k ≤ na ∧ z = .int .i64 y ∧ i = .int .i64 k ∧ Hid (StrTo la k)) (fun _ i => na - (intOf i).toNat)
  case atStart => exact ⟨0, _, Nat.zero_le _, rfl, rfl, fun j z h => by omega⟩
  case round =>
    obtain ⟨ka, ya, hka, rfl, rfl, HSa⟩ := hrel
    by_cases hlta : ka < na
    · obtain ⟨s, hs⟩ : ∃ s, la[ka]? = some s := ⟨_, List.getElem?_eq_getElem (by have := HNa.out; omega)⟩
      obtain ⟨x2, rfl, c0, hsz⟩ := HCa.out ka s hs
      have HZ := Lib.hid hs
      clear hs
      unfold maxLen at hsz
      go_wp2_with fail
      all_goals first | (go_ret; exact GP.no) | skip
      refine ⟨⟨ka + 1, _, by omega, rfl, by go_num, HSa.out.next HZ.out (by omega)⟩, ?_⟩
      simp [intOf] <;> omega
    · obtain rfl : ka = na := by omega
      go_wp2_with fail
      all_goals first | (go_ret; exact GP.no) | skip
      all_goals (go_ret; exact ⟨true, rfl, rfl, fun _ => ⟨⟨by rw [← HNa.out]; omega, by rw [← HNa.out]; exact HSa.out⟩, (by omega), by omega⟩⟩)

set_option maxRecDepth 100000 in
set_option maxHeartbeats 4000000 in
theorem g11 (w : World) (va vb vc : Value) (la : List ByteArray) (lb lc : List Int) (ha : StrRow w va la) (hb : IntRow w vb lb) (hc : IntRow w vc lc) : Calls Try.prog 11 #[va, vb, vc] w (GP w (StrOK la ∧ lb.length ≤ 1048576 ∧ lc.length ≤ 1048576)) := by
  obtain ⟨aa, ca, rfl, hac, ham, haa⟩ := str_open ha
  obtain ⟨na, hna⟩ : ∃ na, na = la.length := ⟨_, rfl⟩
  have HNa := Lib.hid hna
  have HCa := Lib.hid haa
  rw [← hna] at hac ⊢
  clear ha haa hna
  unfold maxLen at ham
  obtain ⟨ab, cb, rfl, hbc, hbm, hba⟩ := int_open hb
  obtain ⟨nb, hnb⟩ : ∃ nb, nb = lb.length := ⟨_, rfl⟩
  have HNb := Lib.hid hnb
  rw [← hnb] at hbc ⊢
  clear hb hba hnb
  unfold maxLen at hbm
  obtain ⟨ac, cc, rfl, hcc, hcm, hca⟩ := int_open hc
  obtain ⟨nc, hnc⟩ : ∃ nc, nc = lc.length := ⟨_, rfl⟩
  have HNc := Lib.hid hnc
  rw [← hnc] at hcc ⊢
  clear hc hca hnc
  unfold maxLen at hcm
  go_enter Try.func11, Try.ntmps11
  go_wp2_with fail
  all_goals first | (go_ret; exact GP.no) | skip
  go_loop [7, 8] (fun z i => ∃ (k : Nat) (y : Int), k ≤ na ∧ z = .int .i64 y ∧ i = .int .i64 k ∧ Hid (StrTo la k)) (fun _ i => na - (intOf i).toNat)
  case atStart => exact ⟨0, _, Nat.zero_le _, rfl, rfl, fun j z h => by omega⟩
  case round =>
    obtain ⟨ka, ya, hka, rfl, rfl, HSa⟩ := hrel
    by_cases hlta : ka < na
    · obtain ⟨s, hs⟩ : ∃ s, la[ka]? = some s := ⟨_, List.getElem?_eq_getElem (by have := HNa.out; omega)⟩
      obtain ⟨x2, rfl, c0, hsz⟩ := HCa.out ka s hs
      have HZ := Lib.hid hs
      clear hs
      unfold maxLen at hsz
      go_wp2_with fail
      all_goals first | (go_ret; exact GP.no) | skip
      refine ⟨⟨ka + 1, _, by omega, rfl, by go_num, HSa.out.next HZ.out (by omega)⟩, ?_⟩
      simp [intOf] <;> omega
    · obtain rfl : ka = na := by omega
      go_wp2_with fail
      all_goals first | (go_ret; exact GP.no) | skip
      all_goals (go_ret; exact ⟨true, rfl, rfl, fun _ => ⟨⟨by rw [← HNa.out]; omega, by rw [← HNa.out]; exact HSa.out⟩, (by omega), (by omega)⟩⟩)

set_option maxRecDepth 100000 in
set_option maxHeartbeats 4000000 in
theorem g38 (w : World) (va vb vc : Value) (la : List ByteArray) (lb : List Int) (lc : List ByteArray) (nm : ByteArray) (ha : StrRow w va la) (hb : IntRow w vb lb) (hc : StrRow w vc lc) (hnm : nm.size ≤ maxLen) : Calls Try.prog 38 #[va, vb, vc, .string nm] w (GP w (StrOK la ∧ lb.length ≤ 1048576 ∧ StrOK lc ∧ nm.size ≤ 1048576)) := by
  obtain ⟨aa, ca, rfl, hac, ham, haa⟩ := str_open ha
  obtain ⟨na, hna⟩ : ∃ na, na = la.length := ⟨_, rfl⟩
  have HNa := Lib.hid hna
  have HCa := Lib.hid haa
  rw [← hna] at hac ⊢
  clear ha haa hna
  unfold maxLen at ham
  obtain ⟨ab, cb, rfl, hbc, hbm, hba⟩ := int_open hb
  obtain ⟨nb, hnb⟩ : ∃ nb, nb = lb.length := ⟨_, rfl⟩
  have HNb := Lib.hid hnb
  rw [← hnb] at hbc ⊢
  clear hb hba hnb
  unfold maxLen at hbm
  obtain ⟨ac, cc, rfl, hcc, hcm, hca⟩ := str_open hc
  obtain ⟨nc, hnc⟩ : ∃ nc, nc = lc.length := ⟨_, rfl⟩
  have HNc := Lib.hid hnc
  have HCc := Lib.hid hca
  rw [← hnc] at hcc ⊢
  clear hc hca hnc
  unfold maxLen at hcm
  unfold maxLen at hnm
  go_enter Try.func38, Try.ntmps38
  go_wp2_with fail
  all_goals first | (go_ret; exact GP.no) | skip
  go_loop [9, 10] (fun z i => ∃ (k : Nat) (y : Int), k ≤ na ∧ z = .int .i64 y ∧ i = .int .i64 k ∧ Hid (StrTo la k)) (fun _ i => na - (intOf i).toNat)
  case atStart => exact ⟨0, _, Nat.zero_le _, rfl, rfl, fun j z h => by omega⟩
  case round =>
    obtain ⟨ka, ya, hka, rfl, rfl, HSa⟩ := hrel
    by_cases hlta : ka < na
    · obtain ⟨s, hs⟩ : ∃ s, la[ka]? = some s := ⟨_, List.getElem?_eq_getElem (by have := HNa.out; omega)⟩
      obtain ⟨x2, rfl, c0, hsz⟩ := HCa.out ka s hs
      have HZ := Lib.hid hs
      clear hs
      unfold maxLen at hsz
      go_wp2_with fail
      all_goals first | (go_ret; exact GP.no) | skip
      refine ⟨⟨ka + 1, _, by omega, rfl, by go_num, HSa.out.next HZ.out (by omega)⟩, ?_⟩
      simp [intOf] <;> omega
    · obtain rfl : ka = na := by omega
      go_wp2_with fail
      all_goals first | (go_ret; exact GP.no) | skip
      go_loop [9, 11] (fun z i => ∃ (k : Nat) (y : Int), k ≤ nc ∧ z = .int .i64 y ∧ i = .int .i64 k ∧ Hid (StrTo lc k)) (fun _ i => nc - (intOf i).toNat)
      case atStart => exact ⟨0, _, Nat.zero_le _, rfl, rfl, fun j z h => by omega⟩
      case round =>
        obtain ⟨kc, yc, hkc, rfl, rfl, HSc⟩ := hrel
        by_cases hltc : kc < nc
        · obtain ⟨s, hs⟩ : ∃ s, lc[kc]? = some s := ⟨_, List.getElem?_eq_getElem (by have := HNc.out; omega)⟩
          obtain ⟨x2, rfl, c0, hsz⟩ := HCc.out kc s hs
          have HZ := Lib.hid hs
          clear hs
          unfold maxLen at hsz
          go_wp2_with fail
          all_goals first | (go_ret; exact GP.no) | skip
          refine ⟨⟨kc + 1, _, by omega, rfl, by go_num, HSc.out.next HZ.out (by omega)⟩, ?_⟩
          simp [intOf] <;> omega
        · obtain rfl : kc = nc := by omega
          go_wp2_with fail
          all_goals first | (go_ret; exact GP.no) | skip
          all_goals (go_ret; exact ⟨true, rfl, rfl, fun _ => ⟨⟨by rw [← HNa.out]; omega, by rw [← HNa.out]; exact HSa.out⟩, (by omega), ⟨by rw [← HNc.out]; omega, by rw [← HNc.out]; exact HSc.out⟩, by omega⟩⟩)
end Go.Proofs.Ytmfpmpbilekbgaa.guard
