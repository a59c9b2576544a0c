/- zzDefsGuard (f6): the number of definitions, and what is known of them where it says so. -/
import Derived.Test.YtbogmmpbmgibnaaDoorGuard
set_option linter.unusedVariables false
namespace Go.Proofs.YtbogmmpbmgibnaaDoor.defsg
open Go.ChangeShapes Go.WideShapes Go.ChangeAt Go.RowKit
open upd zs guard

/-- the first k names and arities are as the statement asks -/
def OKTo (la : List ByteArray) (lb : List Int) (k : Nat) : Prop := ∀ j s, j < k → la[j]? = some s → 0 < s.size ∧ 0 ≤ lb.getD j 0 ∧ lb.getD j 0 ≤ 65536
theorem OKTo.next {la : List ByteArray} {lb : List Int} {k : Nat} {s : ByteArray} (h : OKTo la lb k) (hs : la[k]? = some s) (h1 : 0 < s.size) (h2 : 0 ≤ lb.getD k 0) (h3 : lb.getD k 0 ≤ 65536) : OKTo la lb (k + 1) := fun j t hj ht => by
  rcases Nat.lt_or_ge j k with hlt | hge
  · exact h j t hlt ht
  · obtain rfl : j = k := by omega
    rw [hs] at ht; cases ht; exact ⟨h1, h2, h3⟩
def DG (w : World) (la : List ByteArray) (lb : List Int) (e : Ending) (w' : World) : Prop :=
  ∃ (q : Int) (b : Bool), e = .returned (.tuple #[.int .i64 q, .bool b]) ∧ w = w' ∧ (b = true → q = ((min la.length lb.length : Nat) : Int) ∧ OKTo la lb (min la.length lb.length))
theorem DG.no {w : World} {la : List ByteArray} {lb : List Int} : DG w la lb (.returned (.tuple #[.int .i64 0, .bool false])) w := ⟨0, false, rfl, rfl, fun h => by cases h⟩

set_option maxRecDepth 100000 in
set_option maxHeartbeats 4000000 in
theorem dg6 (w : World) (va vb : Value) (la : List ByteArray) (lb : List Int) (ha : StrRow w va la) (hb : IntRow w vb lb) (hl : la.length ≤ 4096) (hm : lb.length ≤ 4096) : Calls Tryd.prog 6 #[va, vb] w (DG w la lb) := by
  obtain ⟨aa, ca, rfl, hac, hacm, haa⟩ := str_open ha
  obtain ⟨ab, cb, rfl, hbc, hbcm, hba⟩ := int_open hb
  obtain ⟨n, hn⟩ : ∃ n, n = la.length := ⟨_, rfl⟩
  obtain ⟨m, hmm⟩ : ∃ m, m = lb.length := ⟨_, rfl⟩
  have HN := Lib.hid hn
  have HM := Lib.hid hmm
  have HA := Lib.hid haa
  have HB := Lib.hid hba
  rw [← hn] at hac hl ⊢
  rw [← hmm] at hbc hm ⊢
  obtain ⟨q, hq⟩ : ∃ q, q = min n m := ⟨_, rfl⟩
  have HQ := Lib.hid hq
  have hqn : q ≤ n := by omega
  have hqm : q ≤ m := by omega
  have HPOST : Hid (OKTo la lb q → DG w la lb (.returned (.tuple #[.int .i64 q, .bool true])) w) := fun h => ⟨q, true, rfl, rfl, fun _ => by rw [← HN.out, ← HM.out, ← HQ.out]; exact ⟨rfl, h⟩⟩
  clear ha hb haa hba hn hmm hq
  unfold maxLen at hacm hbcm
  go_enter Tryd.func6, Tryd.ntmps6
  go_wp2_with fail
  all_goals first | (go_ret2; exact DG.no) | skip
  go_loop [6, 7] (fun z i => ∃ (k : Nat) (y : Int), k ≤ n ∧ z = .int .i64 y ∧ i = .int .i64 k) (fun _ i => n - (intOf i).toNat)
  case atStart => exact ⟨0, _, Nat.zero_le _, rfl, rfl⟩
  case round =>
    obtain ⟨k, y, hk, rfl, rfl⟩ := hrel
    by_cases hlt : k < n
    · obtain ⟨s, hs⟩ : ∃ s, la[k]? = some s := ⟨_, List.getElem?_eq_getElem (by have := HN.out; omega)⟩
      obtain ⟨x2, rfl, c0, hsz⟩ := HA.out k s hs
      clear hs
      unfold maxLen at hsz
      go_wp2_with fail
      refine ⟨⟨k + 1, _, by omega, rfl, by go_num⟩, ?_⟩
      simp [intOf] <;> omega
    · obtain rfl : n = k := by omega
      by_cases hmn : m < n
      · obtain rfl : q = m := by have := HQ.out; omega
        have HOK0 : Hid (OKTo la lb 0) := fun j s hj _ => by omega
        go_wp2_with fail
        all_goals first | (go_ret2; exact DG.no) | skip
        go_loop [9, 10] (fun z i => ∃ (t : Nat) (y : Int), t ≤ q ∧ z = .int .i64 y ∧ i = .int .i64 t ∧ Hid (OKTo la lb t)) (fun _ i => q - (intOf i).toNat)
        case atStart => exact ⟨0, 0, Nat.zero_le _, rfl, rfl, HOK0⟩
        case round =>
          obtain ⟨t, z, ht, rfl, rfl, HOK⟩ := hrel
          clear HOK0
          by_cases htq : t < q
          · obtain ⟨s, hs⟩ : ∃ s, la[t]? = some s := ⟨_, List.getElem?_eq_getElem (by have := HN.out; omega)⟩
            obtain ⟨x2, rfl, c0, hsz⟩ := HA.out t s hs
            obtain ⟨a, hav⟩ : ∃ a, lb[t]? = some a := ⟨_, List.getElem?_eq_getElem (by have := HM.out; omega)⟩
            obtain ⟨x3, rfl, c1, _⟩ := HB.out t a hav
            have HAV : Hid (lb.getD t 0 = a) := by unfold Hid; simp [List.getD, hav]
            have HS := Lib.hid hs
            clear hs hav
            by_cases hs0 : s.size = 0
            · have hse : s = ⟨#[]⟩ := by
                obtain ⟨d⟩ := s; have : d = #[] := Array.eq_empty_of_size_eq_zero hs0; rw [this]
              subst hse
              go_wp2_with fail
              all_goals (go_ret2; exact DG.no)
            have hne : (s.toList == []) = false := by
              rw [beq_eq_false_iff_ne]; intro e; rw [Lib.toList_data] at e; apply hs0
              have := congrArg List.length e; simpa using this
            have hne2 : (s.toList == (⟨#[]⟩ : ByteArray).toList) = false := by
              rw [beq_eq_false_iff_ne]; intro e; rw [Lib.toList_data, Lib.toList_data] at e; apply hs0
              have := congrArg List.length e; simpa using this
            by_cases ha0 : a < 0
            · clear hne2
              go_wp2_with fail
              all_goals (go_ret2; exact DG.no)
            by_cases ha1 : 65536 < a
            · clear hne2
              go_wp2_with fail
              all_goals (go_ret2; exact DG.no)
            have HOK2 : Hid (OKTo la lb (t + 1)) := HOK.out.next HS.out (by omega) (by rw [HAV.out]; omega) (by rw [HAV.out]; omega)
            clear HOK hne2
            go_wp2_with fail
            all_goals first | (go_ret2; exact DG.no) | skip
            refine ⟨⟨t + 1, _, by omega, rfl, by go_num, HOK2⟩, ?_⟩
            simp [intOf] <;> omega
          · obtain rfl : t = q := by omega
            go_wp2_with fail
            go_ret2
            exact HPOST.out HOK.out
      · obtain rfl : q = n := by have := HQ.out; omega
        have HOK0 : Hid (OKTo la lb 0) := fun j s hj _ => by omega
        go_wp2_with fail
        all_goals first | (go_ret2; exact DG.no) | skip
        go_loop [9, 10] (fun z i => ∃ (t : Nat) (y : Int), t ≤ q ∧ z = .int .i64 y ∧ i = .int .i64 t ∧ Hid (OKTo la lb t)) (fun _ i => q - (intOf i).toNat)
        case atStart => exact ⟨0, 0, Nat.zero_le _, rfl, rfl, HOK0⟩
        case round =>
          obtain ⟨t, z, ht, rfl, rfl, HOK⟩ := hrel
          clear HOK0
          by_cases htq : t < q
          · obtain ⟨s, hs⟩ : ∃ s, la[t]? = some s := ⟨_, List.getElem?_eq_getElem (by have := HN.out; omega)⟩
            obtain ⟨x2, rfl, c0, hsz⟩ := HA.out t s hs
            obtain ⟨a, hav⟩ : ∃ a, lb[t]? = some a := ⟨_, List.getElem?_eq_getElem (by have := HM.out; omega)⟩
            obtain ⟨x3, rfl, c1, _⟩ := HB.out t a hav
            have HAV : Hid (lb.getD t 0 = a) := by unfold Hid; simp [List.getD, hav]
            have HS := Lib.hid hs
            clear hs hav
            by_cases hs0 : s.size = 0
            · have hse : s = ⟨#[]⟩ := by
                obtain ⟨d⟩ := s; have : d = #[] := Array.eq_empty_of_size_eq_zero hs0; rw [this]
              subst hse
              go_wp2_with fail
              all_goals (go_ret2; exact DG.no)
            have hne : (s.toList == []) = false := by
              rw [beq_eq_false_iff_ne]; intro e; rw [Lib.toList_data] at e; apply hs0
              have := congrArg List.length e; simpa using this
            have hne2 : (s.toList == (⟨#[]⟩ : ByteArray).toList) = false := by
              rw [beq_eq_false_iff_ne]; intro e; rw [Lib.toList_data, Lib.toList_data] at e; apply hs0
              have := congrArg List.length e; simpa using this
            by_cases ha0 : a < 0
            · clear hne2
              go_wp2_with fail
              all_goals (go_ret2; exact DG.no)
            by_cases ha1 : 65536 < a
            · clear hne2
              go_wp2_with fail
              all_goals (go_ret2; exact DG.no)
            have HOK2 : Hid (OKTo la lb (t + 1)) := HOK.out.next HS.out (by omega) (by rw [HAV.out]; omega) (by rw [HAV.out]; omega)
            clear HOK hne2
            go_wp2_with fail
            all_goals first | (go_ret2; exact DG.no) | skip
            refine ⟨⟨t + 1, _, by omega, rfl, by go_num, HOK2⟩, ?_⟩
            simp [intOf] <;> omega
          · obtain rfl : t = q := by omega
            go_wp2_with fail
            go_ret2
            exact HPOST.out HOK.out
end Go.Proofs.YtbogmmpbmgibnaaDoor.defsg
