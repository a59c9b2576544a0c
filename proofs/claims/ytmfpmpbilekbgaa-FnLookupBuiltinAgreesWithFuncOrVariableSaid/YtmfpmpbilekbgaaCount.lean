/- zzStrsBytes (f12), zzScopesBytes (f27), zzAritiesOK (f28): some answer, nothing written. -/
import Derived.Test.YtmfpmpbilekbgaaGuard
set_option linter.unusedVariables false
namespace Go.Proofs.Ytmfpmpbilekbgaa.count
open Go.ChangeShapes Go.WideShapes Go.ChangeAt Go.RowKit
open upd comp zs guard

def SomeInt (w : World) (e : Ending) (w' : World) : Prop := ∃ n : Int, e = .returned (.int .i64 n) ∧ w = w'
def SomeBool (w : World) (e : Ending) (w' : World) : Prop := ∃ b : Bool, e = .returned (.bool b) ∧ w = w'
theorem strsBytes (w : World) (v : Value) (l : List ByteArray) (h : StrRow w v l) : Calls Try.prog 12 #[v] w (SomeInt w) := by
  obtain ⟨a, c, rfl, hc, hcm, hat⟩ := str_open h
  obtain ⟨n, hn⟩ : ∃ n, n = l.length := ⟨_, rfl⟩
  have HN := Lib.hid hn
  have HC := Lib.hid hat
  rw [← hn] at hc ⊢
  clear h hat hn
  unfold maxLen at hcm
  go_enter Try.func12, Try.ntmps12
  go_wp2_with fail
  go_loop [3, 4] (fun z i => ∃ (k : Nat) (y : Int), k ≤ n ∧ z = .int .i64 y ∧ i = .int .i64 k) (fun _ i => n - (intOf i).toNat)
  case atStart => exact ⟨0, _, Nat.zero_le _, rfl, rfl⟩
  case round =>
    obtain ⟨k, y, hk, rfl, rfl⟩ := hrel
    by_cases hlt : k < n
    · obtain ⟨s, hs⟩ : ∃ s, l[k]? = some s := ⟨_, List.getElem?_eq_getElem (by have := HN.out; omega)⟩
      obtain ⟨x, rfl, c0, hsz⟩ := HC.out k s hs
      clear hs HC
      unfold maxLen at hsz
      go_wp2_with fail
      all_goals first | (go_ret; exact ⟨_, rfl, rfl⟩) | skip
      go_round
      case rel => exact ⟨k + 1, _, by omega, rfl, by go_num⟩
      case measure => simp [intOf] <;> omega
    · obtain rfl : k = n := by omega
      go_wp2_with fail
      go_ret
      exact ⟨_, rfl, rfl⟩
theorem nonNeg (w : World) (v : Value) (l : List Int) (m : Nat) (h : IntRow w v l) : Calls Try.prog 13 #[v, .int .i64 m] w (SomeBool w) := by
  obtain ⟨a, c, rfl, hc, hcm, hat⟩ := int_open h
  obtain ⟨n, hn⟩ : ∃ n, n = l.length := ⟨_, rfl⟩
  have HN := Lib.hid hn
  have HC := Lib.hid hat
  rw [← hn] at hc ⊢
  clear h hat hn
  unfold maxLen at hcm
  go_enter Try.func13, Try.ntmps13
  go_wp2_with fail
  go_loop [5] (fun i => ∃ (k : Nat), k ≤ n ∧ i = .int .i64 k) (fun i => n - (intOf i).toNat)
  case atStart => exact ⟨0, Nat.zero_le _, rfl⟩
  case round =>
    obtain ⟨k, hk, rfl⟩ := hrel
    by_cases hm : (k : Int) < m
    · by_cases hlt : k < n
      · obtain ⟨s, hs⟩ : ∃ s, l[k]? = some s := ⟨_, List.getElem?_eq_getElem (by have := HN.out; omega)⟩
        obtain ⟨x, rfl, c0, hsz⟩ := HC.out k s hs
        clear hs HC hsz
        go_wp2_with fail
        all_goals first | (go_ret; exact ⟨_, rfl, rfl⟩) | skip
        go_round
        case rel => exact ⟨k + 1, by omega, by go_num⟩
        case measure => simp [intOf] <;> omega
      · obtain rfl : k = n := by omega
        go_wp2_with fail
        go_ret
        exact ⟨_, rfl, rfl⟩
    · go_wp2_with fail
      go_ret
      exact ⟨_, rfl, rfl⟩
theorem aritiesOK (w : World) (v : Value) (D : List Zs) (h : ZsRow w v D) : Calls Try.prog 28 #[v] w (SomeBool w) := by
  obtain ⟨a, c, rfl, hc, hcm, hat⟩ := zs_open h
  obtain ⟨n, hn⟩ : ∃ n, n = D.length := ⟨_, rfl⟩
  have HN := Lib.hid hn
  have HC := Lib.hid hat
  rw [← hn] at hc ⊢
  clear h hat hn
  unfold maxLen at hcm
  go_enter Try.func28, Try.ntmps28
  go_wp2_with fail
  go_loop [3, 4] (fun i _ => ∃ (k : Nat), k ≤ n ∧ i = .int .i64 k) (fun i _ => n - (intOf i).toNat)
  case atStart => exact ⟨0, Nat.zero_le _, rfl⟩
  case round =>
    obtain ⟨k, hk, rfl⟩ := hrel
    by_cases hlt : k < n
    · obtain ⟨z, hz⟩ : ∃ z, D[k]? = some z := ⟨_, List.getElem?_eq_getElem (by have := HN.out; omega)⟩
      obtain ⟨x, rfl, v1, v2, v3, h1, h2, h3, h4, h5, h6⟩ := HC.out k z hz
      obtain ⟨ra, rc, rfl, hr1, hr2, hra⟩ := int_open h6
      rw [add_succ x (k * 3) 1] at h3
      have HR := Lib.hid hra
      obtain ⟨rn, hrn⟩ : ∃ rn, rn = z.ars.length := ⟨_, rfl⟩
      rw [← hrn] at h3 hr1
      have HRN := Lib.hid hrn
      unfold maxLen at hr2
      clear h1 h2 h4 h5 h6 hra hz hrn HC
      go_wp2_with fail
      go_loop [4] (fun i => ∃ (k : Nat), k ≤ rn ∧ i = .int .i64 k) (fun i => rn - (intOf i).toNat)
      case atStart => exact ⟨0, Nat.zero_le _, rfl⟩
      case round =>
        obtain ⟨q, hq, rfl⟩ := hrel
        by_cases hql : q < rn
        · obtain ⟨s, hs⟩ : ∃ s, z.ars[q]? = some s := ⟨_, List.getElem?_eq_getElem (by have := HRN.out; omega)⟩
          obtain ⟨x2, rfl, c0, hsz⟩ := HR.out q s hs
          clear hs hsz
          go_wp2_with fail
          all_goals first | (go_ret; exact ⟨_, rfl, rfl⟩) | skip
          refine ⟨⟨q + 1, by omega, by go_num⟩, ?_⟩
          simp [intOf] <;> omega
        · obtain rfl : q = rn := by omega
          go_wp2_with fail
          refine ⟨⟨k + 1, by omega, by go_num⟩, ?_⟩
          simp [intOf] <;> omega
    · obtain rfl : k = n := by omega
      go_wp2_with fail
      go_ret
      exact ⟨_, rfl, rfl⟩
set_option maxRecDepth 100000 in
theorem scopesBytes (w : World) (v : Value) (D : List Zs) (h : ZsRow w v D) : Calls Try.prog 27 #[v] w (SomeInt w) := by
  obtain ⟨a, c, rfl, hc, hcm, hat⟩ := zs_open h
  obtain ⟨n, hn⟩ : ∃ n, n = D.length := ⟨_, rfl⟩
  have HN := Lib.hid hn
  have HC := Lib.hid hat
  rw [← hn] at hc ⊢
  clear h hat hn
  unfold maxLen at hcm
  go_enter Try.func27, Try.ntmps27
  go_wp2_with fail
  go_loop [3, 4] (fun y i => ∃ (k : Nat) (m : Int), k ≤ n ∧ y = .int .i64 m ∧ i = .int .i64 k) (fun _ i => n - (intOf i).toNat)
  case atStart => exact ⟨0, _, Nat.zero_le _, rfl, rfl⟩
  case round =>
    obtain ⟨k, m, hk, rfl, rfl⟩ := hrel
    by_cases hlt : k < n
    · obtain ⟨z, hz⟩ : ∃ z, D[k]? = some z := ⟨_, List.getElem?_eq_getElem (by have := HN.out; omega)⟩
      obtain ⟨x, rfl, v1, v2, v3, h1, h2, h3, h4, h5, h6⟩ := HC.out k z hz
      obtain ⟨ra, rc, rfl, hr1, hr2, _⟩ := int_open h6
      rw [add_succ x (k * 3) 1] at h3
      rw [add_succ x (k * 3) 0] at h2
      have H4 := Lib.hid (strsBytes w v1 z.vars h4)
      have H5 := Lib.hid (strsBytes w v2 z.funcs h5)
      generalize z.ars.length = rn at h3 hr1
      unfold maxLen at hr2
      clear h4 h5 h6 hz HC
      have tk := Lib.hid trivial
      go_wp2_with (first | (go_at_call 12; clear tk; refine H4.out.mono ?_; rintro e w1 ⟨q, rfl, rfl⟩) | (go_at_call 12; refine H5.out.mono ?_; rintro e w1 ⟨q2, rfl, rfl⟩))
      all_goals first | (go_ret; exact ⟨_, rfl, rfl⟩) | skip
      go_round
      case rel => exact ⟨k + 1, _, by omega, rfl, by go_num⟩
      case measure => simp [intOf] <;> omega
    · obtain rfl : k = n := by omega
      go_wp2_with fail
      go_ret
      exact ⟨_, rfl, rfl⟩
end Go.Proofs.Ytmfpmpbilekbgaa.count
