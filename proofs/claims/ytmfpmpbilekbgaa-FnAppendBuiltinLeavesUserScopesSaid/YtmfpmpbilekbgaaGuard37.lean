/- The length guards of the laws with builtins: some answer; where it is true, every length is bounded. -/
import Derived.Test.YtmfpmpbilekbgaaGuardB
set_option linter.unusedVariables false
namespace Go.Proofs.Ytmfpmpbilekbgaa.guard
open Go.ChangeShapes Go.WideShapes Go.ChangeAt Go.RowKit
open upd comp zs


set_option maxRecDepth 100000 in
set_option maxHeartbeats 4000000 in
theorem g37 (w : World) (v va vb : Value) (D : List Zs) (la : List ByteArray) (lb : List Int) (nm : ByteArray) (h : ZsRow w v D) (ha : StrRow w va la) (hb : IntRow w vb lb) (hnm : nm.size ≤ maxLen) : Calls Try.prog 37 #[v, va, vb, .string nm] w (GP w (D.length ≤ 1048576 ∧ ShortTo D D.length ∧ StrOK la ∧ lb.length ≤ 1048576 ∧ nm.size ≤ 1048576)) := by
  obtain ⟨a, c, rfl, hc, hcm, hat⟩ := zs_open h
  obtain ⟨n, hn⟩ : ∃ n, n = D.length := ⟨_, rfl⟩
  have HN := Lib.hid hn
  have HC := Lib.hid hat
  rw [← hn] at hc ⊢
  clear h hat hn
  unfold maxLen at hcm hnm
  obtain ⟨aa, ca, rfl, hac, ham, haa⟩ := str_open ha
  obtain ⟨na, hna⟩ : ∃ na, na = la.length := ⟨_, rfl⟩
  have HNa := Lib.hid hna
  have HCa := Lib.hid haa
  rw [← hna] at hac ⊢
  clear ha haa hna
  unfold maxLen at ham
  obtain ⟨ab, cb, rfl, hbc, hbm, hba⟩ := int_open hb
  obtain ⟨nb, hnb⟩ : ∃ nb, nb = lb.length := ⟨_, rfl⟩
  have HNb := Lib.hid hnb
  rw [← hnb] at hbc ⊢
  clear hb hba hnb
  unfold maxLen at hbm
  go_enter Try.func37, Try.ntmps37
  go_wp2_with fail
  all_goals first | (go_ret; exact GP.no) | skip
  go_loop [9, 10, 11, 12] (fun z i _ _ => ∃ (k : Nat) (y : Int), k ≤ n ∧ z = .int .i64 y ∧ i = .int .i64 k ∧ Hid (ShortTo D k)) (fun _ i _ _ => n - (intOf i).toNat)
  case atStart => exact ⟨0, _, Nat.zero_le _, rfl, rfl, fun j z h => by omega⟩
  case round =>
    obtain ⟨k, y, hk, rfl, rfl, HS⟩ := hrel
    by_cases hlt : k < n
    · obtain ⟨z, hz⟩ : ∃ z, D[k]? = some z := ⟨_, List.getElem?_eq_getElem (by have := HN.out; omega)⟩
      obtain ⟨x, rfl, v1, v2, v3, h1, h2, h3, h4, h5, h6⟩ := HC.out k z hz
      obtain ⟨va, vc, rfl, hv1, hv2, hva⟩ := str_open h4
      obtain ⟨fa, fc, rfl, hf1, hf2, hfa⟩ := str_open h5
      obtain ⟨ra, rc, rfl, hr1, hr2, hra⟩ := int_open h6
      rw [add_succ x (k * 3) 0] at h2
      rw [add_succ x (k * 3) 1] at h3
      have HV := Lib.hid hva
      have HF := Lib.hid hfa
      have HZ := Lib.hid hz
      obtain ⟨vn, hvn⟩ : ∃ vn, vn = z.vars.length := ⟨_, rfl⟩
      obtain ⟨fn, hfn⟩ : ∃ fn, fn = z.funcs.length := ⟨_, rfl⟩
      obtain ⟨rn, hrn⟩ : ∃ rn, rn = z.ars.length := ⟨_, rfl⟩
      rw [← hvn] at h1 hv1
      rw [← hfn] at h2 hf1
      rw [← hrn] at h3 hr1
      have HVN := Lib.hid hvn
      have HFN := Lib.hid hfn
      have HRN := Lib.hid hrn
      unfold maxLen at hv2 hf2 hr2
      clear h4 h5 h6 hva hfa hra hz hvn hfn hrn HC
      go_wp2_with fail
      all_goals first | (go_ret; exact GP.no) | skip
      go_loop [9, 11] (fun z i => ∃ (k : Nat) (y : Int), k ≤ vn ∧ z = .int .i64 y ∧ i = .int .i64 k) (fun _ i => vn - (intOf i).toNat)
      case atStart => exact ⟨0, _, Nat.zero_le _, rfl, rfl⟩
      case round =>
        obtain ⟨q, y2, hq, rfl, rfl⟩ := hrel
        by_cases hql : q < vn
        · obtain ⟨s, hs⟩ : ∃ s, z.vars[q]? = some s := ⟨_, List.getElem?_eq_getElem (by have := HVN.out; omega)⟩
          obtain ⟨x2, rfl, c0, hsz⟩ := HV.out q s hs
          clear hs
          unfold maxLen at hsz
          go_wp2_with fail
          all_goals first | (go_ret; exact GP.no) | skip
          refine ⟨⟨q + 1, _, by omega, rfl, by go_num⟩, ?_⟩
          simp [intOf] <;> omega
        · obtain rfl : q = vn := by omega
          go_wp2_with fail
          all_goals first | (go_ret; exact GP.no) | skip
          go_loop [9, 12] (fun z i => ∃ (k : Nat) (y : Int), k ≤ fn ∧ z = .int .i64 y ∧ i = .int .i64 k) (fun _ i => fn - (intOf i).toNat)
          case atStart => exact ⟨0, _, Nat.zero_le _, rfl, rfl⟩
          case round =>
            obtain ⟨u, y3, hu, rfl, rfl⟩ := hrel
            by_cases hul : u < fn
            · obtain ⟨s, hs⟩ : ∃ s, z.funcs[u]? = some s := ⟨_, List.getElem?_eq_getElem (by have := HFN.out; omega)⟩
              obtain ⟨x3, rfl, c0, hsz⟩ := HF.out u s hs
              clear hs
              unfold maxLen at hsz
              go_wp2_with fail
              all_goals first | (go_ret; exact GP.no) | skip
              refine ⟨⟨u + 1, _, by omega, rfl, by go_num⟩, ?_⟩
              simp [intOf] <;> omega
            · obtain rfl : u = fn := by omega
              go_wp2_with fail
              all_goals first | (go_ret; exact GP.no) | skip
              refine ⟨⟨k + 1, _, by omega, rfl, by go_num, ?_⟩, ?_⟩
              · exact HS.out.next HZ.out ⟨by rw [← HVN.out]; omega, by rw [← HFN.out]; omega, by rw [← HRN.out]; omega⟩
              · simp [intOf] <;> omega
    · obtain rfl : k = n := by omega
      go_wp2_with fail
      all_goals first | (go_ret; exact GP.no) | skip
      go_loop [9, 13] (fun z i => ∃ (k : Nat) (y : Int), k ≤ na ∧ z = .int .i64 y ∧ i = .int .i64 k ∧ Hid (StrTo la k)) (fun _ i => na - (intOf i).toNat)
      case atStart => exact ⟨0, _, Nat.zero_le _, rfl, rfl, fun j z h => by omega⟩
      case round =>
        obtain ⟨ka, ya, hka, rfl, rfl, HSa⟩ := hrel
        by_cases hlta : ka < na
        · obtain ⟨s, hs⟩ : ∃ s, la[ka]? = some s := ⟨_, List.getElem?_eq_getElem (by have := HNa.out; omega)⟩
          obtain ⟨x2, rfl, c0, hsz⟩ := HCa.out ka s hs
          have HZ := Lib.hid hs
          clear hs
          unfold maxLen at hsz
          go_wp2_with fail
          all_goals first | (go_ret; exact GP.no) | skip
          refine ⟨⟨ka + 1, _, by omega, rfl, by go_num, HSa.out.next HZ.out (by omega)⟩, ?_⟩
          simp [intOf] <;> omega
        · obtain rfl : ka = na := by omega
          go_wp2_with fail
          all_goals first | (go_ret; exact GP.no) | skip
          all_goals (go_ret; exact ⟨true, rfl, rfl, fun _ => ⟨by omega, HS.out, ⟨by rw [← HNa.out]; omega, by rw [← HNa.out]; exact HSa.out⟩, (by omega), by omega⟩⟩)
end Go.Proofs.Ytmfpmpbilekbgaa.guard
