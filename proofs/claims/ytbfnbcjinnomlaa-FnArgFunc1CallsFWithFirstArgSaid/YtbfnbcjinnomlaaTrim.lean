/- What strings.TrimPrefix, ltrimstr and the statement's own model of it compute. -/
import Derived.Test.YtbfnbcjinnomlaaCalls
import Derived.Lib.Strings
namespace Go.Proofs.Ytbfnbcjinnomlaa.trim
open Go.ChangeShapes Go.WideShapes Go.ChangeAt Go.RowKit
open fill strs calls

/-- v without p at its front -/
def tp (v p : ByteArray) : ByteArray := if p.size ≤ v.size ∧ (v.extract 0 p.size).toList = p.toList then v.extract p.size v.size else v

theorem ext_at (v : ByteArray) (n j : Nat) (hj : j < n) (hv : j < v.size) : (v.extract 0 n).toList[j]? = some v[j] := by
  rw [Lib.extract_toList, List.drop_zero, Nat.sub_zero, List.getElem?_take_of_lt hj, List.getElem?_eq_getElem (by simpa using hv)]
  rfl
theorem list_at (p : ByteArray) (j : Nat) (hj : j < p.size) : p.toList[j]? = some p[j] := by
  rw [Lib.toList_data, List.getElem?_eq_getElem (by simpa using hj)]; rfl
theorem tp_all (v p : ByteArray) (h : p.size ≤ v.size) (he : ∀ j, j < p.size → ∀ (h1 : j < v.size) (h2 : j < p.size), v[j] = p[j]) : (v.extract 0 p.size).toList = p.toList := by
  apply List.ext_getElem?
  intro j
  by_cases hj : j < p.size
  · rw [ext_at v p.size j hj (by omega), he j hj (by omega) hj, list_at p j hj]
  · rw [List.getElem?_eq_none, List.getElem?_eq_none]
    · rw [Lib.toList_data, Array.length_toList]; show p.size ≤ j; omega
    · rw [Lib.extract_toList]; simp; omega
theorem tp_bad (v p : ByteArray) (j : Nat) (h1 : j < v.size) (h2 : j < p.size) (hne : v[j] ≠ p[j]) : tp v p = v := by
  unfold tp
  rw [if_neg]
  rintro ⟨hl, he⟩
  have := congrArg (fun l => l[j]?) he
  rw [ext_at v p.size j h2 h1, list_at p j h2] at this
  exact hne (by simpa using this)
theorem tp_short (v p : ByteArray) (h : v.size < p.size) : tp v p = v := by
  unfold tp; rw [if_neg (by omega)]

theorem hp_yes (v p : ByteArray) (w : World) (_hv : v.size ≤ 1048576) (h : p.size ≤ v.size) (he : ((v.extract 0 p.size).toList == p.toList) = true) : Calls Try.prog 34 #[.string v, .string p] w fun e w' => e = .returned (.bool true) ∧ w = w' := by
  go_enter Try.func34, Try.ntmps34
  go_wp2_with fail
  go_ret
  exact ⟨rfl, rfl⟩
theorem hp_no (v p : ByteArray) (w : World) (_hv : v.size ≤ 1048576) (h : p.size ≤ v.size) (he : ((v.extract 0 p.size).toList == p.toList) = false) : Calls Try.prog 34 #[.string v, .string p] w fun e w' => e = .returned (.bool false) ∧ w = w' := by
  go_enter Try.func34, Try.ntmps34
  go_wp2_with fail
  go_ret
  exact ⟨rfl, rfl⟩
theorem hp_short (v p : ByteArray) (w : World) (h : v.size < p.size) : Calls Try.prog 34 #[.string v, .string p] w fun e w' => e = .returned (.bool false) ∧ w = w' := by
  go_enter Try.func34, Try.ntmps34
  go_wp2_with fail
  go_ret
  exact ⟨rfl, rfl⟩
theorem ret_str {a b : ByteArray} (h : a = b) : Ending.returned (.string a) = .returned (.string b) := by rw [h]
theorem trim33 (v p : ByteArray) (w : World) (hv : v.size ≤ 1048576) : Calls Try.prog 33 #[.string v, .string p] w fun e w' => e = .returned (.string (tp v p)) ∧ w = w' := by
  by_cases h : p.size ≤ v.size
  · by_cases he : (v.extract 0 p.size).toList = p.toList
    · have HF : Hid (tp v p = v.extract p.size v.size) := by unfold Hid tp; rw [if_pos ⟨h, he⟩]
      have HP := Lib.hid (hp_yes v p w hv h (by simp [he]))
      clear he
      go_enter Try.func33, Try.ntmps33
      go_wp2_with (go_at_call 34; refine HP.out.mono ?_; rintro e w1 ⟨rfl, rfl⟩)
      go_ret
      exact ⟨ret_str (by rw [HF.out]), rfl⟩
    · have HF : Hid (tp v p = v) := by unfold Hid tp; rw [if_neg (fun h => he h.2)]
      have HP := Lib.hid (hp_no v p w hv h (by simp [he]))
      clear he
      go_enter Try.func33, Try.ntmps33
      go_wp2_with (go_at_call 34; refine HP.out.mono ?_; rintro e w1 ⟨rfl, rfl⟩)
      go_ret
      exact ⟨ret_str (by rw [HF.out]), rfl⟩
  · have HF := Lib.hid (tp_short v p (by omega))
    go_enter Try.func33, Try.ntmps33
    go_wp2_with (go_at_call 34; refine (hp_short v p w (by omega)).mono ?_; rintro e w1 ⟨rfl, rfl⟩)
    go_ret
    exact ⟨ret_str (by rw [HF.out]), rfl⟩
theorem trim32 (v p : ByteArray) (w : World) (hv : v.size ≤ 1048576) : Calls Try.prog 32 #[.string v, .string p] w fun e w' => e = .returned (.string (tp v p)) ∧ w = w' := by
  go_enter Try.func32, Try.ntmps32
  go_wp2_with (go_at_call 33; refine (trim33 _ _ _ hv).mono ?_; rintro e w1 ⟨rfl, rfl⟩)
  go_ret
  exact ⟨rfl, rfl⟩
theorem ltrim (v p : ByteArray) (w : World) (hv : v.size ≤ 1048576) : Calls Try.prog 29 #[.iface 9 (.string v), .iface 9 (.string p)] w fun e w' => e = .returned (.iface 9 (.string (tp v p))) ∧ w = w' := by
  have t1 := ta_9_9
  go_enter Try.func29, Try.ntmps29
  go_wp2_with (go_at_call 32; refine (trim32 _ _ _ hv).mono ?_; rintro e w1 ⟨rfl, rfl⟩)
  go_ret
  exact ⟨rfl, rfl⟩
theorem ltrimQ (v p : ByteArray) (w : World) (hv : v.size ≤ 1048576) : Calls Try.prog 29 #[.iface 9 (.string v), .iface 9 (.string p)] w fun e w' => e = .returned (.iface 9 (.string (tp v p))) ∧ w' = w := (ltrim v p w hv).mono fun _ _ ⟨h1, h2⟩ => ⟨h1, h2.symm⟩

theorem cb1 (v p : ByteArray) (B n m b : Nat) (w : World) (hv : v.size ≤ 1048576) (hn : 0 < n) (hb : w.cell? ⟨b, 0, none⟩ = some (.func (.func 29) #[] #[])) (hc : w.cell? ⟨B, 0, none⟩ = some (.iface 9 (.string p))) :
    Calls Try.prog 31 #[.iface 9 (.string v), .slice (some ⟨B, 0, none⟩) n m, .pointer (some ⟨b, 0, none⟩)] w fun e w' => e = .returned (.iface 9 (.string (tp v p))) ∧ Below w.heap.size w w' := by
  have hn' : (0 : Int) < n := by omega
  go_enter Try.func31, Try.ntmps31
  go_wp2_with fail
  go_quiet ((go_at_call 29; exact Calls.quiet_of_same (ltrimQ _ _ _ hv)))
  go_wp2_with fail
  go_ret
  exact ⟨rfl, below_drewN (Below.refl _ _) _⟩

theorem model (v p : ByteArray) (w : World) (hv : v.size ≤ 1048576) (_hp : p.size ≤ 1048576) : Calls Try.prog 23 #[.string v, .string p] w fun e w' => e = .returned (.string (tp v p)) ∧ Below w.heap.size w w' := by
  by_cases h : p.size ≤ v.size
  · go_enter Try.func23, Try.ntmps23
    go_wp2_with fail
    go_loopw [5] (fun i wr => ∃ k : Nat, k ≤ p.size ∧ i = .int .i64 k ∧ Hid (∀ j, j < k → ∀ (h1 : j < v.size) (h2 : j < p.size), v[j] = p[j]) ∧ Hid (Below w.heap.size w wr)) (fun i _ => p.size - (intOf i).toNat)
    case atStart => exact ⟨0, Nat.zero_le _, rfl, (fun j hj => absurd hj (by omega)), Below.refl _ _⟩
    case round =>
      obtain ⟨k, hk, rfl, HE, HB⟩ := hrel
      by_cases hlt : k < p.size
      · have hlt2 : k < v.size := by omega
        have i1 : (0 : Int) ≤ k := by omega
        have i2 : (k : Int) < v.size := by omega
        have i3 : (k : Int) < p.size := by omega
        by_cases he : v[k] = p[k]
        · have HE2 : Hid (∀ j, j < k + 1 → ∀ (h1 : j < v.size) (h2 : j < p.size), v[j] = p[j]) := fun j hj h1 h2 => by
            by_cases e : j = k
            · subst e; exact he
            · exact HE.out j (by omega) h1 h2
          have hq : ((v[k].toNat : Int) != (p[k].toNat : Int)) = false := by rw [he]; simp
          clear he
          go_wp2_with fail
          go_quiet (fail)
          go_wp2_with fail
          go_roundw
          case rel => exact ⟨k + 1, by omega, by go_num, HE2, below_drewN HB.out _⟩
          case measure => simp [intOf]; omega
        · have HF := Lib.hid (tp_bad v p k hlt2 hlt he)
          have hq : ((v[k].toNat : Int) != (p[k].toNat : Int)) = true := by
            rw [bne_iff_ne]; intro e; exact he (UInt8.toNat_inj.1 (by omega))
          clear he
          go_wp2_with fail
          go_quiet (fail)
          go_wp2_with fail
          go_ret
          exact ⟨ret_str (by rw [HF.out]), below_drewN HB.out _⟩
      · have HF : Hid (tp v p = v.extract p.size v.size) := by
          unfold Hid tp; rw [if_pos ⟨h, tp_all v p h (fun j hj => HE.out j (by omega))⟩]
        go_wp2_with fail
        go_ret
        exact ⟨ret_str (by rw [HF.out]), HB.out⟩
  · have HF := Lib.hid (tp_short v p (by omega))
    have h' : (v.size : Int) < p.size := by omega
    go_enter Try.func23, Try.ntmps23
    go_wp2_with fail
    go_ret
    exact ⟨ret_str (by rw [HF.out]), Below.refl _ _⟩
end Go.Proofs.Ytbfnbcjinnomlaa.trim
