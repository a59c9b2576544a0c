/- What the statements' own helpers inGetFuncDomain and canonOp, and the tests on letters, return. -/
import Derived.Test.YtlpgcdfndgcgeaaNames
import Derived.Test.YtlpgcdfndgcgeaaBase
import Derived.Lib.Hide
import Derived.LoopTactic
import Derived.Deep.QuietTactic
import Derived.BigQuiet
import Derived.WalkSmall
namespace Go.Proofs.Ytlpgcdfndgcgeaa.domain
open Go.ChangeShapes Go.WideShapes Go.ChangeAt Go.RowKit

def inDom (a : Int) : Prop := (3 ≤ a ∧ a ≤ 13) ∨ (17 ≤ a ∧ a ≤ 24)

theorem dom_yes (a : Int) (w : World) (h : inDom a) : Calls Try.prog 11 #[.int .i64 a] w fun e w' => e = .returned (.bool true) ∧ w = w' := by
  rcases h with h | h
  · obtain ⟨h1, h2⟩ := h
    go_enter Try.func11, Try.ntmps11
    go_wp2
    go_ret
    exact ⟨rfl, rfl⟩
  · obtain ⟨h1, h2⟩ := h
    have h3 : decide (a ≤ 13) = false := by simp; omega
    have h4 : decide (a ≤ 24) = true := by simp; omega
    go_enter Try.func11, Try.ntmps11
    go_wp2
    go_ret
    exact ⟨rfl, rfl⟩
theorem dom_no (a : Int) (w : World) (h : ¬ inDom a) : Calls Try.prog 11 #[.int .i64 a] w fun e w' => e = .returned (.bool false) ∧ w = w' := by
  unfold inDom at h
  by_cases h0 : a < 3
  · have h5 : decide (17 ≤ a) = false := by simp; omega
    go_enter Try.func11, Try.ntmps11
    go_wp2
    go_ret
    exact ⟨rfl, rfl⟩
  · have h3 : decide (a ≤ 13) = false := by simp; omega
    by_cases h6 : a < 17
    · have h5 : decide (17 ≤ a) = false := by simp; omega
      clear h
      go_enter Try.func11, Try.ntmps11
      go_wp2
      go_ret
      exact ⟨rfl, rfl⟩
    · have h4 : decide (a ≤ 24) = false := by simp; omega
      clear h
      go_enter Try.func11, Try.ntmps11
      go_wp2
      go_ret
      exact ⟨rfl, rfl⟩

def canonZ (a : Int) : Int := if 19 ≤ a ∧ a ≤ 23 then a - 16 else a

theorem canon_any (a : Int) (w : World) : Calls Try.prog 13 #[.int .i64 a] w fun e w' => e = .returned (.int .i64 (canonZ a)) ∧ w = w' := by
  by_cases h1 : 19 ≤ a
  · by_cases h2 : a ≤ 23
    · have e : canonZ a = a - 16 := by simp [canonZ, h1, h2]
      rw [e]; clear e
      go_enter Try.func13, Try.ntmps13
      go_wp2
      go_ret
      exact ⟨rfl, rfl⟩
    · have e : canonZ a = a := by simp [canonZ, h2]
      rw [e]; clear e
      go_enter Try.func13, Try.ntmps13
      go_wp2
      go_ret
      exact ⟨rfl, rfl⟩
  · have e : canonZ a = a := by simp [canonZ, h1]
    rw [e]; clear e
    go_enter Try.func13, Try.ntmps13
    go_wp2
    go_ret
    exact ⟨rfl, rfl⟩
theorem low (c : Int) (w : World) (h1 : 97 ≤ c) (h2 : c ≤ 122) : Calls Try.prog 16 #[.int .u8 c] w fun e w' => e = .returned (.bool true) ∧ w = w' := by
  go_enter Try.func16, Try.ntmps16
  go_wp2
  go_ret
  exact ⟨rfl, rfl⟩
theorem upp (c : Int) (w : World) (h1 : 65 ≤ c) (h2 : c ≤ 90) : Calls Try.prog 23 #[.int .u8 c] w fun e w' => e = .returned (.bool true) ∧ w = w' := by
  go_enter Try.func23, Try.ntmps23
  go_wp2
  go_ret
  exact ⟨rfl, rfl⟩
theorem let1 (c : Int) (w : World) (h1 : 65 ≤ c) (h2 : c ≤ 90) : Calls Try.prog 24 #[.int .u8 c] w fun e w' => e = .returned (.bool true) ∧ w = w' := by
  go_enter Try.func24, Try.ntmps24
  go_wp2
  go_ret
  exact ⟨rfl, rfl⟩
theorem let2 (c : Int) (w : World) (h1 : 97 ≤ c) (h2 : c ≤ 122) : Calls Try.prog 24 #[.int .u8 c] w fun e w' => e = .returned (.bool true) ∧ w = w' := by
  have h3 : decide (c ≤ 90) = false := by simp; omega
  go_enter Try.func24, Try.ntmps24
  go_wp2
  go_ret
  exact ⟨rfl, rfl⟩

/-- an ASCII letter -/
theorem let_any (c : Int) (w : World) (h : (65 ≤ c ∧ c ≤ 90) ∨ (97 ≤ c ∧ c ≤ 122)) : Calls Try.prog 24 #[.int .u8 c] w fun e w' => e = .returned (.bool true) ∧ w = w' := by
  rcases h with h | h
  · exact let1 c w h.1 h.2
  · exact let2 c w h.1 h.2

/-- the k-th byte of a string that is given as a list -/
theorem byte_at (l : List UInt8) (k : Nat) (h : k < (ByteArray.mk l.toArray).size) : (ByteArray.mk l.toArray)[k] = l.getD k 0 := by
  have h' : k < l.length := by simpa [ByteArray.size] using h
  simp [ByteArray.getElem_eq_getElem_data, h']
theorem size_mk (l : List UInt8) : (ByteArray.mk l.toArray).size = l.length := by simp [ByteArray.size]

/-- hasPrefix where the prefix is there -/
theorem hasp (s p : ByteArray) (w : World) (h : p.size ≤ s.size) (hs : s.size ≤ 1000) (he : Hid (∀ k (h1 : k < p.size) (h2 : k < s.size), s[k].toNat = p[k].toNat)) : Calls Try.prog 22 #[.string s, .string p] w fun e w' => e = .returned (.bool true) ∧ Below w.heap.size w w' := by
  have hd : decide ((s.size : Int) < p.size) = false := by simp; omega
  have hd2 : decide (s.size < p.size) = false := by simp; omega
  go_enter Try.func22, Try.ntmps22
  go_wp2_with fail
  go_loopw [5] (fun i wr => ∃ k : Nat, k ≤ p.size ∧ i = .int .i64 k ∧ Below w.heap.size w wr) (fun i _ => p.size - (intOf i).toNat)
  case atStart => exact ⟨0, by omega, rfl, Below.refl _ _⟩
  case round =>
    obtain ⟨k, hk2, rfl, hbw⟩ := hrel
    by_cases hlt : k < p.size
    · have hb := he.out k hlt (by omega)
      have hk3 : k < s.size := by omega
      have hne : ((s[k].toNat : Int) != (p[k].toNat : Int)) = false := by rw [hb]; simp
      clear hb
      go_wp2_with fail
      go_quiet (fail)
      go_wp2_with fail
      go_roundw
      case rel => exact ⟨k + 1, by omega, by go_num, below_drewN hbw _⟩
      case measure => simp [intOf]; omega
    · go_wp2_with fail
      go_ret
      exact ⟨rfl, hbw⟩
end Go.Proofs.Ytlpgcdfndgcgeaa.domain
