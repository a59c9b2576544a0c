/- The walk of the law FnUtf8ByteLengthBetweenRunesAndFour: it returns true at every string. -/
import Derived.Test.YtiegckcmgdfjeaaStr
namespace Go.Proofs.Ytiegckcmgdfjeaa.fnUtf8ByteLengthBetweenRunesAndFour
open Go.ChangeShapes Go.WideShapes Go.ChangeAt Go.RowKit
open types str runes

/-- every byte of the first k is plain -/
def Asc (s : ByteArray) (k : Nat) : Prop := ∀ j, ∀ h : j < s.size, j < k → s[j].toNat < 128

set_option maxRecDepth 100000 in
set_option maxHeartbeats 1000000 in
theorem walk (a0 : ByteArray) (w : World) (_w0 : a0.size ≤ maxLen) :
    Calls Try.prog 9 #[.string a0] w fun e w' => e = .returned (.bool true) ∧ Below w.heap.size w w' := by
  by_cases h : a0.size ≤ 1048576
  · have h1 := rc_le a0
    have h4 := rc_four a0
    have HA : Hid (Asc a0 a0.size → rc a0 = a0.size) := fun ha => rc_ascii a0 fun j hj => ha j hj hj
    have HZ := Lib.hid (zlen_str a0 w h)
    generalize rc a0 = r at *
    go_enter Try.func9, Try.ntmps9
    go_wp2_with (first | (go_at_call 32; refine (zb32_yes _ _ h).mono ?_; rintro e w1 ⟨rfl, rfl⟩) | (go_at_call 33; refine (zutf_str _ _).mono ?_; rintro e w1 ⟨rfl, rfl⟩) | (go_at_call 17; refine HZ.out.mono ?_; rintro e w1 ⟨rfl, hb1⟩))
    go_loop [7, 8] (fun b i => ∃ (k : Nat) (q : Bool), k ≤ a0.size ∧ Hid (q = true → Asc a0 k) ∧ i = .int .i64 k ∧ b = .bool q) (fun _ i => a0.size - (intOf i).toNat)
    case atStart => exact ⟨0, true, Nat.zero_le _, (fun _ j _ hj => absurd hj (by omega)), rfl, rfl⟩
    case round =>
      obtain ⟨k, q, hk, HQ, rfl, rfl⟩ := hrel
      by_cases hlt : k < a0.size
      · by_cases h128 : 128 ≤ (a0[k].toNat : Int)
        · go_wp2_with fail
          go_round
          case rel => exact ⟨k + 1, false, by omega, (fun e => by cases e), by go_num, rfl⟩
          case measure => simp [intOf]; omega
        · have HQ2 : Hid (q = true → Asc a0 (k + 1)) := fun e j hj hj2 => by
            by_cases ej : j = k
            · subst ej; omega
            · exact HQ.out e j hj (by omega)
          go_wp2_with fail
          go_round
          case rel => exact ⟨k + 1, q, by omega, HQ2, by go_num, rfl⟩
          case measure => simp [intOf]; omega
      · obtain rfl : k = a0.size := by omega
        cases q
        · go_wp2_with fail
          go_ret
          exact ⟨rfl, hb1⟩
        · have hr : r = a0.size := HA.out (HQ.out rfl)
          have hq : ((a0.size : Int) == (r : Int)) = true := by rw [hr]; simp
          clear hr
          go_wp2_with fail
          go_ret
          exact ⟨rfl, hb1⟩
  · go_enter Try.func9, Try.ntmps9
    go_wp2_with (go_at_call 32; refine (zb32_no _ _ (by omega)).mono ?_; rintro e w1 ⟨rfl, rfl⟩)
    go_ret
    exact ⟨rfl, Below.refl _ _⟩
end Go.Proofs.Ytiegckcmgdfjeaa.fnUtf8ByteLengthBetweenRunesAndFour
