/- What abs and length answer at an int, and how the statement's unpacker reads it. -/
import Derived.Test.YtiegckcmgdfjeaaBig
namespace Go.Proofs.Ytiegckcmgdfjeaa.num
open Go.ChangeShapes Go.WideShapes Go.ChangeAt Go.RowKit
open types big

theorem abs_pos (v : Int) (w : World) (h0 : 0 ≤ v) : Calls Try.prog 43 #[.iface 3 (.int .i64 v)] w fun e w' => e = .returned (.iface 3 (.int .i64 v)) ∧ w = w' := by
  have t1 := ta_3_3
  go_enter Try.func43, Try.ntmps43
  go_wp2_with fail
  go_ret
  exact ⟨rfl, rfl⟩
theorem abs_neg (v : Int) (w : World) (h0 : v < 0) (h1 : -9223372036854775808 < v) : Calls Try.prog 43 #[.iface 3 (.int .i64 v)] w fun e w' => e = .returned (.iface 3 (.int .i64 (-v))) ∧ w = w' := by
  have t1 := ta_3_3
  go_enter Try.func43, Try.ntmps43
  go_wp2_with (go_at_call 52; refine (negint _ _ h1 (by omega)).mono ?_; rintro e w1 ⟨rfl, rfl⟩)
  go_ret
  exact ⟨rfl, rfl⟩
theorem abs_min (w : World) : Calls Try.prog 43 #[.iface 3 (.int .i64 (-9223372036854775808))] w fun e w' => e = .returned (.iface 66 (.pointer (some ⟨w.heap.size, 0, none⟩))) ∧ IsBig w' w.heap.size (w.heap.size + 3) false 9223372036854775808 ∧ Below w.heap.size w w' := by
  have t1 := ta_3_3
  go_enter Try.func43, Try.ntmps43
  go_wp2_with (go_at_call 52; refine (negmin _).mono ?_; rintro e w1 ⟨rfl, hb1, hb2⟩)
  go_ret
  exact ⟨rfl, hb1, hb2⟩
theorem len_pos (v : Int) (w : World) (h0 : 0 ≤ v) : Calls Try.prog 44 #[.iface 3 (.int .i64 v)] w fun e w' => e = .returned (.iface 3 (.int .i64 v)) ∧ w = w' := by
  have t1 := ta_3_3
  go_enter Try.func44, Try.ntmps44
  go_wp2_with fail
  go_ret
  exact ⟨rfl, rfl⟩
theorem len_neg (v : Int) (w : World) (h0 : v < 0) (h1 : -9223372036854775808 < v) : Calls Try.prog 44 #[.iface 3 (.int .i64 v)] w fun e w' => e = .returned (.iface 3 (.int .i64 (-v))) ∧ w = w' := by
  have t1 := ta_3_3
  go_enter Try.func44, Try.ntmps44
  go_wp2_with (go_at_call 52; refine (negint _ _ h1 (by omega)).mono ?_; rintro e w1 ⟨rfl, rfl⟩)
  go_ret
  exact ⟨rfl, rfl⟩
theorem len_min (w : World) : Calls Try.prog 44 #[.iface 3 (.int .i64 (-9223372036854775808))] w fun e w' => e = .returned (.iface 66 (.pointer (some ⟨w.heap.size, 0, none⟩))) ∧ IsBig w' w.heap.size (w.heap.size + 3) false 9223372036854775808 ∧ Below w.heap.size w w' := by
  have t1 := ta_3_3
  go_enter Try.func44, Try.ntmps44
  go_wp2_with (go_at_call 52; refine (negmin _).mono ?_; rintro e w1 ⟨rfl, hb1, hb2⟩)
  go_ret
  exact ⟨rfl, hb1, hb2⟩

theorem split_int (v : Int) (w : World) : Calls Try.prog 42 #[.iface 3 (.int .i64 v)] w fun e w' => e = .returned (.tuple #[.int .i64 0, .int .i64 v, .bool false, .int .u64 0, .bool false]) ∧ w = w' := by
  have t1 := ta_3_3
  go_enter Try.func42, Try.ntmps42
  go_wp2_with fail
  exact bodyPost_ret (v := .tuple #[.int .i64 0, .int .i64 v, .bool false, .int .u64 0, .bool false]) (by simp [results, Try.results42, go_sem]) rfl ⟨rfl, rfl⟩

theorem signof (z b : Nat) (v : Int) (w : World) (h : IsBig w z b false v) : Calls Try.prog 49 #[.pointer (some ⟨z, 0, none⟩)] w fun e w' => e = .returned (.int .i64 1) ∧ w = w' := by
  have z0 : w.cell? ⟨z, 0, none⟩ = some (.bool false) := by rw [cell_of_row w z 0 _ _ _ h.1]; rfl
  have z1 : w.cell? ⟨z, 1, none⟩ = some (.slice (some ⟨b, 0, none⟩) 1 1) := by rw [cell_of_row w z 1 _ _ _ h.1]; rfl
  clear h
  go_enter Try.func49, Try.ntmps49
  go_wp2_with fail
  go_ret
  exact ⟨rfl, rfl⟩
theorem low64 (b : Nat) (v : Int) (w : World) (_h0 : 0 ≤ v) (_h1 : v ≤ 18446744073709551615) (hb : w.cell? ⟨b, 0, none⟩ = some (.int .u64 v)) : Calls Try.prog 64 #[.slice (some ⟨b, 0, none⟩) 1 1] w fun e w' => e = .returned (.int .u64 v) ∧ w = w' := by
  go_enter Try.func64, Try.ntmps64
  go_wp2_with fail
  go_ret
  exact ⟨rfl, rfl⟩
theorem uint64 (z b : Nat) (v : Int) (w : World) (h : IsBig w z b false v) (h0 : 0 ≤ v) (h1 : v ≤ 18446744073709551615) : Calls Try.prog 50 #[.pointer (some ⟨z, 0, none⟩)] w fun e w' => e = .returned (.int .u64 v) ∧ w = w' := by
  have z1 : w.cell? ⟨z, 1, none⟩ = some (.slice (some ⟨b, 0, none⟩) 1 1) := by rw [cell_of_row w z 1 _ _ _ h.1]; rfl
  have b0 : w.cell? ⟨b, 0, none⟩ = some (.int .u64 v) := by rw [cell_of_row w b 0 _ _ _ h.2.1]; rfl
  clear h
  go_enter Try.func50, Try.ntmps50
  go_wp2_with (go_at_call 64; refine (low64 _ _ _ h0 h1 b0).mono ?_; rintro e w1 ⟨rfl, rfl⟩)
  go_ret
  exact ⟨rfl, rfl⟩
theorem isuint64 (z b : Nat) (v : Int) (w : World) (h : IsBig w z b false v) : Calls Try.prog 51 #[.pointer (some ⟨z, 0, none⟩)] w fun e w' => e = .returned (.bool true) ∧ w = w' := by
  have z0 : w.cell? ⟨z, 0, none⟩ = some (.bool false) := by rw [cell_of_row w z 0 _ _ _ h.1]; rfl
  have z1 : w.cell? ⟨z, 1, none⟩ = some (.slice (some ⟨b, 0, none⟩) 1 1) := by rw [cell_of_row w z 1 _ _ _ h.1]; rfl
  clear h
  go_enter Try.func51, Try.ntmps51
  go_wp2_with fail
  go_ret
  exact ⟨rfl, rfl⟩
theorem split_big (z b : Nat) (v : Int) (w : World) (h : IsBig w z b false v) (h0 : 0 ≤ v) (h1 : v ≤ 18446744073709551615) : Calls Try.prog 42 #[.iface 66 (.pointer (some ⟨z, 0, none⟩))] w fun e w' => e = .returned (.tuple #[.int .i64 1, .int .i64 0, .bool false, .int .u64 v, .bool true]) ∧ w = w' := by
  have t1 := ta_66_3; have t2 := ta_66_66
  go_enter Try.func42, Try.ntmps42
  go_wp2_with (first | (go_at_call 49; refine (signof _ _ _ _ h).mono ?_; rintro e w1 ⟨rfl, rfl⟩) | (go_at_call 50; refine (uint64 _ _ _ _ h h0 h1).mono ?_; rintro e w1 ⟨rfl, rfl⟩) | (go_at_call 51; refine (isuint64 _ _ _ _ h).mono ?_; rintro e w1 ⟨rfl, rfl⟩))
  exact bodyPost_ret (v := .tuple #[.int .i64 1, .int .i64 0, .bool false, .int .u64 v, .bool true]) (by simp [results, Try.results42, go_sem]) rfl ⟨rfl, rfl⟩
end Go.Proofs.Ytiegckcmgdfjeaa.num
