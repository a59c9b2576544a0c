/- What the statement's unpacker zzKind gives at an int and at a big integer of one word; what funcOpNegate gives at an int and at such a big integer. -/
import Derived.Test.YtifejbimmffjaaaBig
import Derived.LoopTactic
namespace Go.Proofs.Ytifejbimmffjaaa.big
open Go.ChangeShapes Go.WideShapes Go.ChangeAt Go.RowKit
open types

theorem opint (v : Int) (w : World) (h0 : -9223372036854775808 < v) (h1 : v ≤ 9223372036854775807) : Calls Try.prog 14 #[.iface 3 (.int .i64 v)] w fun e w' => e = .returned (.iface 3 (.int .i64 (-v))) ∧ w = w' := by
  have t1 := i_i
  go_enter Try.func14, Try.ntmps14
  go_wp2_with (go_at_call 19; refine (negint _ _ h0 h1).mono ?_; rintro e w1 ⟨rfl, rfl⟩)
  go_ret
  exact ⟨rfl, rfl⟩
theorem opmin (w : World) : Calls Try.prog 14 #[.iface 3 (.int .i64 (-9223372036854775808))] w fun e w' => e = .returned (.iface 42 (.pointer (some ⟨w.heap.size, 0, none⟩))) ∧ IsBig w' w.heap.size (w.heap.size + 3) false 9223372036854775808 ∧ Below w.heap.size w w' := by
  have t1 := i_i
  go_enter Try.func14, Try.ntmps14
  go_wp2_with (go_at_call 19; refine (negmin _).mono ?_; rintro e w1 ⟨rfl, hb1, hb2⟩)
  go_ret
  exact ⟨rfl, hb1, hb2⟩
theorem kindint (v : Int) (w : World) : Calls Try.prog 13 #[.iface 3 (.int .i64 v)] w fun e w' => e = .returned (.tuple #[.int .i64 1, .int .i64 v, .float .f64 0, .string ⟨#[]⟩, .bool false, .slice none 0 0]) ∧ w = w' := by
  have t1 := i_i
  go_enter Try.func13, Try.ntmps13
  go_wp2_with fail
  exact bodyPost_ret (v := .tuple #[.int .i64 1, .int .i64 v, .float .f64 0, .string ⟨#[]⟩, .bool false, .slice none 0 0]) (by simp [results, Try.results13, go_sem]) rfl ⟨rfl, rfl⟩

theorem bitsof (z b : Nat) (n : Bool) (v : Int) (w : World) (h : IsBig w z b n v) : Calls Try.prog 17 #[.pointer (some ⟨z, 0, none⟩)] w fun e w' => e = .returned (.slice (some ⟨b, 0, none⟩) 1 1) ∧ w = w' := by
  have z1 : w.cell? ⟨z, 1, none⟩ = some (.slice (some ⟨b, 0, none⟩) 1 1) := by rw [cell_of_row w z 1 _ _ _ h.1]; rfl
  clear h
  go_enter Try.func17, Try.ntmps17
  go_wp2_with fail
  go_ret
  exact ⟨rfl, rfl⟩
theorem signof (z b : Nat) (n : Bool) (v : Int) (w : World) (h : IsBig w z b n v) : Calls Try.prog 18 #[.pointer (some ⟨z, 0, none⟩)] w fun e w' => e = .returned (.int .i64 (if n then -1 else 1)) ∧ w = w' := by
  have z0 : w.cell? ⟨z, 0, none⟩ = some (.bool n) := by rw [cell_of_row w z 0 _ _ _ h.1]; rfl
  have z1 : w.cell? ⟨z, 1, none⟩ = some (.slice (some ⟨b, 0, none⟩) 1 1) := by rw [cell_of_row w z 1 _ _ _ h.1]; rfl
  clear h
  cases n
  all_goals
    go_enter Try.func18, Try.ntmps18
    go_wp2_with fail
    go_ret
    exact ⟨rfl, rfl⟩
theorem mk22 (w : World) : (Instr.makeSlice 22 (.int .i64 1) (.int .i64 1)).run Try.prog w = .ok (.slice (some ⟨w.heap.size, 0, none⟩) 1 1) (w.alloc (.cells #[.int .u64 0] 25)) := by kernel_rfl

set_option maxRecDepth 100000 in
theorem kindbig (z b : Nat) (n : Bool) (v : Int) (w : World) (h : IsBig w z b n v) (_hv0 : 0 ≤ v) (_hv1 : v ≤ 18446744073709551615) : Calls Try.prog 13 #[.iface 42 (.pointer (some ⟨z, 0, none⟩))] w fun e w' => e = .returned (.tuple #[.int .i64 3, .int .i64 0, .float .f64 0, .string ⟨#[]⟩, .bool n, .slice (some ⟨w.heap.size, 0, none⟩) 1 1]) ∧ w' = w.alloc (.cells #[.int .u64 v] 25) := by
  have t1 := b_i; have t2 := b_f; have t3 := b_b; have t4 := mk22
  have b0 : w.cell? ⟨b, 0, none⟩ = some (.int .u64 v) := by rw [cell_of_row w b 0 _ _ _ h.2.1]; rfl
  have lb := lt_blk h.2.1
  have nb : b ≠ w.heap.size := by omega
  have nb2 := World.new_ne w ⟨b, 0, none⟩ b0
  have hb2 : IsBig (w.alloc (.cells #[.int .u64 v] 25)) z b n v := ⟨by rw [Below.heap_alloc _ _ _ (lt_blk h.1)]; exact h.1, by rw [Below.heap_alloc _ _ _ lb]; exact h.2.1, h.2.2⟩
  have HB2 := Lib.hid hb2
  have H := Lib.hid h
  clear hb2 h
  cases n
  all_goals
    go_enter Try.func13, Try.ntmps13
    go_wp2_with (go_at_call 17; refine (bitsof z b _ v _ H.out).mono ?_; rintro e w1 ⟨rfl, rfl⟩)
    refine wp_loop_rounds 2 ?_
    rw [rounds_succ]
    go_wp2_with fail
    rw [rounds_succ]
    go_wp2_with (go_at_call 18; refine (signof z b _ v _ HB2.out).mono ?_; rintro e w1 ⟨rfl, rfl⟩)
    refine bodyPost_ret (v := .tuple #[.int .i64 3, .int .i64 0, .float .f64 0, .string ⟨#[]⟩, .bool _, .slice (some ⟨w.heap.size, 0, none⟩) 1 1]) (by simp [results, Try.results13, go_sem]) rfl ⟨rfl, rfl⟩

theorem opbig (z b : Nat) (n : Bool) (v : Int) (w : World) (h : IsBig w z b n v) : Calls Try.prog 14 #[.iface 42 (.pointer (some ⟨z, 0, none⟩))] w fun e w' => e = .returned (.iface 42 (.pointer (some ⟨w.heap.size, 0, none⟩))) ∧ IsBig w' w.heap.size (w.heap.size + 1) (!n) v ∧ Below w.heap.size w w' := by
  have t1 := b_i; have t2 := b_f; have t3 := b_b
  have lz := lt_blk h.1; have lb := lt_blk h.2.1
  have h1 : (w.alloc (.cells #[.bool false, .slice none 0 0] 52)).heap[z]? = some (.cells #[.bool n, .slice (some ⟨b, 0, none⟩) 1 1] 52 (0, 0)) := by rw [Below.heap_alloc _ _ _ lz]; exact h.1
  have h2 : (w.alloc (.cells #[.bool false, .slice none 0 0] 52)).heap[b]? = some (.cells #[.int .u64 v] 45 (0, 0)) := by rw [Below.heap_alloc _ _ _ lb]; exact h.2.1
  have H1 := Lib.hid h1
  have H2 := Lib.hid h2
  have nz : w.heap.size ≠ z := by omega
  clear h1 h2 h
  go_enter Try.func14, Try.ntmps14
  go_wp2_with fail
  refine (intneg w.heap.size z b n v _ nz (heap_alloc_new _ _) H1.out H2.out).mono ?_; rintro e w2 ⟨rfl, hbig, hgr⟩
  have hb0 : Below w.heap.size w (w.alloc (.cells #[.bool false, .slice none 0 0] 52)) := (Below.refl _ _).alloc (Nat.le_refl _) _
  have HB := Lib.hid (hb0.grown hgr hb0.size (fun k hk => by cases hk; exact Nat.le_refl _))
  have hs : (w.alloc (.cells #[.bool false, .slice none 0 0] 52)).heap.size = w.heap.size + 1 := by simp
  rw [hs] at hbig
  have HG := Lib.hid hbig
  clear hb0 hgr hbig hs
  go_wp2_with fail
  go_ret
  exact ⟨rfl, HG.out, HB.out⟩

/-- ZZNegateInt -/
theorem zint (v : Int) (w : World) (h0 : -9223372036854775808 < v) (h1 : v ≤ 9223372036854775807) : Calls Try.prog 6 #[.int .i64 v] w fun e w' => e = .returned (.tuple #[.int .i64 1, .int .i64 (-v), .bool false, .slice none 0 0]) ∧ w = w' := by
  go_enter Try.func6, Try.ntmps6
  go_wp2_with (first | (go_at_call 14; refine (opint _ _ h0 h1).mono ?_; rintro e w1 ⟨rfl, rfl⟩) | (go_at_call 13; refine (kindint _ _).mono ?_; rintro e w1 ⟨rfl, rfl⟩))
  exact bodyPost_ret (v := .tuple #[.int .i64 1, .int .i64 (-v), .bool false, .slice none 0 0]) (by simp [results, Try.results6, go_sem]) rfl ⟨rfl, rfl⟩

/-- what is left behind: a slice of the one word v in block g -/
def OneWord (w w' : World) (g : Nat) (v : Int) : Prop := w'.cell? ⟨g, 0, none⟩ = some (.int .u64 v) ∧ g < w'.heap.size ∧ Below w.heap.size w w'

def Mins (w : World) (n : Bool) (e : Ending) (w' : World) : Prop := ∃ g, e = .returned (.tuple #[.int .i64 3, .int .i64 0, .bool n, .slice (some ⟨g, 0, none⟩) 1 1]) ∧ OneWord w w' g 9223372036854775808

theorem oneword {w w1 : World} {v : Int} (h : Below w.heap.size w w1) : OneWord w (w1.alloc (.cells #[.int .u64 v] 25)) w1.heap.size v :=
  ⟨by rw [cell_of_row _ _ 0 _ _ _ (heap_alloc_new _ _)]; rfl, by simp, h.alloc h.size _⟩

theorem zmin (w : World) : Calls Try.prog 6 #[.int .i64 (-9223372036854775808)] w (Mins w false) := by
  go_enter Try.func6, Try.ntmps6
  go_wp2_with (first | (go_at_call 14; refine (opmin _).mono ?_; rintro e w1 ⟨rfl, hb1, hb2⟩) | (go_at_call 13; refine (kindbig _ _ _ _ _ hb1 (by decide) (by decide)).mono ?_; rintro e w2 ⟨rfl, rfl⟩))
  exact bodyPost_ret (v := .tuple #[.int .i64 3, .int .i64 0, .bool false, .slice (some ⟨w1.heap.size, 0, none⟩) 1 1]) (by simp [results, Try.results6, go_sem]) rfl ⟨_, rfl, oneword hb2⟩

theorem ztwice (v : Int) (w : World) (h0 : -9223372036854775808 < v) (h1 : v ≤ 9223372036854775807) : Calls Try.prog 12 #[.int .i64 v] w fun e w' => e = .returned (.tuple #[.int .i64 1, .int .i64 v, .bool false, .slice none 0 0]) ∧ w = w' := by
  go_enter Try.func12, Try.ntmps12
  go_wp2_with fail
  refine (opint _ _ h0 h1).mono ?_; rintro e w1 ⟨rfl, rfl⟩
  go_wp2_with fail
  refine (opint _ _ (by omega) (by omega)).mono ?_; rintro e w1 ⟨rfl, rfl⟩
  rw [Int.neg_neg]
  go_wp2_with fail
  refine (kindint _ _).mono ?_; rintro e w1 ⟨rfl, rfl⟩
  go_wp2_with fail
  exact bodyPost_ret (v := .tuple #[.int .i64 1, .int .i64 v, .bool false, .slice none 0 0]) (by simp [results, Try.results12, go_sem]) rfl ⟨rfl, rfl⟩

theorem ztwicemin (w : World) : Calls Try.prog 12 #[.int .i64 (-9223372036854775808)] w (Mins w true) := by
  go_enter Try.func12, Try.ntmps12
  go_wp2_with fail
  refine (opmin _).mono ?_; rintro e w1 ⟨rfl, hb1, hb2⟩
  go_wp2_with fail
  refine (opbig _ _ _ _ _ hb1).mono ?_; rintro e w2 ⟨rfl, hb3, hb4⟩
  go_wp2_with fail
  refine (kindbig _ _ _ _ _ hb3 (by decide) (by decide)).mono ?_; rintro e w3 ⟨rfl, rfl⟩
  go_wp2_with fail
  exact bodyPost_ret (v := .tuple #[.int .i64 3, .int .i64 0, .bool true, .slice (some ⟨w2.heap.size, 0, none⟩) 1 1]) (by simp [results, Try.results12, go_sem]) rfl ⟨_, rfl, oneword (hb2.trans (hb4.mono hb2.size))⟩
end Go.Proofs.Ytifejbimmffjaaa.big
