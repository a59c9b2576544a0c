/- The statements' own helpers: the bounds, the copies of what came in. -/
import Derived.Test.YtemifkcgmfincaaOps
import Derived.Test.YtemifkcgmfincaaFill
import Derived.Laws.CopyOwn
namespace Go.Proofs.Ytemifkcgmfincaa.init
open Go.ChangeShapes Go.WideShapes Go.ChangeAt Go.RowKit
open upd fill

def SomeBool (w : World) (e : Ending) (w' : World) : Prop := ∃ b, e = .returned (.bool b) ∧ w = w'
theorem zb36 (a a' : Option Addr) (n cap n' cap' : Nat) (w : World) (hn : n ≤ 9223372036854775807) (hn' : n' ≤ 9223372036854775807) : Calls Try.prog 36 #[.slice a n cap, .slice a' n' cap'] w (SomeBool w) := by
  go_enter Try.func36, Try.ntmps36
  go_wp2_with fail
  all_goals (go_ret; exact ⟨_, rfl, rfl⟩)
theorem zb25 (a a' : Option Addr) (n cap n' cap' : Nat) (w : World) (hn : n ≤ 9223372036854775807) (hn' : n' ≤ 9223372036854775807) : Calls Try.prog 25 #[.slice a n cap, .slice a' n' cap'] w (SomeBool w) := by
  go_enter Try.func25, Try.ntmps25
  go_wp2_with fail
  all_goals (go_ret; exact ⟨_, rfl, rfl⟩)
theorem zb33 (a : Option Addr) (n cap : Nat) (w : World) (hn : n ≤ 9223372036854775807) : Calls Try.prog 33 #[.slice a n cap] w (SomeBool w) := by
  go_enter Try.func33, Try.ntmps33
  go_wp2_with fail
  all_goals (go_ret; exact ⟨_, rfl, rfl⟩)
theorem zb34 (a : Option Addr) (n cap : Nat) (x y : Int) (w : World) (hn : n ≤ 9223372036854775807) : Calls Try.prog 34 #[.slice a n cap, .int .i64 x, .int .i64 y] w (SomeBool w) := by
  go_enter Try.func34, Try.ntmps34
  go_wp2_with fail
  all_goals (go_ret; exact ⟨_, rfl, rfl⟩)
theorem zb28 (a : Option Addr) (n cap : Nat) (x y : Int) (w : World) (hn : n ≤ 9223372036854775807) : Calls Try.prog 28 #[.slice a n cap, .int .i64 x, .int .i64 y] w (SomeBool w) := by
  go_enter Try.func28, Try.ntmps28
  go_wp2_with fail
  all_goals (go_ret; exact ⟨_, rfl, rfl⟩)
theorem zb9 (a a' a'' : Option Addr) (n cap n' cap' n'' cap'' : Nat) (x y z : Int) (w : World) (hn : n ≤ 9223372036854775807) (hn' : n' ≤ 9223372036854775807) (hn'' : n'' ≤ 9223372036854775807) : Calls Try.prog 9 #[.slice a n cap, .slice a' n' cap', .slice a'' n'' cap'', .int .i64 x, .int .i64 y, .int .i64 z] w (SomeBool w) := by
  go_enter Try.func9, Try.ntmps9
  go_wp2_with fail
  all_goals (go_ret; exact ⟨_, rfl, rfl⟩)

theorem info3 : (Try.prog.info? 3).map (fun i => (i.zero, i.size, i.bytes)) = some (some (.int .i64 0), 1, 8) := by kernel_rfl
theorem info5 : (Try.prog.info? 5).map (fun i => (i.zero, i.size, i.bytes)) = some (some (.int .u8 0), 1, 1) := by kernel_rfl
theorem size3 : (Try.prog.info? 3).map (·.size) = some 1 := by kernel_rfl
theorem size5 : (Try.prog.info? 5).map (·.size) = some 1 := by kernel_rfl
/-- numbers as values -/
def fI (bs : Nat → Int) (i : Nat) : Value := .int .i64 (bs i)
def fB (bs : Nat → Int) (i : Nat) : Value := .int .u8 (bs i)
/-- the copy of a slice that came in -/
def Copied (f : Nat → Value) (n : Nat) (w : World) (e : Ending) (w' : World) : Prop := ∃ (a : Option Addr) (cap : Nat), e = .returned (.slice a n cap) ∧ In w' a n f ∧ (a = none → cap = 0) ∧ Below w.heap.size w w'
theorem splice_all (n : Nat) (z : Value) (f : Nat → Value) : splice (List.replicate n z) 0 ((List.range n).map f) = (List.range n).map f := by
  simp [splice]
theorem clone10_nil (f : Nat → Value) (w : World) : Calls Try.prog 10 #[.slice none 0 0] w (Copied f 0 w) := by
  have hn := Lib.run_eql_slice_nil (P := Try.prog)
  go_enter Try.func10, Try.ntmps10
  go_wp2_with fail
  go_ret
  exact ⟨none, 0, rfl, .inl ⟨rfl, rfl⟩, fun _ => rfl, Below.refl _ _⟩
theorem clone26_nil (f : Nat → Value) (w : World) : Calls Try.prog 26 #[.slice none 0 0] w (Copied f 0 w) := by
  have hn := Lib.run_eql_slice_nil (P := Try.prog)
  go_enter Try.func26, Try.ntmps26
  go_wp2_with fail
  go_ret
  exact ⟨none, 0, rfl, .inl ⟨rfl, rfl⟩, fun _ => rfl, Below.refl _ _⟩
theorem src {w w0 : World} {x : Addr} {n : Nat} {f : Nat → Value} (hc : In w (some x) n f) (hb : Below w.heap.size w w0) : 0 < ((List.range n).map f).length → some (⟨w.heap.size, 0, none⟩ : Addr) = some ⟨w.heap.size, 0, none⟩ ∧ ∃ ad, some x = some ad ∧ ∀ j v, ((List.range n).map f)[j]? = some v → w0.cell? (ad.add j) = some v := by
  intro _
  refine ⟨rfl, x, rfl, fun j v hv => ?_⟩
  rcases hc with ⟨h, _⟩ | ⟨y, hy, hyl, hyc⟩
  · cases h
  · cases hy
    have hj : j < n := by
      have := (List.getElem?_eq_some_iff.1 hv).1
      simpa using this
    have hv' : f j = v := by simpa [hj] using hv
    rw [← hv']; exact later hyl hyc hb j hj
theorem one_fI (bs : Nat → Int) (n : Nat) : ∀ v ∈ (List.range n).map (fI bs), v.oneCell' = true := by
  intro v hv; simp at hv; obtain ⟨i, _, rfl⟩ := hv; rfl
theorem one_fB (bs : Nat → Int) (n : Nat) : ∀ v ∈ (List.range n).map (fB bs), v.oneCell' = true := by
  intro v hv; simp at hv; obtain ⟨i, _, rfl⟩ := hv; rfl
theorem clone10_some (x : Addr) (cap n : Nat) (bs : Nat → Int) (w : World) (hc : In w (some x) n (fI bs)) (hl : n ≤ 4096) : Calls Try.prog 10 #[.slice (some x) n cap] w (Copied (fI bs) n w) := by
  obtain ⟨i0, hi, hz0, hz1, hz2⟩ := info_parts info3
  have hn := Lib.run_eql_slice_nil (P := Try.prog)
  have HC := Lib.hid hc
  clear hc
  go_enter Try.func10, Try.ntmps10
  go_wp2_with (first | (at_make; refine wpList_make_full _ rfl _ _ 22 rfl w.heap.size 3 i0 (.int .i64 0) 1 Try.underlying22 hi hz0 hz1 .i64 .i64 _ _ n rfl rfl rfl rfl (by rw [hz2]; omega) (by unfold maxLen; omega) (Nat.le_refl _) ?_; intro w0 hown0 hgrow0; have hr0 : Hid (Row w0 w.heap.size 3 (List.replicate n (.int .i64 0))) := Row.of_made rfl hown0; have hb0 : Hid (Below w.heap.size w w0) := (Below.refl _ _).grown hgrow0 (Nat.le_refl _) (fun k hk => by cases hk); clear hown0 hgrow0) | (have hguard := hr0; clear hguard; refine wpList_copy_splice rfl (.tmp 9) (.tmp 10) 22 22 rfl 3 Try.underlying22 size3 (some ⟨w.heap.size, 0, none⟩) (some x) n n n cap rfl rfl w.heap.size 0 (List.replicate n (.int .i64 0)) 3 hr0.out ((List.range n).map (fI bs)) ?_ (src HC.out hb0.out) ?_ (one_fI bs n) w.heap.size w hb0.out (Nat.le_refl _) ?_))
  · simp
  · simp
  · intro w1 hg1 hb1
    rw [splice_all] at hg1
    go_wp2_with fail
    go_ret
    exact ⟨_, _, rfl, In.of_row hg1.out, (fun h => by cases h), hb1⟩
theorem clone26_some (x : Addr) (cap n : Nat) (bs : Nat → Int) (w : World) (hc : In w (some x) n (fB bs)) (hl : n ≤ 4096) : Calls Try.prog 26 #[.slice (some x) n cap] w (Copied (fB bs) n w) := by
  obtain ⟨i0, hi, hz0, hz1, hz2⟩ := info_parts info5
  have hn := Lib.run_eql_slice_nil (P := Try.prog)
  have HC := Lib.hid hc
  clear hc
  go_enter Try.func26, Try.ntmps26
  go_wp2_with (first | (at_make; refine wpList_make_full _ rfl _ _ 33 rfl w.heap.size 5 i0 (.int .u8 0) 1 Try.underlying33 hi hz0 hz1 .i64 .i64 _ _ n rfl rfl rfl rfl (by rw [hz2]; omega) (by unfold maxLen; omega) (Nat.le_refl _) ?_; intro w0 hown0 hgrow0; have hr0 : Hid (Row w0 w.heap.size 5 (List.replicate n (.int .u8 0))) := Row.of_made rfl hown0; have hb0 : Hid (Below w.heap.size w w0) := (Below.refl _ _).grown hgrow0 (Nat.le_refl _) (fun k hk => by cases hk); clear hown0 hgrow0) | (have hguard := hr0; clear hguard; refine wpList_copy_splice rfl (.tmp 9) (.tmp 10) 33 33 rfl 5 Try.underlying33 size5 (some ⟨w.heap.size, 0, none⟩) (some x) n n n cap rfl rfl w.heap.size 0 (List.replicate n (.int .u8 0)) 5 hr0.out ((List.range n).map (fB bs)) ?_ (src HC.out hb0.out) ?_ (one_fB bs n) w.heap.size w hb0.out (Nat.le_refl _) ?_))
  · simp
  · simp
  · intro w1 hg1 hb1
    rw [splice_all] at hg1
    go_wp2_with fail
    go_ret
    exact ⟨_, _, rfl, In.of_row hg1.out, (fun h => by cases h), hb1⟩
theorem cloneI (a : Option Addr) (cap n : Nat) (bs : Nat → Int) (w : World) (hin : In w a n (fI bs)) (hnil : a = none → n = 0 ∧ cap = 0) (hl : n ≤ 4096) : Calls Try.prog 10 #[.slice a n cap] w (Copied (fI bs) n w) := by
  cases a with
  | none => obtain ⟨rfl, rfl⟩ := hnil rfl; exact clone10_nil _ w
  | some x => exact clone10_some x cap n bs w hin hl
theorem cloneB (a : Option Addr) (cap n : Nat) (bs : Nat → Int) (w : World) (hin : In w a n (fB bs)) (hnil : a = none → n = 0 ∧ cap = 0) (hl : n ≤ 4096) : Calls Try.prog 26 #[.slice a n cap] w (Copied (fB bs) n w) := by
  cases a with
  | none => obtain ⟨rfl, rfl⟩ := hnil rfl; exact clone26_nil _ w
  | some x => exact clone26_some x cap n bs w hin hl
/-- the numbers of a slice that came in -/
theorem open_ints (a : Option Addr) (len cap : Nat) (zs : List Int) (w : World) (h : inp.IsRow .i64 w a len cap zs) : ∃ bs : Nat → Int, (∀ i, (Lit.int .i64 (bs i)).wf = true) ∧ In w a len (fI bs) ∧ (a = none → len = 0 ∧ cap = 0) ∧ len ≤ 9223372036854775807 := by
  refine ⟨fun i => zs.getD i 0, fun i => ?_, In.of_ints h, ?_, ?_⟩
  · by_cases hi : i < zs.length
    · have e : zs.getD i 0 = zs[i] := by simp [hi]
      rcases h with ⟨_, _, _, rfl⟩ | ⟨x, _, _, _, _, _, hw⟩
      · simp at hi
      · show (Lit.int .i64 (zs.getD i 0)).wf = true
        rw [e]; exact hw _ (List.getElem_mem hi)
    · have e : zs.getD i 0 = 0 := by rw [List.getD, List.getElem?_eq_none (by omega)]; rfl
      show (Lit.int .i64 (zs.getD i 0)).wf = true
      rw [e]; rfl
  · rcases h with ⟨_, rfl, rfl, _⟩ | ⟨x, rfl, _⟩
    · exact fun _ => ⟨rfl, rfl⟩
    · exact fun e => by cases e
  · rcases h with ⟨_, rfl, rfl, _⟩ | ⟨x, rfl, h1, h2, _⟩
    · omega
    · unfold maxLen at h2; omega
theorem open_bytes (a : Option Addr) (len cap : Nat) (zs : List Int) (w : World) (h : inp.IsRow .u8 w a len cap zs) : ∃ bs : Nat → Int, (∀ i, 0 ≤ bs i ∧ bs i < 256) ∧ In w a len (fB bs) ∧ (a = none → len = 0 ∧ cap = 0) ∧ len ≤ 9223372036854775807 := by
  refine ⟨fun i => zs.getD i 0, fun i => ?_, In.of_ints h, ?_, ?_⟩
  · by_cases hi : i < zs.length
    · have e : zs.getD i 0 = zs[i] := by simp [hi]
      rcases h with ⟨_, _, _, rfl⟩ | ⟨x, _, _, _, _, _, hw⟩
      · simp at hi
      · have := hw _ (List.getElem_mem hi)
        show 0 ≤ zs.getD i 0 ∧ zs.getD i 0 < 256
        rw [e]
        have e1 : IntKind.u8.min = 0 := by decide
        have e2 : IntKind.u8.max = 255 := by decide
        simp [Lit.wf, e1, e2] at this
        omega
    · have e : zs.getD i 0 = 0 := by rw [List.getD, List.getElem?_eq_none (by omega)]; rfl
      show 0 ≤ zs.getD i 0 ∧ zs.getD i 0 < 256
      rw [e]; omega
  · rcases h with ⟨_, rfl, rfl, _⟩ | ⟨x, rfl, _⟩
    · exact fun _ => ⟨rfl, rfl⟩
    · exact fun e => by cases e
  · rcases h with ⟨_, rfl, rfl, _⟩ | ⟨x, rfl, h1, h2, _⟩
    · omega
    · unfold maxLen at h2; omega
end Go.Proofs.Ytemifkcgmfincaa.init
