/- The statements' other helpers: the bounds, the copies of the scripts, the fresh stack and model. -/
import Derived.Test.YtkahmfdebkfcjaaStep
import Derived.Test.YtkahmfdebkfcjaaFill
namespace Go.Proofs.Ytkahmfdebkfcjaa.init
open Go.ChangeShapes Go.WideShapes Go.ChangeAt Go.RowKit
open upd stack full plain step fill

theorem info5 : (Try.prog.info? 5).map (fun i => (i.zero, i.size, i.bytes)) = some (some (.int .u8 0), 1, 1) := by kernel_rfl
def SomeBool (w : World) (e : Ending) (w' : World) : Prop := ∃ b, e = .returned (.bool b) ∧ w = w'

theorem zb6 (a : Option Addr) (n cap : Nat) (w : World) (hn : n ≤ 9223372036854775807) : Calls Try.prog 6 #[.slice a n cap] w (SomeBool w) := by
  by_cases h : 1048576 < n
  · have h' : (1048576 : Int) < n := by omega
    go_enter Try.func6, Try.ntmps6
    go_wp2_with fail
    go_ret
    exact ⟨_, rfl, rfl⟩
  · have h' : ¬ (1048576 : Int) < n := by omega
    go_enter Try.func6, Try.ntmps6
    go_wp2_with fail
    go_ret
    exact ⟨_, rfl, rfl⟩
theorem zb12 (a : Option Addr) (n cap : Nat) (w : World) (hn : n ≤ 9223372036854775807) : Calls Try.prog 12 #[.slice a n cap] w (SomeBool w) := by
  by_cases h : 1048576 < n
  · have h' : (1048576 : Int) < n := by omega
    go_enter Try.func12, Try.ntmps12
    go_wp2_with fail
    go_ret
    exact ⟨_, rfl, rfl⟩
  · have h' : ¬ (1048576 : Int) < n := by omega
    go_enter Try.func12, Try.ntmps12
    go_wp2_with fail
    go_ret
    exact ⟨_, rfl, rfl⟩
theorem zb18 (a a' : Option Addr) (n cap n' cap' : Nat) (w : World) (hn : n ≤ 9223372036854775807) (hn' : n' ≤ 9223372036854775807) : Calls Try.prog 18 #[.slice a n cap, .slice a' n' cap'] w (SomeBool w) := by
  go_enter Try.func18, Try.ntmps18
  go_wp2_with fail
  all_goals (go_ret; exact ⟨_, rfl, rfl⟩)

/-- bytes as values -/
def fB (bs : Nat → Int) (i : Nat) : Value := .int .u8 (bs i)
/-- the copy of a script -/
def Copied (bs : Nat → Int) (n : Nat) (w : World) (e : Ending) (w' : World) : Prop := ∃ (a : Option Addr) (cap : Nat), e = .returned (.slice a n cap) ∧ In w' a n (fB bs) ∧ (a = none → cap = 0) ∧ Below w.heap.size w w'

theorem clone_nil (bs : Nat → Int) (w : World) : Calls Try.prog 7 #[.slice none 0 0] w (Copied bs 0 w) := by
  have hn := Lib.run_eql_slice_nil (P := Try.prog)
  go_enter Try.func7, Try.ntmps7
  go_wp2_with fail
  go_ret
  exact ⟨none, 0, rfl, .inl ⟨rfl, rfl⟩, fun _ => rfl, Below.refl _ _⟩
theorem clone_some (x : Addr) (cap n : Nat) (bs : Nat → Int) (w : World) (hc : In w (some x) n (fB bs)) (hl : n ≤ 65536) : Calls Try.prog 7 #[.slice (some x) n cap] w (Copied bs n w) := by
  obtain ⟨i0, hi, hz0, hz1, hz2⟩ := info_parts info5
  have hn := Lib.run_eql_slice_nil (P := Try.prog)
  have HC := Lib.hid hc
  clear hc
  go_enter Try.func7, Try.ntmps7
  go_wp2_with (at_make; refine wpList_make_full _ rfl _ _ 22 rfl w.heap.size 5 i0 (.int .u8 0) 1 Try.underlying22 hi hz0 hz1 .i64 .i64 _ _ n rfl rfl rfl rfl (by rw [hz2]; omega) (by unfold maxLen; omega) (Nat.le_refl _) ?_; intro w0 hown0 hgrow0)
  have hr0 : Row w0 w.heap.size 5 (fpart n 0 (fB bs) (.int .u8 0)) := by rw [fpart_zero]; exact Row.of_made rfl hown0
  have hb0 : Below w.heap.size w w0 := (Below.refl _ _).grown hgrow0 (Nat.le_refl _) (fun k hk => by cases hk)
  clear hown0 hgrow0
  go_loopw [4] (fun i wr => ∃ k : Nat, k ≤ n ∧ i = .int .i64 k ∧ Hid (Row wr w.heap.size 5 (fpart n k (fB bs) (.int .u8 0))) ∧ Hid (Below w.heap.size w wr)) (fun i _ => n - (intOf i).toNat)
  case atStart => exact ⟨0, Nat.zero_le _, rfl, hr0, hb0⟩
  case round =>
    obtain ⟨k, hk, rfl, HR, HB⟩ := hrel
    clear hr0 hb0
    by_cases hlt : k < n
    · have c0 := HR.out.cell (fpart_at n k (fB bs) (.int .u8 0) k hlt hk)
      rw [if_neg (by omega)] at c0
      have f0 := HR.out.free k
      have c1 : wr.cell? (x.add k) = some (fB bs k) := by
        rcases HC.out with ⟨h, _⟩ | ⟨y, hy, hyl, hyc⟩
        · cases h
        · cases hy
          exact later hyl hyc HB.out k hlt
      have HN : Hid (Row (wr.setCell ⟨w.heap.size, k, none⟩ (fB bs k)) w.heap.size 5 (fpart n (k + 1) (fB bs) (.int .u8 0))) := by
        have := HR.out.set k (fB bs k)
        rwa [fpart_set _ k _ _ hlt] at this
      have HB2 : Hid (Below w.heap.size w (wr.setCell ⟨w.heap.size, k, none⟩ (fB bs k))) := HB.out.setCell (Nat.le_refl _) _
      unfold fB at HN HB2 c1
      go_wp2_with fail
      go_roundw
      case rel => exact ⟨k + 1, by omega, by go_num, HN, HB2⟩
      case measure => simp [intOf]; omega
    · have HF : Hid (Row wr w.heap.size 5 ((List.range n).map (fB bs))) := by
        have e : k = n := by omega
        unfold Hid; rw [← fpart_all _ _ (.int .u8 0)]; have := HR.out; rwa [e] at this
      go_wp2_with fail
      go_ret
      exact ⟨_, _, rfl, In.of_row HF.out, (fun h => by cases h), HB.out⟩
theorem clone (a : Option Addr) (cap n : Nat) (bs : Nat → Int) (w : World) (hin : In w a n (fB bs)) (hnil : a = none → n = 0 ∧ cap = 0) (hl : n ≤ 65536) : Calls Try.prog 7 #[.slice a n cap] w (Copied bs n w) := by
  cases a with
  | none => obtain ⟨rfl, rfl⟩ := hnil rfl; exact clone_nil bs w
  | some x => exact clone_some x cap n bs w hin hl

theorem newmodel (w : World) : Calls Try.prog 9 #[] w fun e w' => e = .returned (.pointer (some ⟨w.heap.size, 0, none⟩)) ∧ w' = w.alloc (.cells #[.slice none 0 0, .slice none 0 0, .int .i64 (-1), .slice none 0 0, .slice none 0 0, .slice none 0 0] 40) := by
  go_enter Try.func9, Try.ntmps9
  go_wp2_with fail
  go_ret
  exact ⟨rfl, rfl⟩
/-- fresh stack and model are in step -/
theorem state_new {base : Nat} {w : World} (hs : Stk w base base (.slice none 0 0) [] (-1) (-1)) (hw : w.heap.size = base + 1) :
    State base base (base + 1) (w.alloc (.cells #[.slice none 0 0, .slice none 0 0, .int .i64 (-1), .slice none 0 0, .slice none 0 0, .slice none 0 0] 40)) 0 := by
  have hu : Upd (fun _ => False) w (w.alloc (.cells #[.slice none 0 0, .slice none 0 0, .int .i64 (-1), .slice none 0 0, .slice none 0 0, .slice none 0 0] 40)) := (Upd.refl _ _).alloc _
  refine ⟨[], [], -1, -1, -1, [], fun k => if k = base then 0 else 2, .slice none 0 0, none, none, none, none, none, 0, 0, 0, 0, 0, [], [], [], [], [], inv_start, ⟨rfl, rfl, rfl, rfl, rfl⟩, by simp, by simp, by simp, by simp, by simp, by simp, ?_⟩
  have hn : ∀ c : Nat, Col (fun k => if k = base then 0 else 2) c (.slice none 0 0) := fun c g hg => by simp [Value.ownBlock] at hg
  exact { stk := hs.kept hu id (fun _ _ => id), blk := by have := Blk.new w #[.slice none 0 0, .slice none 0 0, .int .i64 (-1), .slice none 0 0, .slice none 0 0, .slice none 0 0] 40; rw [hw] at this; exact this, o1 := World.ownsRow_nil _ _ _ _, o2 := World.ownsRow_nil _ _ _ _, o3 := World.ownsRow_nil _ _ _ _, o4 := World.ownsRow_nil _ _ _ _, o5 := World.ownsRow_nil _ _ _ _, cb := by simp, cd := hn 1, cm := by simp, c1 := hn 3, c2 := hn 4, c3 := hn 5, c4 := hn 6, c5 := hn 7, hb := Nat.le_refl _, hm := Nat.le_succ _ }

set_option maxRecDepth 100000 in
set_option maxHeartbeats 2000000 in
/-- the runner at an empty script -/
theorem apply_nil (base b mb : Nat) (w : World) (off : Int) (cap : Nat) (hst : State base b mb w 0) (_hbase : base ≤ w.heap.size) :
    Calls Try.prog 10 #[.pointer (some ⟨b, 0, none⟩), .pointer (some ⟨mb, 0, none⟩), .slice none 0 cap, .int .i64 off] w fun e w' => e = .returned (.bool true) ∧ State base b mb w' 0 ∧ Below base w w' := by
  have HS := Lib.hid hst
  clear hst
  go_enter Try.func10, Try.ntmps10
  go_wp2_with fail
  go_loop [9] (fun i => i = .int .i64 0) (fun _ => 0)
  case atStart => exact rfl
  case round =>
    obtain rfl := hrel
    obtain ⟨d, md, idx, lim, head, sv, col, dv, a1, a2, a3, a4, a5, k1, k2, k3, k4, k5, l1, l2, l3, l4, l5, hinv, htie, hd, n1, n2, n3, n4, n5, hfull⟩ := HS.out
    obtain ⟨m0, m1, m2, m3, m4, m5, mf, mlt⟩ := hfull.cells
    have HF := Lib.hid hfull
    have hem := hinv.empty
    have hne2 : (decide (idx < 0) == decide (head < 0)) = true := by simp [hem.1]
    clear hinv hfull htie
    go_wp2_with fail
    go_quiet ((go_at_call 20; exact Calls.quiet_of_same (zemptyQ _ _ _ _ _ _ _ (Stk.drewN HF.out.stk _))))
    go_wp2_with fail
    go_ret
    exact ⟨by simp, State.drewN HS.out _, (Below.refl _ _).trans ⟨rfl, rfl, rfl, Nat.le_refl _, fun _ _ => rfl⟩⟩
end Go.Proofs.Ytkahmfdebkfcjaa.init
