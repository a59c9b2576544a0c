/- What deleteEmpty does at an array of ints of which some are marked, and how the statement builds and reads it. -/
import Derived.Test.YtjjkgpjhohnpaaaTypes
import Derived.Test.YtjjkgpjhohnpaaaFill
import Derived.Test.YtjjkgpjhohnpaaaUpd
import Derived.ProofKit
import Derived.OpenShut
import Derived.LoopTactic
import Derived.WalkLawsBesides
import Derived.WalkSpells
import Derived.Laws.EntriesVeiled
set_option linter.unusedVariables false
namespace Go.Proofs.Ytjjkgpjhohnpaaa.arr
open Go.ChangeShapes Go.WideShapes Go.ChangeAt Go.RowKit
open types fill upd

theorem info20 : (Try.prog.info? 20).map (fun i => (i.zero, i.size, i.bytes)) = some (some .nilIface, 1, 16) := by kernel_rfl
theorem info3 : (Try.prog.info? 3).map (fun i => (i.zero, i.size, i.bytes)) = some (some (.int .i64 0), 1, 8) := by kernel_rfl
theorem info4 : (Try.prog.info? 4).map (fun i => (i.zero, i.size, i.bytes)) = some (some (.bool false), 1, 1) := by kernel_rfl

def fI (bs : Nat → Int) (i : Nat) : Value := .int .i64 (bs i)
def fB (hs : Nat → Bool) (i : Nat) : Value := .bool (hs i)
/-- the marked array -/
def fH (bs : Nat → Int) (hs : Nat → Bool) (i : Nat) : Value := if hs i then .iface 44 (.agg #[]) else .iface 3 (.int .i64 (bs i))
/-- what is kept of the first i -/
def kept (bs : Nat → Int) (hs : Nat → Bool) : Nat → List Int
  | 0 => []
  | i + 1 => if hs i then kept bs hs i else kept bs hs i ++ [bs i]
theorem kept_le (bs : Nat → Int) (hs : Nat → Bool) (i : Nat) : (kept bs hs i).length ≤ i := by
  induction i with
  | zero => simp [kept]
  | succ i ih =>
    simp only [kept]
    split
    · omega
    · simp; omega
def Copied (f : Nat → Value) (n : Nat) (w : World) (e : Ending) (w' : World) : Prop := ∃ (a : Option Addr) (cap : Nat), e = .returned (.slice a n cap) ∧ In w' a n f ∧ (a = none → cap = 0) ∧ Below w.heap.size w w'

theorem clone6_nil (f : Nat → Value) (w : World) : Calls Try.prog 6 #[.slice none 0 0] w fun e w' => e = .returned (.slice none 0 0) ∧ w = w' := by
  have hn := Lib.run_eql_slice_nil (P := Try.prog)
  go_enter Try.func6, Try.ntmps6
  go_wp2_with fail
  go_ret
  exact ⟨rfl, rfl⟩
theorem clone7_nil (f : Nat → Value) (w : World) : Calls Try.prog 7 #[.slice none 0 0] w fun e w' => e = .returned (.slice none 0 0) ∧ w = w' := by
  have hn := Lib.run_eql_slice_nil (P := Try.prog)
  go_enter Try.func7, Try.ntmps7
  go_wp2_with fail
  go_ret
  exact ⟨rfl, rfl⟩
def SomeRow (f : Nat → Value) (t : TypeId) (n : Nat) (w : World) (e : Ending) (w' : World) : Prop := ∃ B, e = .returned (.slice (some ⟨B, 0, none⟩) n n) ∧ Row w' B t ((List.range n).map f) ∧ w.heap.size ≤ B ∧ Below w.heap.size w w'
theorem clone6_some (x : Addr) (cap n : Nat) (bs : Nat → Int) (w : World) (hc : In w (some x) n (fI bs)) (hn : n ≤ 65536) : Calls Try.prog 6 #[.slice (some x) n cap] w (SomeRow (fI bs) 3 n w) := by
  obtain ⟨i0, hi, hz0, hz1, hz2⟩ := info_parts info3
  have hnl := Lib.run_eql_slice_nil (P := Try.prog)
  have HC := Lib.hid hc
  clear hc
  go_enter Try.func6, Try.ntmps6
  go_wp2_with (at_make; refine wpList_make_full _ rfl _ _ 22 rfl w.heap.size 3 i0 (.int .i64 0) 1 Try.underlying22 hi hz0 hz1 .i64 .i64 _ _ n rfl rfl rfl rfl (by rw [hz2]; omega) (by unfold maxLen; omega) (Nat.le_refl _) ?_; intro w0 hown0 hgrow0)
  have hr0 : Row w0 w.heap.size 3 (fpart n 0 (fI bs) (.int .i64 0)) := by rw [fpart_zero]; exact Row.of_made rfl hown0
  have hb0 : Below w.heap.size w w0 := (Below.refl _ _).grown hgrow0 (Nat.le_refl _) (fun k hk => by cases hk)
  clear hown0 hgrow0
  go_loopw [4] (fun i wr => ∃ k : Nat, k ≤ n ∧ i = .int .i64 k ∧ Hid (Row wr w.heap.size 3 (fpart n k (fI bs) (.int .i64 0))) ∧ Hid (Below w.heap.size w wr)) (fun i _ => n - (intOf i).toNat)
  case atStart => exact ⟨0, Nat.zero_le _, rfl, hr0, hb0⟩
  case round =>
    obtain ⟨k, hk, rfl, HR, HB⟩ := hrel
    clear hr0 hb0
    by_cases hlt : k < n
    · have c0 := HR.out.cell (fpart_at n k (fI bs) (.int .i64 0) k hlt hk)
      rw [if_neg (by omega)] at c0
      have f0 := HR.out.free k
      have c1 : wr.cell? (x.add k) = some (fI bs k) := by
        rcases HC.out with ⟨h, _⟩ | ⟨y, hy, hyl, hyc⟩
        · cases h
        · cases hy; exact later hyl hyc HB.out k hlt
      have HN : Hid (Row (wr.setCell ⟨w.heap.size, k, none⟩ (fI bs k)) w.heap.size 3 (fpart n (k + 1) (fI bs) (.int .i64 0))) := by
        have := HR.out.set k (fI bs k)
        rwa [fpart_set n k (fI bs) (.int .i64 0) hlt] at this
      have HB2 : Hid (Below w.heap.size w (wr.setCell ⟨w.heap.size, k, none⟩ (fI bs k))) := HB.out.setCell (Nat.le_refl _) _
      unfold fI at HN HB2 c1
      go_wp2_with fail
      go_roundw
      case rel => exact ⟨k + 1, by omega, by go_num, HN, HB2⟩
      case measure => simp [intOf]; omega
    · obtain rfl : k = n := by omega
      have HF : Hid (Row wr w.heap.size 3 ((List.range k).map (fI bs))) := by unfold Hid; rw [← fpart_all k (fI bs) (.int .i64 0)]; exact HR.out
      go_wp2_with fail
      go_ret
      exact ⟨_, rfl, HF.out, Nat.le_refl _, HB.out⟩
theorem clone7_some (x : Addr) (cap n : Nat) (hs : Nat → Bool) (w : World) (hc : In w (some x) n (fB hs)) (hn : n ≤ 65536) : Calls Try.prog 7 #[.slice (some x) n cap] w (SomeRow (fB hs) 4 n w) := by
  obtain ⟨i0, hi, hz0, hz1, hz2⟩ := info_parts info4
  have hnl := Lib.run_eql_slice_nil (P := Try.prog)
  have HC := Lib.hid hc
  clear hc
  go_enter Try.func7, Try.ntmps7
  go_wp2_with (at_make; refine wpList_make_full _ rfl _ _ 23 rfl w.heap.size 4 i0 (.bool false) 1 Try.underlying23 hi hz0 hz1 .i64 .i64 _ _ n rfl rfl rfl rfl (by rw [hz2]; omega) (by unfold maxLen; omega) (Nat.le_refl _) ?_; intro w0 hown0 hgrow0)
  have hr0 : Row w0 w.heap.size 4 (fpart n 0 (fB hs) (.bool false)) := by rw [fpart_zero]; exact Row.of_made rfl hown0
  have hb0 : Below w.heap.size w w0 := (Below.refl _ _).grown hgrow0 (Nat.le_refl _) (fun k hk => by cases hk)
  clear hown0 hgrow0
  go_loopw [4] (fun i wr => ∃ k : Nat, k ≤ n ∧ i = .int .i64 k ∧ Hid (Row wr w.heap.size 4 (fpart n k (fB hs) (.bool false))) ∧ Hid (Below w.heap.size w wr)) (fun i _ => n - (intOf i).toNat)
  case atStart => exact ⟨0, Nat.zero_le _, rfl, hr0, hb0⟩
  case round =>
    obtain ⟨k, hk, rfl, HR, HB⟩ := hrel
    clear hr0 hb0
    by_cases hlt : k < n
    · have c0 := HR.out.cell (fpart_at n k (fB hs) (.bool false) k hlt hk)
      rw [if_neg (by omega)] at c0
      have f0 := HR.out.free k
      have c1 : wr.cell? (x.add k) = some (fB hs k) := by
        rcases HC.out with ⟨h, _⟩ | ⟨y, hy, hyl, hyc⟩
        · cases h
        · cases hy; exact later hyl hyc HB.out k hlt
      have HN : Hid (Row (wr.setCell ⟨w.heap.size, k, none⟩ (fB hs k)) w.heap.size 4 (fpart n (k + 1) (fB hs) (.bool false))) := by
        have := HR.out.set k (fB hs k)
        rwa [fpart_set n k (fB hs) (.bool false) hlt] at this
      have HB2 : Hid (Below w.heap.size w (wr.setCell ⟨w.heap.size, k, none⟩ (fB hs k))) := HB.out.setCell (Nat.le_refl _) _
      unfold fB at HN HB2 c1
      go_wp2_with fail
      go_roundw
      case rel => exact ⟨k + 1, by omega, by go_num, HN, HB2⟩
      case measure => simp [intOf]; omega
    · obtain rfl : k = n := by omega
      have HF : Hid (Row wr w.heap.size 4 ((List.range k).map (fB hs))) := by unfold Hid; rw [← fpart_all k (fB hs) (.bool false)]; exact HR.out
      go_wp2_with fail
      go_ret
      exact ⟨_, rfl, HF.out, Nat.le_refl _, HB.out⟩

/-- the array of the statement's values, its marked places laid -/
theorem holey14_nil (a : Option Addr) (n cap : Nat) (w : World) : Calls Try.prog 14 #[.slice none 0 0, .slice a n cap] w fun e w' => e = .returned (.slice none 0 0) ∧ w = w' := by
  have hn := Lib.run_eql_slice_nil (P := Try.prog)
  go_enter Try.func14, Try.ntmps14
  go_wp2_with fail
  go_ret
  exact ⟨rfl, rfl⟩
theorem holey14_some (x : Addr) (a : Option Addr) (cap cap' n : Nat) (bs : Nat → Int) (hs : Nat → Bool) (w : World) (hc : In w (some x) n (fI bs)) (hh : In w a n (fB hs)) (hn : n ≤ 65536) :
    Calls Try.prog 14 #[.slice (some x) n cap, .slice a n cap'] w (SomeRow (fH bs hs) 20 n w) := by
  obtain ⟨i0, hi, hz0, hz1, hz2⟩ := info_parts info20
  have hnl := Lib.run_eql_slice_nil (P := Try.prog)
  have HC := Lib.hid hc; have HH := Lib.hid hh
  clear hc hh
  go_enter Try.func14, Try.ntmps14
  go_wp2_with (at_make; refine wpList_make_full _ rfl _ _ 38 rfl w.heap.size 20 i0 .nilIface 1 Try.underlying38 hi hz0 hz1 .i64 .i64 _ _ n rfl rfl rfl rfl (by rw [hz2]; omega) (by unfold maxLen; omega) (Nat.le_refl _) ?_; intro w0 hown0 hgrow0)
  have hr0 : Row w0 w.heap.size 20 (fpart n 0 (fH bs hs) .nilIface) := by rw [fpart_zero]; exact Row.of_made rfl hown0
  have hb0 : Below w.heap.size w w0 := (Below.refl _ _).grown hgrow0 (Nat.le_refl _) (fun k hk => by cases hk)
  clear hown0 hgrow0
  go_loopw [6] (fun i wr => ∃ k : Nat, k ≤ n ∧ i = .int .i64 k ∧ Hid (Row wr w.heap.size 20 (fpart n k (fH bs hs) .nilIface)) ∧ Hid (Below w.heap.size w wr)) (fun i _ => n - (intOf i).toNat)
  case atStart => exact ⟨0, Nat.zero_le _, rfl, hr0, hb0⟩
  case round =>
    obtain ⟨k, hk, rfl, HR, HB⟩ := hrel
    clear hr0 hb0
    by_cases hlt : k < n
    · have c0 := HR.out.cell (fpart_at n k (fH bs hs) .nilIface k hlt hk)
      rw [if_neg (by omega)] at c0
      have f0 := HR.out.free k
      have c1 : wr.cell? (x.add k) = some (.int .i64 (bs k)) := by
        rcases HC.out with ⟨h, _⟩ | ⟨y, hy, hyl, hyc⟩
        · cases h
        · cases hy; exact later hyl hyc HB.out k hlt
      obtain ⟨xh, rfl, c2⟩ : ∃ xh, a = some xh ∧ wr.cell? (xh.add k) = some (.bool (hs k)) := by
        rcases HH.out with ⟨_, h⟩ | ⟨y, hy, hyl, hyc⟩
        · omega
        · exact ⟨y, hy, later hyl hyc HB.out k hlt⟩
      have i0 : (k : Int) < n := by omega
      have HN : Hid (Row (wr.setCell ⟨w.heap.size, k, none⟩ (fH bs hs k)) w.heap.size 20 (fpart n (k + 1) (fH bs hs) .nilIface)) := by
        have := HR.out.set k (fH bs hs k)
        rwa [fpart_set n k (fH bs hs) .nilIface hlt] at this
      have HB2 : Hid (Below w.heap.size w (wr.setCell ⟨w.heap.size, k, none⟩ (fH bs hs k))) := HB.out.setCell (Nat.le_refl _) _
      cases hk2 : hs k with
      | true =>
        rw [hk2] at c2
        have e : fH bs hs k = .iface 44 (.agg #[]) := by simp [fH, hk2]
        rw [e] at HN HB2
        clear e hk2
        go_wp2_with fail
        go_roundw
        case rel => exact ⟨k + 1, by omega, by go_num, HN, HB2⟩
        case measure => simp [intOf]; omega
      | false =>
        rw [hk2] at c2
        have e : fH bs hs k = .iface 3 (.int .i64 (bs k)) := by simp [fH, hk2]
        rw [e] at HN HB2
        clear e hk2
        go_wp2_with fail
        go_roundw
        case rel => exact ⟨k + 1, by omega, by go_num, HN, HB2⟩
        case measure => simp [intOf]; omega
    · obtain rfl : k = n := by omega
      have HF : Hid (Row wr w.heap.size 20 ((List.range k).map (fH bs hs))) := by unfold Hid; rw [← fpart_all k (fH bs hs) .nilIface]; exact HR.out
      go_wp2_with fail
      go_ret
      exact ⟨_, rfl, HF.out, Nat.le_refl _, HB.out⟩

/-- deleteEmpty at an int: as it is -/
theorem de_int (z : Int) (w : World) : Calls Try.prog 13 #[.iface 3 (.int .i64 z)] w fun e w' => e = .returned (.iface 3 (.int .i64 z)) ∧ w = w' := by
  have t1 := ta_3_44; have t2 := ta_3_41; have t3 := ta_3_38
  go_enter Try.func13, Try.ntmps13
  go_wp2_with fail
  go_ret
  exact ⟨rfl, rfl⟩
theorem de_nil (w : World) : Calls Try.prog 13 #[.iface 38 (.slice none 0 0)] w fun e w' => e = .returned (.iface 38 (.slice none 0 0)) ∧ w = w' := by
  have t1 := ta_38_44; have t2 := ta_38_41; have t3 := ta_38_38
  go_enter Try.func13, Try.ntmps13
  go_wp2_with fail
  go_loop [45, 8] (fun i j => i = .int .i64 0 ∧ j = .int .i64 0) (fun _ _ => 0)
  case atStart => exact ⟨rfl, rfl⟩
  case round =>
    obtain ⟨rfl, rfl⟩ := hrel
    go_wp2_with fail
    go_loop [11] (fun i => i = .int .i64 0) (fun _ => 0)
    case atStart => exact rfl
    case round =>
      obtain rfl := hrel
      go_wp2_with fail
      go_ret
      exact ⟨rfl, rfl⟩
end Go.Proofs.Ytjjkgpjhohnpaaa.arr
