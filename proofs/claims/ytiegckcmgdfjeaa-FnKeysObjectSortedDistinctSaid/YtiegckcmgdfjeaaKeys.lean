/- What keys answers at an array and at an int, and how the statement reads it back. -/
import Derived.Test.YtiegckcmgdfjeaaTypes
import Derived.Test.YtiegckcmgdfjeaaFill
import Derived.ProofKit
import Derived.OpenShut
import Derived.LoopTactic
import Derived.WalkLawsBesides
import Derived.WalkSpells
import Derived.Laws.EntriesVeiled
namespace Go.Proofs.Ytiegckcmgdfjeaa.keysarr
open Go.ChangeShapes Go.WideShapes Go.ChangeAt Go.RowKit
open types fill

theorem info20 : (Try.prog.info? 20).map (fun i => (i.zero, i.size, i.bytes)) = some (some .nilIface, 1, 16) := by kernel_rfl
theorem info3 : (Try.prog.info? 3).map (fun i => (i.zero, i.size, i.bytes)) = some (some (.int .i64 0), 1, 8) := by kernel_rfl

/-- the numbers 0, 1, .. as interface values; as ints -/
def fAny (i : Nat) : Value := .iface 3 (.int .i64 i)
def fInt (i : Nat) : Value := .int .i64 i

theorem keys_arr (n b0 : Nat) (w : World) (hn : n ≤ 65536) :
    Calls Try.prog 46 #[.iface 61 (.slice (some ⟨b0, 0, none⟩) n n)] w fun e w' => e = .returned (.iface 61 (.slice (some ⟨w.heap.size, 0, none⟩) n n)) ∧ Row w' w.heap.size 20 ((List.range n).map fAny) ∧ Below w.heap.size w w' := by
  obtain ⟨i0, hi, hz0, hz1, hz2⟩ := info_parts info20
  have t1 := ta_61_61
  go_enter Try.func46, Try.ntmps46
  go_wp2_with (at_make; refine wpList_make_full _ rfl _ _ 61 rfl w.heap.size 20 i0 .nilIface 1 Try.underlying61 hi hz0 hz1 .i64 .i64 _ _ n rfl rfl rfl rfl (by rw [hz2]; omega) (by unfold maxLen; omega) (Nat.le_refl _) ?_; intro w0 hown0 hgrow0)
  have hr0 : Row w0 w.heap.size 20 (fpart n 0 fAny .nilIface) := by rw [fpart_zero]; exact Row.of_made rfl hown0
  have hb0 : Below w.heap.size w w0 := (Below.refl _ _).grown hgrow0 (Nat.le_refl _) (fun k hk => by cases hk)
  clear hown0 hgrow0
  go_loopw [24] (fun i wr => ∃ k : Nat, k ≤ n ∧ i = .int .i64 k ∧ Hid (Row wr w.heap.size 20 (fpart n k fAny .nilIface)) ∧ Hid (Below w.heap.size w wr)) (fun i _ => n - (intOf i).toNat)
  case atStart => exact ⟨0, Nat.zero_le _, rfl, hr0, hb0⟩
  case round =>
    obtain ⟨k, hk, rfl, HR, HB⟩ := hrel
    by_cases hlt : k < n
    · have c0 := HR.out.cell (fpart_at n k fAny .nilIface k hlt hk)
      rw [if_neg (by omega)] at c0
      have f0 := HR.out.free k
      have HN : Hid (Row (wr.setCell ⟨w.heap.size, k, none⟩ (fAny k)) w.heap.size 20 (fpart n (k + 1) fAny .nilIface)) := by
        have := HR.out.set k (fAny k)
        rwa [fpart_set n k fAny .nilIface hlt] at this
      have HB2 : Hid (Below w.heap.size w (wr.setCell ⟨w.heap.size, k, none⟩ (fAny k))) := HB.out.setCell (Nat.le_refl _) _
      unfold fAny at HN HB2
      go_wp2_with fail
      go_roundw
      case rel => exact ⟨k + 1, by omega, by go_num, HN, HB2⟩
      case measure => simp [intOf]; omega
    · obtain rfl : k = n := by omega
      have HF : Hid (Row wr w.heap.size 20 ((List.range k).map fAny)) := by unfold Hid; rw [← fpart_all k fAny .nilIface]; exact HR.out
      go_wp2_with fail
      go_ret
      exact ⟨rfl, HF.out, HB.out⟩

theorem keys_int (x : Int) (w : World) : Calls Try.prog 46 #[.iface 3 (.int .i64 x)] w fun e w' => e = .returned (.iface 59 (.pointer (some ⟨w.heap.size, 0, none⟩))) ∧ Below w.heap.size w w' := by
  have t1 := ta_3_61; have t2 := ta_3_63
  go_enter Try.func46, Try.ntmps46
  go_wp2_with fail
  go_ret
  exact ⟨rfl, (Below.refl _ _).alloc (Nat.le_refl _) _⟩
theorem zkeys_int (x : Int) (w : World) : Calls Try.prog 24 #[.int .i64 x] w fun e w' => e = .returned (.bool true) ∧ Below w.heap.size w w' := by
  have t1 := ta_59_59
  go_enter Try.func24, Try.ntmps24
  go_wp2_with (go_at_call 46; refine (keys_int _ _).mono ?_; rintro e w1 ⟨rfl, hb⟩)
  go_ret
  exact ⟨rfl, hb⟩

theorem zkeys_arr (n : Nat) (w : World) (hn : n ≤ 65536) :
    Calls Try.prog 23 #[.int .i64 n] w fun e w' => ∃ B, e = .returned (.tuple #[.slice (some ⟨B, 0, none⟩) n n, .bool true]) ∧ Row w' B 3 ((List.range n).map fInt) ∧ Below w.heap.size w w' := by
  obtain ⟨i0, hi, hz0, hz1, hz2⟩ := info_parts info20
  obtain ⟨j0, ji, jz0, jz1, jz2⟩ := info_parts info3
  have t1 := ta_61_61; have t2 := ta_3_3
  go_enter Try.func23, Try.ntmps23
  go_wp2_with (first | (at_make; refine wpList_make_full _ rfl (.tmp 11) (.tmp 11) 61 rfl w.heap.size 20 i0 .nilIface 1 Try.underlying61 hi hz0 hz1 .i64 .i64 _ _ n rfl rfl rfl rfl (by rw [hz2]; omega) (by unfold maxLen; omega) (Nat.le_refl _) ?_; intro w0 hown0 hgrow0) | (at_make; refine wpList_make_full _ rfl (.tmp 21) (.tmp 21) 35 rfl w1.heap.size 3 j0 (.int .i64 0) 1 Try.underlying35 ji jz0 jz1 .i64 .i64 _ _ n rfl rfl rfl rfl (by rw [jz2]; omega) (by unfold maxLen; omega) (Nat.le_refl _) ?_; intro w2 hown2 hgrow2) | (go_at_call 46; refine (keys_arr _ _ _ hn).mono ?_; rintro e w1 ⟨rfl, hr1, hb1⟩))
  have hb0 : Below w.heap.size w w0 := (Below.refl _ _).grown hgrow0 (Nat.le_refl _) (fun k hk => by cases hk)
  have hb2 : Below w1.heap.size w1 w2 := (Below.refl _ _).grown hgrow2 (Nat.le_refl _) (fun k hk => by cases hk)
  have hr2 : Row w2 w1.heap.size 3 (fpart n 0 fInt (.int .i64 0)) := by rw [fpart_zero]; exact Row.of_made rfl hown2
  have hb02 : Below w.heap.size w w2 := (hb0.trans (hb1.mono hb0.size)).trans (hb2.mono (Nat.le_trans hb0.size hb1.size))
  have hr12 := hr1.kept hb2
  have hlt1 := hr1.lt
  have hle1 : w.heap.size ≤ w1.heap.size := Nat.le_trans hb0.size hb1.size
  clear hown0 hgrow0 hown2 hgrow2 hr1 hb1 hb0 hb2
  generalize w0.heap.size = B1 at *
  generalize w1.heap.size = B2 at *
  go_loopw [7] (fun i wr => ∃ k : Nat, k ≤ n ∧ i = .int .i64 k ∧ Hid (Row wr B2 3 (fpart n k fInt (.int .i64 0))) ∧ Hid (Row wr B1 20 ((List.range n).map fAny)) ∧ Hid (Below w.heap.size w wr)) (fun i _ => n - (intOf i).toNat)
  case atStart => exact ⟨0, Nat.zero_le _, rfl, hr2, hr12, hb02⟩
  case round =>
    obtain ⟨k, hk, rfl, HR, HR1, HB⟩ := hrel
    clear hr2 hr12 hb02
    by_cases hlt : k < n
    · have c0 := HR.out.cell (fpart_at n k fInt (.int .i64 0) k hlt hk)
      rw [if_neg (by omega)] at c0
      have f0 := HR.out.free k
      have c1 := HR1.out.cell (j := k) (v := fAny k) (by simp [hlt])
      have HN : Hid (Row (wr.setCell ⟨B2, k, none⟩ (fInt k)) B2 3 (fpart n (k + 1) fInt (.int .i64 0))) := by
        have := HR.out.set k (fInt k)
        rwa [fpart_set n k fInt (.int .i64 0) hlt] at this
      have HN1 : Hid (Row (wr.setCell ⟨B2, k, none⟩ (fInt k)) B1 20 ((List.range n).map fAny)) := HR1.out.other (by show B1 ≠ B2; omega) _
      have HB2 : Hid (Below w.heap.size w (wr.setCell ⟨B2, k, none⟩ (fInt k))) := HB.out.setCell hle1 _
      unfold fInt at HN HB2 HN1
      unfold fAny at c1
      go_wp2_with fail
      go_roundw
      case rel => exact ⟨k + 1, by omega, by go_num, HN, HN1, HB2⟩
      case measure => simp [intOf]; omega
    · obtain rfl : k = n := by omega
      have HF : Hid (Row wr B2 3 ((List.range k).map fInt)) := by unfold Hid; rw [← fpart_all k fInt (.int .i64 0)]; exact HR.out
      go_wp2_with fail
      go_ret2
      exact ⟨B2, rfl, HF.out, HB.out⟩
end Go.Proofs.Ytiegckcmgdfjeaa.keysarr
