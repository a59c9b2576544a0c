/- What the statements' helpers over lists of strings compute: the bounds (some answer, nothing written), the copy. -/
import Derived.Test.YtiegckcmgdfjeaaTypes
import Derived.Test.YtiegckcmgdfjeaaFill
import Derived.ProofKit
import Derived.OpenShut
import Derived.LoopTactic
import Derived.WalkLawsBesides
import Derived.WalkSpells
import Derived.Laws.EntriesVeiled
import Derived.Deep.QuietTactic
import Derived.BigQuiet
namespace Go.Proofs.Ytiegckcmgdfjeaa.strs
open Go.ChangeShapes Go.WideShapes Go.ChangeAt Go.RowKit
open types fill

/-- the element at place i as a value -/
def fS (ks : List ByteArray) (i : Nat) : Value := .string (ks.getD i ByteArray.empty)
/-- a slice that holds the strings ks -/
def InS (w : World) (a : Option Addr) (ks : List ByteArray) : Prop := In w a ks.length (fS ks)

/-- some bool, the world as it was -/
def SomeBool (w : World) (e : Ending) (w' : World) : Prop := ∃ b, e = .returned (.bool b) ∧ w = w'
def SomeInt (w : World) (e : Ending) (w' : World) : Prop := ∃ n : Int, e = .returned (.int .i64 n) ∧ w = w'

/-- the strings of a slice that came in -/
theorem open_in (a : Option Addr) (len cap : Nat) (zs : List ByteArray) (w : World) (h : inp.IsStrs w a len cap zs) :
    ∃ ks : List ByteArray, ks.length = len ∧ (∀ s ∈ ks, s.size ≤ maxLen) ∧ len ≤ maxLen ∧ (a = none → ks = [] ∧ cap = 0) ∧ InS w a ks := by
  have hi := In.of_strs h
  rcases h with ⟨rfl, rfl, rfl, rfl⟩ | ⟨x, rfl, h1, h2, h3, h4, h5⟩
  · exact ⟨[], rfl, by simp, by unfold maxLen; omega, (fun _ => ⟨rfl, rfl⟩), .inl ⟨rfl, rfl⟩⟩
  · refine ⟨zs.take len, by simp; omega, fun s hs => h5 s (List.mem_of_mem_take hs), by omega, (fun h => by cases h), ?_⟩
    unfold InS
    rw [show (zs.take len).length = len by simp; omega]
    refine hi.congr fun i hi => ?_
    have e : (zs.take len).getD i ByteArray.empty = zs.getD i ByteArray.empty := by simp [hi]
    unfold fS; rw [e]

theorem zb26 (a : Option Addr) (cap : Nat) (ks : List ByteArray) (n : Int) (w : World) (hin : InS w a ks) (hl : ks.length ≤ 9223372036854775807) : Calls Try.prog 26 #[.slice a ks.length cap, .int .i64 n] w (SomeBool w) := by
  by_cases hbig : 1048576 < ks.length
  · have hb' : (1048576 : Int) < ks.length := by omega
    go_enter Try.func26, Try.ntmps26
    go_wp2_with fail
    go_ret
    exact ⟨_, rfl, rfl⟩
  · have hb' : ¬ (1048576 : Int) < ks.length := by omega
    rcases hin with ⟨rfl, h0⟩ | ⟨x, rfl, hx, hc⟩
    · rw [h0]
      go_enter Try.func26, Try.ntmps26
      go_wp2_with fail
      go_loop [5, 6] (fun t i => (∃ m : Int, t = .int .i64 m) ∧ i = .int .i64 0) (fun _ _ => 0)
      case atStart => exact ⟨⟨_, rfl⟩, rfl⟩
      case round =>
        obtain ⟨⟨m, rfl⟩, rfl⟩ := hrel
        go_wp2_with fail
        go_ret
        exact ⟨_, rfl, rfl⟩
    · have HC := Lib.hid hc
      clear hc
      go_enter Try.func26, Try.ntmps26
      go_wp2_with fail
      go_loop [5, 6] (fun t i => ∃ (k : Nat) (m : Int), k ≤ ks.length ∧ i = .int .i64 k ∧ t = .int .i64 m) (fun _ i => ks.length - (intOf i).toNat)
      case atStart => exact ⟨0, _, Nat.zero_le _, rfl, rfl⟩
      case round =>
        obtain ⟨k, m, hk, rfl, rfl⟩ := hrel
        by_cases hlt : k < ks.length
        · have c0 := HC.out k hlt
          unfold fS at c0
          generalize ks.getD k ByteArray.empty = s at c0
          go_wp2_with fail
          all_goals first | (go_ret; exact ⟨_, rfl, rfl⟩) | skip
          go_round
          case rel => exact ⟨k + 1, _, by omega, by go_num, rfl⟩
          case measure => simp [intOf]; omega
        · go_wp2_with fail
          go_ret
          exact ⟨_, rfl, rfl⟩
theorem zb39 (a : Option Addr) (cap : Nat) (ks : List ByteArray) (w : World) (hin : InS w a ks) (hl : ks.length ≤ 9223372036854775807) : Calls Try.prog 39 #[.slice a ks.length cap] w (SomeBool w) := by
  by_cases hbig : 1048576 < ks.length
  · have hb' : (1048576 : Int) < ks.length := by omega
    go_enter Try.func39, Try.ntmps39
    go_wp2_with fail
    go_ret
    exact ⟨_, rfl, rfl⟩
  · have hb' : ¬ (1048576 : Int) < ks.length := by omega
    rcases hin with ⟨rfl, h0⟩ | ⟨x, rfl, hx, hc⟩
    · rw [h0]
      go_enter Try.func39, Try.ntmps39
      go_wp2_with fail
      go_loop [3, 4] (fun t i => (∃ m : Int, t = .int .i64 m) ∧ i = .int .i64 0) (fun _ _ => 0)
      case atStart => exact ⟨⟨_, rfl⟩, rfl⟩
      case round =>
        obtain ⟨⟨m, rfl⟩, rfl⟩ := hrel
        go_wp2_with fail
        go_ret
        exact ⟨_, rfl, rfl⟩
    · have HC := Lib.hid hc
      clear hc
      go_enter Try.func39, Try.ntmps39
      go_wp2_with fail
      go_loop [3, 4] (fun t i => ∃ (k : Nat) (m : Int), k ≤ ks.length ∧ i = .int .i64 k ∧ t = .int .i64 m) (fun _ i => ks.length - (intOf i).toNat)
      case atStart => exact ⟨0, _, Nat.zero_le _, rfl, rfl⟩
      case round =>
        obtain ⟨k, m, hk, rfl, rfl⟩ := hrel
        by_cases hlt : k < ks.length
        · have c0 := HC.out k hlt
          unfold fS at c0
          generalize ks.getD k ByteArray.empty = s at c0
          go_wp2_with fail
          all_goals first | (go_ret; exact ⟨_, rfl, rfl⟩) | skip
          go_round
          case rel => exact ⟨k + 1, _, by omega, by go_num, rfl⟩
          case measure => simp [intOf]; omega
        · go_wp2_with fail
          go_ret
          exact ⟨_, rfl, rfl⟩
theorem kb27 (a : Option Addr) (cap : Nat) (ks : List ByteArray) (w : World) (hin : InS w a ks) (hl : ks.length ≤ 9223372036854775807) : Calls Try.prog 27 #[.slice a ks.length cap] w (SomeInt w) := by
  by_cases hbig : 131072 < ks.length
  · have hb' : (131072 : Int) < ks.length := by omega
    go_enter Try.func27, Try.ntmps27
    go_wp2_with fail
    go_ret
    exact ⟨_, rfl, rfl⟩
  · have hb' : ¬ (131072 : Int) < ks.length := by omega
    rcases hin with ⟨rfl, h0⟩ | ⟨x, rfl, hx, hc⟩
    · rw [h0]
      go_enter Try.func27, Try.ntmps27
      go_wp2_with fail
      go_loop [3, 4] (fun t i => (∃ m : Int, t = .int .i64 m) ∧ i = .int .i64 0) (fun _ _ => 0)
      case atStart => exact ⟨⟨_, rfl⟩, rfl⟩
      case round =>
        obtain ⟨⟨m, rfl⟩, rfl⟩ := hrel
        go_wp2_with fail
        go_ret
        exact ⟨_, rfl, rfl⟩
    · have HC := Lib.hid hc
      clear hc
      go_enter Try.func27, Try.ntmps27
      go_wp2_with fail
      go_loop [3, 4] (fun t i => ∃ (k : Nat) (m : Int), k ≤ ks.length ∧ i = .int .i64 k ∧ t = .int .i64 m) (fun _ i => ks.length - (intOf i).toNat)
      case atStart => exact ⟨0, _, Nat.zero_le _, rfl, rfl⟩
      case round =>
        obtain ⟨k, m, hk, rfl, rfl⟩ := hrel
        by_cases hlt : k < ks.length
        · have c0 := HC.out k hlt
          unfold fS at c0
          generalize ks.getD k ByteArray.empty = s at c0
          go_wp2_with fail
          all_goals first | (go_ret; exact ⟨_, rfl, rfl⟩) | skip
          go_round
          case rel => exact ⟨k + 1, _, by omega, by go_num, rfl⟩
          case measure => simp [intOf]; omega
        · go_wp2_with fail
          go_ret
          exact ⟨_, rfl, rfl⟩

theorem info9 : (Try.prog.info? 9).map (fun i => (i.zero, i.size, i.bytes)) = some (some (.string ⟨#[]⟩), 1, 16) := by kernel_rfl

/-- the copy: nil of nil; else a new row -/
def Copied (ks : List ByteArray) (w : World) (e : Ending) (w' : World) : Prop := ∃ (a : Option Addr) (cap : Nat), e = .returned (.slice a ks.length cap) ∧ InS w' a ks ∧ Below w.heap.size w w'

theorem clone_nil (w : World) : Calls Try.prog 28 #[.slice none 0 0] w (Copied [] w) := by
  have hn := Lib.run_eql_slice_nil (P := Try.prog)
  go_enter Try.func28, Try.ntmps28
  go_wp2_with fail
  go_ret
  exact ⟨none, 0, rfl, .inl ⟨rfl, rfl⟩, Below.refl _ _⟩
theorem clone_some (x : Addr) (cap : Nat) (ks : List ByteArray) (w : World) (hc : InS w (some x) ks) (hl : ks.length ≤ 4096) : Calls Try.prog 28 #[.slice (some x) ks.length cap] w (Copied ks w) := by
  obtain ⟨i0, hi, hz0, hz1, hz2⟩ := info_parts info9
  have hn := Lib.run_eql_slice_nil (P := Try.prog)
  have HC := Lib.hid hc
  clear hc
  go_enter Try.func28, Try.ntmps28
  go_wp2_with (at_make; refine wpList_make_full _ rfl _ _ 43 rfl w.heap.size 9 i0 (.string ⟨#[]⟩) 1 Try.underlying43 hi hz0 hz1 .i64 .i64 _ _ ks.length rfl rfl rfl rfl (by rw [hz2]; omega) (by unfold maxLen; omega) (Nat.le_refl _) ?_; intro w0 hown0 hgrow0)
  have hr0 : Row w0 w.heap.size 9 (fpart ks.length 0 (fS ks) (.string ⟨#[]⟩)) := by rw [fpart_zero]; exact Row.of_made rfl hown0
  have hb0 : Below w.heap.size w w0 := (Below.refl _ _).grown hgrow0 (Nat.le_refl _) (fun k hk => by cases hk)
  clear hown0 hgrow0
  go_loopw [4] (fun i wr => ∃ k : Nat, k ≤ ks.length ∧ i = .int .i64 k ∧ Hid (Row wr w.heap.size 9 (fpart ks.length k (fS ks) (.string ⟨#[]⟩))) ∧ Hid (Below w.heap.size w wr)) (fun i _ => ks.length - (intOf i).toNat)
  case atStart => exact ⟨0, Nat.zero_le _, rfl, hr0, hb0⟩
  case round =>
    obtain ⟨k, hk, rfl, HR, HB⟩ := hrel
    clear hr0 hb0
    by_cases hlt : k < ks.length
    · have c0 := HR.out.cell (fpart_at ks.length k (fS ks) (.string ⟨#[]⟩) k hlt hk)
      rw [if_neg (by omega)] at c0
      have f0 := HR.out.free k
      have c1 : wr.cell? (x.add k) = some (fS ks k) := by
        rcases HC.out with ⟨h, _⟩ | ⟨y, hy, hyl, hyc⟩
        · cases h
        · cases hy
          exact later hyl hyc HB.out k hlt
      have HN : Hid (Row (wr.setCell ⟨w.heap.size, k, none⟩ (fS ks k)) w.heap.size 9 (fpart ks.length (k + 1) (fS ks) (.string ⟨#[]⟩))) := by
        have := HR.out.set k (fS ks k)
        rwa [fpart_set _ k _ _ hlt] at this
      have HB2 : Hid (Below w.heap.size w (wr.setCell ⟨w.heap.size, k, none⟩ (fS ks k))) := HB.out.setCell (Nat.le_refl _) _
      unfold fS at HN HB2 c1
      generalize hs : ks.getD k ByteArray.empty = s at c1
      rw [hs] at HB2
      simp only [hs] at HN
      clear hs
      go_wp2_with fail
      go_roundw
      case rel => exact ⟨k + 1, by omega, by go_num, HN, HB2⟩
      case measure => simp [intOf]; omega
    · have HF : Hid (Row wr w.heap.size 9 ((List.range ks.length).map (fS ks))) := by
        have e : k = ks.length := by omega
        unfold Hid; rw [← fpart_all _ _ (.string ⟨#[]⟩)]; have := HR.out; rwa [e] at this
      go_wp2_with fail
      go_ret
      exact ⟨_, _, rfl, In.of_row HF.out, HB.out⟩
theorem clone (a : Option Addr) (cap : Nat) (ks : List ByteArray) (w : World) (hin : InS w a ks) (hnil : a = none → ks = [] ∧ cap = 0) (hl : ks.length ≤ 4096) : Calls Try.prog 28 #[.slice a ks.length cap] w (Copied ks w) := by
  cases a with
  | none => obtain ⟨rfl, rfl⟩ := hnil rfl; exact clone_nil w
  | some x => exact clone_some x cap ks w hin hl
end Go.Proofs.Ytiegckcmgdfjeaa.strs
