/- What abs, length and utf8bytelength answer at strings, nil and bools; what the statements' own string helpers compute. -/
import Derived.Test.YtiegckcmgdfjeaaTypes
import Derived.Test.YtiegckcmgdfjeaaBase
import Derived.Test.YtiegckcmgdfjeaaRunes
import Derived.ProofKit
import Derived.OpenShut
import Derived.Lib.Hide
import Derived.LoopTactic
import Derived.WalkLawsBesides
import Derived.WalkSpells
namespace Go.Proofs.Ytiegckcmgdfjeaa.str
open Go.ChangeShapes Go.WideShapes Go.ChangeAt Go.RowKit
open types runes

theorem zb16_yes (s : ByteArray) (w : World) (h : s.size ≤ 1048576) : Calls Try.prog 16 #[.string s] w fun e w' => e = .returned (.bool true) ∧ w = w' := by
  go_enter Try.func16, Try.ntmps16
  go_wp2_with fail
  go_ret
  exact ⟨rfl, rfl⟩
theorem zb16_no (s : ByteArray) (w : World) (h : 1048576 < s.size) : Calls Try.prog 16 #[.string s] w fun e w' => e = .returned (.bool false) ∧ w = w' := by
  have h' : (1048576 : Int) < s.size := by omega
  go_enter Try.func16, Try.ntmps16
  go_wp2_with fail
  go_ret
  exact ⟨rfl, rfl⟩
theorem zb19_yes (s : ByteArray) (b : Bool) (w : World) (h : s.size ≤ 1048576) : Calls Try.prog 19 #[.string s, .bool b] w fun e w' => e = .returned (.bool true) ∧ w = w' := by
  go_enter Try.func19, Try.ntmps19
  go_wp2_with fail
  go_ret
  exact ⟨rfl, rfl⟩
theorem zb19_no (s : ByteArray) (b : Bool) (w : World) (h : 1048576 < s.size) : Calls Try.prog 19 #[.string s, .bool b] w fun e w' => e = .returned (.bool false) ∧ w = w' := by
  have h' : (1048576 : Int) < s.size := by omega
  go_enter Try.func19, Try.ntmps19
  go_wp2_with fail
  go_ret
  exact ⟨rfl, rfl⟩
theorem zb32_yes (s : ByteArray) (w : World) (h : s.size ≤ 1048576) : Calls Try.prog 32 #[.string s] w fun e w' => e = .returned (.bool true) ∧ w = w' := by
  go_enter Try.func32, Try.ntmps32
  go_wp2_with fail
  go_ret
  exact ⟨rfl, rfl⟩
theorem zb32_no (s : ByteArray) (w : World) (h : 1048576 < s.size) : Calls Try.prog 32 #[.string s] w fun e w' => e = .returned (.bool false) ∧ w = w' := by
  have h' : (1048576 : Int) < s.size := by omega
  go_enter Try.func32, Try.ntmps32
  go_wp2_with fail
  go_ret
  exact ⟨rfl, rfl⟩
theorem zb37_yes (a b : ByteArray) (x : Int) (w : World) (h : a.size + b.size ≤ 1048576) : Calls Try.prog 37 #[.string a, .string b, .int .i64 x] w fun e w' => e = .returned (.bool true) ∧ w = w' := by
  go_enter Try.func37, Try.ntmps37
  go_wp2_with fail
  go_ret
  exact ⟨rfl, rfl⟩
theorem zb37_no (a b : ByteArray) (x : Int) (w : World) (ha : a.size ≤ maxLen) (hb : b.size ≤ maxLen) (h : 1048576 < a.size + b.size) : Calls Try.prog 37 #[.string a, .string b, .int .i64 x] w fun e w' => e = .returned (.bool false) ∧ w = w' := by
  unfold maxLen at ha hb
  by_cases h1 : 1048576 < a.size
  · have h1' : (1048576 : Int) < a.size := by omega
    go_enter Try.func37, Try.ntmps37
    go_wp2_with fail
    go_ret
    exact ⟨rfl, rfl⟩
  · by_cases h2 : 1048576 < b.size
    · have h1' : (1048576 : Int) < b.size := by omega
      go_enter Try.func37, Try.ntmps37
      go_wp2_with fail
      go_ret
      exact ⟨rfl, rfl⟩
    · have h3 : (1048576 : Int) < (a.size : Int) + (b.size : Int) := by omega
      go_enter Try.func37, Try.ntmps37
      go_wp2_with fail
      go_ret
      exact ⟨rfl, rfl⟩

theorem abs_str (s : ByteArray) (w : World) : Calls Try.prog 43 #[.iface 9 (.string s)] w fun e w' => e = .returned (.iface 59 (.pointer (some ⟨w.heap.size, 0, none⟩))) ∧ Below w.heap.size w w' := by
  have t1 := ta_9_3; have t2 := ta_9_39; have t3 := ta_9_66; have t4 := ta_9_76
  go_enter Try.func43, Try.ntmps43
  go_wp2_with fail
  go_ret
  exact ⟨rfl, (Below.refl _ _).alloc (Nat.le_refl _) _⟩
theorem abs_nil (w : World) : Calls Try.prog 43 #[.nilIface] w fun e w' => e = .returned (.iface 59 (.pointer (some ⟨w.heap.size, 0, none⟩))) ∧ Below w.heap.size w w' := by
  have t1 := ta_nil_3; have t2 := ta_nil_39; have t3 := ta_nil_66; have t4 := ta_nil_76
  go_enter Try.func43, Try.ntmps43
  go_wp2_with fail
  go_ret
  exact ⟨rfl, (Below.refl _ _).alloc (Nat.le_refl _) _⟩
theorem abs_bool (b : Bool) (w : World) : Calls Try.prog 43 #[.iface 4 (.bool b)] w fun e w' => e = .returned (.iface 59 (.pointer (some ⟨w.heap.size, 0, none⟩))) ∧ Below w.heap.size w w' := by
  have t1 := ta_4_3; have t2 := ta_4_39; have t3 := ta_4_66; have t4 := ta_4_76
  go_enter Try.func43, Try.ntmps43
  go_wp2_with fail
  go_ret
  exact ⟨rfl, (Below.refl _ _).alloc (Nat.le_refl _) _⟩
theorem zabs_str (s : ByteArray) (w : World) : Calls Try.prog 20 #[.string s] w fun e w' => e = .returned (.bool true) ∧ Below w.heap.size w w' := by
  have t1 := ta_59_59
  go_enter Try.func20, Try.ntmps20
  go_wp2_with (go_at_call 43; refine (abs_str _ _).mono ?_; rintro e w1 ⟨rfl, hb⟩)
  go_ret
  exact ⟨rfl, hb⟩
theorem zabs_nil (w : World) : Calls Try.prog 21 #[] w fun e w' => e = .returned (.bool true) ∧ Below w.heap.size w w' := by
  have t1 := ta_59_59
  go_enter Try.func21, Try.ntmps21
  go_wp2_with (go_at_call 43; refine (abs_nil _).mono ?_; rintro e w1 ⟨rfl, hb⟩)
  go_ret
  exact ⟨rfl, hb⟩
theorem zabs_bool (b : Bool) (w : World) : Calls Try.prog 22 #[.bool b] w fun e w' => e = .returned (.bool true) ∧ Below w.heap.size w w' := by
  have t1 := ta_59_59
  go_enter Try.func22, Try.ntmps22
  go_wp2_with (go_at_call 43; refine (abs_bool _ _).mono ?_; rintro e w1 ⟨rfl, hb⟩)
  go_ret
  exact ⟨rfl, hb⟩

theorem conv (s : ByteArray) (w : World) (h : s.size ≤ 1048576) : ∃ cap C, (convert 9 81 (.string s)).run Try.prog w = .ok (.slice (some ⟨w.heap.size, 0, none⟩) (rc s) cap) (w.drew.alloc (.cells C 21)) := by
  have hr := run_runes_of_string (P := Try.prog) w 9 81 21 s Try.underlying9 Try.underlying81 Try.underlying21 (by rw [size_runes]; have := rc_le s; omega)
  rw [size_runes] at hr
  exact ⟨_, _, hr⟩
theorem len_str (s : ByteArray) (w : World) (h : s.size ≤ 1048576) : Calls Try.prog 44 #[.iface 9 (.string s)] w fun e w' => e = .returned (.iface 3 (.int .i64 (rc s))) ∧ Below w.heap.size w w' := by
  have t1 := ta_9_3; have t2 := ta_9_39; have t3 := ta_9_66; have t4 := ta_9_76; have t5 := ta_9_9
  obtain ⟨cap, C, hc⟩ := conv s w h
  go_enter Try.func44, Try.ntmps44
  go_wp2_with fail
  go_ret
  exact ⟨rfl, ((Below.refl _ _).drew.alloc (Nat.le_refl _) _)⟩
theorem zlen_str (s : ByteArray) (w : World) (h : s.size ≤ 1048576) : Calls Try.prog 17 #[.string s] w fun e w' => e = .returned (.tuple #[.int .i64 (rc s), .bool true]) ∧ Below w.heap.size w w' := by
  have t1 := ta_3_3
  go_enter Try.func17, Try.ntmps17
  go_wp2_with (go_at_call 44; refine (len_str _ _ h).mono ?_; rintro e w1 ⟨rfl, hb⟩)
  go_ret2
  exact ⟨rfl, hb⟩
theorem utf_str (s : ByteArray) (w : World) : Calls Try.prog 48 #[.iface 9 (.string s)] w fun e w' => e = .returned (.iface 3 (.int .i64 s.size)) ∧ w = w' := by
  have t1 := ta_9_9
  go_enter Try.func48, Try.ntmps48
  go_wp2_with fail
  go_ret
  exact ⟨rfl, rfl⟩
theorem utf_int (x : Int) (w : World) : Calls Try.prog 48 #[.iface 3 (.int .i64 x)] w fun e w' => e = .returned (.iface 59 (.pointer (some ⟨w.heap.size, 0, none⟩))) ∧ Below w.heap.size w w' := by
  have t1 := ta_3_9
  go_enter Try.func48, Try.ntmps48
  go_wp2_with fail
  go_ret
  exact ⟨rfl, (Below.refl _ _).alloc (Nat.le_refl _) _⟩
theorem zutf_str (s : ByteArray) (w : World) : Calls Try.prog 33 #[.string s] w fun e w' => e = .returned (.tuple #[.int .i64 s.size, .bool true]) ∧ w = w' := by
  have t1 := ta_3_3
  go_enter Try.func33, Try.ntmps33
  go_wp2_with (go_at_call 48; refine (utf_str _ _).mono ?_; rintro e w1 ⟨rfl, rfl⟩)
  go_ret2
  exact ⟨rfl, rfl⟩
theorem zutf_int (x : Int) (w : World) : Calls Try.prog 38 #[.int .i64 x] w fun e w' => e = .returned (.bool true) ∧ Below w.heap.size w w' := by
  have t1 := ta_59_59
  go_enter Try.func38, Try.ntmps38
  go_wp2_with (go_at_call 48; refine (utf_int _ _).mono ?_; rintro e w1 ⟨rfl, hb⟩)
  go_ret
  exact ⟨rfl, hb⟩
end Go.Proofs.Ytiegckcmgdfjeaa.str
