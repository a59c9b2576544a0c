/- What the statement's test on masks answers. -/
import Derived.Test.YtenkhaopiiokmaaFmtAp
set_option linter.unusedVariables false
namespace Go.Proofs.YtenkhaopiiokmaaFmt.msk
open Go.ChangeShapes Go.WideShapes Go.ChangeAt Go.RowKit
open upd mapr mask wf ap

set_option maxHeartbeats 2000000 in
theorem ranges (m a1 b1 a2 b2 : Nat) (w : World) (hb : Bits m (fun k => (a1 ≤ k ∧ k ≤ b1) ∨ (a2 ≤ k ∧ k ≤ b2))) (h1 : b1 ≤ 30) (h2 : b2 ≤ 30) (h3 : a1 ≤ b1) (h4 : a2 ≤ b2) :
    Calls Tryf.prog 14 #[.int .i64 m, .int .i64 a1, .int .i64 b1, .int .i64 a2, .int .i64 b2] w fun e w' => e = .returned (.bool true) ∧ w = w' := by
  have hm := hb.1
  have HB := Lib.hid hb.2
  have hm0 : (0 : Int) ≤ m := by omega
  clear hb
  go_enter Tryf.func14, Tryf.ntmps14
  go_wp2_with fail
  go_loop [11, 12, 13] (fun i _ _ => ∃ k : Nat, k ≤ 63 ∧ i = .int .i64 k) (fun i _ _ => 63 - (intOf i).toNat)
  case atStart => exact ⟨0, by omega, rfl⟩
  case round =>
    obtain ⟨k, hk, rfl⟩ := hrel
    by_cases hlt : k < 63
    · have y1 : (0 : Int) ≤ k := by omega
      have y2 : (k : Int) < 63 := by omega
      have hq : Hid ((bits .and .i64 ((m : Int) / 2 ^ k) 1 == 1) = m.testBit k) := bit_asked m k hm
      have hbk := HB.out k
      by_cases c1 : a1 ≤ k <;> by_cases c2 : k ≤ b1 <;> by_cases c3 : a2 ≤ k <;> by_cases c4 : k ≤ b2
      all_goals first
        | (exfalso; omega)
        | (have hq2 := hq.out
           first
           | rw [show m.testBit k = true from hbk.2 (by omega)] at hq2
           | rw [show m.testBit k = false from by cases hv : m.testBit k; rfl; exact absurd (hbk.1 hv) (by omega)] at hq2
           clear hbk hq
           go_wp2_with fail
           refine ⟨⟨k + 1, by omega, by go_num⟩, ?_⟩
           simp [intOf]; omega)
    · obtain rfl : k = 63 := by omega
      go_wp2_with fail
      go_ret
      exact ⟨rfl, rfl⟩

/-- the option applied: the compiler had no functions -/
theorem ap_first (w : World) (c lo hi : Nat) (f : Value) (nm : ByteArray) (it : Bool) (mk : Nat) (cb : Value) (hO : Opt w lo hi f nm it mk cb) (hcb : Cb cb) (h : Blk w c (comp (.map none)) 71) (hl : nm.size ≤ maxLen) (hc : c < lo ∨ hi ≤ c) :
    Calls Tryf.prog 10 #[.pointer (some ⟨c, 0, none⟩), f] w fun e w' => e = .returned (.tuple #[]) ∧ ∃ M, Reg w' c M 1 (mapr.M.put (fun _ => none) nm.data.toList (fn mk it cb)) ∧ w.heap.size ≤ M ∧ Upd (· = c) w w' := by
  obtain ⟨p1, p2, p3, p4, rfl, h1, h2, h3, h4, b1, b2, b3, b4⟩ := hO
  have HC := Lib.hid (clos_first w c p1 p2 p3 p4 nm it mk cb b1 b2 b3 b4 hcb h hl (by omega) (by omega) (by omega) (by omega))
  clear h hl b1 b2 b3 b4 hcb
  go_enter Tryf.func10, Tryf.ntmps10
  go_wp2_with (go_at_call 23; refine HC.out.mono ?_; rintro e w1 ⟨rfl, M, hR, hM, hu⟩)
  go_end0
  exact ⟨rfl, M, hR, hM, hu⟩
theorem ap_new (w : World) (c M n lo hi : Nat) (m : mapr.M) (f : Value) (nm : ByteArray) (it : Bool) (mk : Nat) (cb : Value) (hO : Opt w lo hi f nm it mk cb) (hcb : Cb cb) (h : Reg w c M n m) (hl : nm.size ≤ maxLen) (hm : m nm.data.toList = none) (hn : n < maxLen) :
    Calls Tryf.prog 10 #[.pointer (some ⟨c, 0, none⟩), f] w fun e w' => e = .returned (.tuple #[]) ∧ Reg w' c M (n + 1) (m.put nm.data.toList (fn mk it cb)) ∧ Upd (· = M) w w' := by
  obtain ⟨p1, p2, p3, p4, rfl, h1, h2, h3, h4, b1, b2, b3, b4⟩ := hO
  have HC := Lib.hid (clos_new w c M n lo hi m p1 p2 p3 p4 nm it mk cb b1 b2 b3 b4 hcb h hl hm hn)
  clear h hl b1 b2 b3 b4 hcb hm hn
  go_enter Tryf.func10, Tryf.ntmps10
  go_wp2_with (go_at_call 23; refine HC.out.mono ?_; rintro e w1 ⟨rfl, hR, hu⟩)
  go_end0
  exact ⟨rfl, hR, hu⟩
theorem ap_merge (w : World) (c M n lo hi : Nat) (m : mapr.M) (f : Value) (nm : ByteArray) (it : Bool) (mk mk0 : Nat) (cb cb0 : Value) (hO : Opt w lo hi f nm it mk cb) (hcb : Cb cb) (h : Reg w c M n m) (hl : nm.size ≤ maxLen) (hm : m nm.data.toList = some (fn mk0 it cb0)) (hcb0 : Cb cb0) (h1 : mk < 2147483648) (h2 : mk0 < 2147483648) (hn : n < maxLen) :
    Calls Tryf.prog 10 #[.pointer (some ⟨c, 0, none⟩), f] w (Merged w c M n m nm.data.toList (mk ||| mk0) it) := by
  obtain ⟨p1, p2, p3, p4, rfl, _, _, _, _, b1, b2, b3, b4⟩ := hO
  have HC := Lib.hid (clos_merge w c M n lo hi m p1 p2 p3 p4 nm it mk mk0 cb cb0 b1 b2 b3 b4 hcb h hl hm hcb0 (or_nat mk mk0 h1 h2) hn)
  clear h hl b1 b2 b3 b4 hcb hm hn hcb0
  go_enter Tryf.func10, Tryf.ntmps10
  go_wp2_with (go_at_call 23; refine HC.out.mono ?_; rintro e w1 ⟨rfl, hR⟩)
  go_end0
  exact ⟨rfl, hR⟩

theorem neq_nil (w : World) : (binOp .neq 72 .nilFunc .nilFunc).run Tryf.prog w = .ok (.bool false) w := by kernel_rfl
theorem neq_some (g : Fn) (ps : Array Value) (w : World) : (binOp .neq 72 (.func g #[] ps) .nilFunc).run Tryf.prog w = .ok (.bool true) w := by kernel_rfl
/-- what the compiler answers of a name that it has -/
theorem func_nil (w : World) (c M n : Nat) (m : mapr.M) (nm : ByteArray) (it : Bool) (mk : Nat) (h : Reg w c M n m) (hl : nm.size ≤ maxLen) (hm : m nm.data.toList = some (fn mk it .nilFunc)) :
    Calls Tryf.prog 12 #[.pointer (some ⟨c, 0, none⟩), .string nm] w fun e w' => e = .returned (.tuple #[.int .i64 mk, .bool it, .bool false, .bool true]) ∧ Below w.heap.size w w' := by
  have c3 : w.cell? ⟨c, 3, none⟩ = some (.map (some M)) := by rw [h.blk.cell]; rfl
  have H := Lib.hid h
  have HL := Lib.hid hl
  unfold fn at hm
  have HM := Lib.hid hm
  have n1 := neq_nil; have n2 := neq_some
  clear h hl hm
  go_enter Tryf.func12, Tryf.ntmps12
  go_wp2_with (at_lookup; refine wpList_look_yes _ rfl _ _ 42 rfl 9 74 Tryf.underlying9 Tryf.underlying42 (zero74 _) M n _ rfl H.out.map nm rfl HL.out _ HM.out ?_)
  go_quiet (fail)
  go_wp2_with fail
  refine bodyPost_ret (v := .tuple #[.int .i64 mk, .bool it, .bool false, .bool true]) (by simp [results, Tryf.results12, go_sem]) rfl ⟨rfl, below_drewN ((Below.refl _ _).alloc (Nat.le_refl _) _) _⟩
theorem func_some (w : World) (c M n : Nat) (m : mapr.M) (nm : ByteArray) (it : Bool) (mk : Nat) (g : Fn) (ps : Array Value) (h : Reg w c M n m) (hl : nm.size ≤ maxLen) (hm : m nm.data.toList = some (fn mk it (.func g #[] ps))) :
    Calls Tryf.prog 12 #[.pointer (some ⟨c, 0, none⟩), .string nm] w fun e w' => e = .returned (.tuple #[.int .i64 mk, .bool it, .bool true, .bool true]) ∧ Below w.heap.size w w' := by
  have c3 : w.cell? ⟨c, 3, none⟩ = some (.map (some M)) := by rw [h.blk.cell]; rfl
  have H := Lib.hid h
  have HL := Lib.hid hl
  unfold fn at hm
  have HM := Lib.hid hm
  have n1 := neq_nil; have n2 := neq_some
  clear h hl hm
  go_enter Tryf.func12, Tryf.ntmps12
  go_wp2_with (at_lookup; refine wpList_look_yes _ rfl _ _ 42 rfl 9 74 Tryf.underlying9 Tryf.underlying42 (zero74 _) M n _ rfl H.out.map nm rfl HL.out _ HM.out ?_)
  go_quiet (fail)
  go_wp2_with fail
  refine bodyPost_ret (v := .tuple #[.int .i64 mk, .bool it, .bool true, .bool true]) (by simp [results, Tryf.results12, go_sem]) rfl ⟨rfl, below_drewN ((Below.refl _ _).alloc (Nat.le_refl _) _) _⟩
theorem count (w : World) (c M n : Nat) (m : mapr.M) (l : List (List UInt8)) (h : Reg w c M n m) (hnd : l.Nodup) (hl : ∀ x, x ∈ l ↔ (m x).isSome = true) :
    Calls Tryf.prog 13 #[.pointer (some ⟨c, 0, none⟩)] w fun e w' => e = .returned (.int .i64 l.length) ∧ w = w' := by
  have c3 : w.cell? ⟨c, 3, none⟩ = some (.map (some M)) := by rw [h.blk.cell]; rfl
  have H := Lib.hid h
  have HL := Lib.hid hl
  have HN := Lib.hid hnd
  clear h hl hnd
  go_enter Tryf.func13, Tryf.ntmps13
  go_wp2_with (at_len; refine wpList_lenM _ rfl _ 42 rfl 9 74 Tryf.underlying9 Tryf.underlying42 M n _ rfl H.out.map HN.out HL.out ?_)
  go_ret
  exact ⟨rfl, rfl⟩
end Go.Proofs.YtenkhaopiiokmaaFmt.msk
