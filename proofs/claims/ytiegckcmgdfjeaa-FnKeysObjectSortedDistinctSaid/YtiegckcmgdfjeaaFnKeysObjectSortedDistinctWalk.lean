/- The walk of the law FnKeysObjectSortedDistinct: it returns true at every list of strings. -/
import Derived.Test.YtiegckcmgdfjeaaKObj
import Derived.IntWalk
import Derived.Sort.Walk0
set_option linter.unusedVariables false
namespace Go.Proofs.Ytiegckcmgdfjeaa.fnKeysObjectSortedDistinct
open Go.ChangeShapes Go.WideShapes Go.ChangeAt Go.RowKit
open types fill strs dist obj srt kobj

theorem up_at {ts : List (List UInt8)} (h : ts.Pairwise (· < ·)) (k : Nat) (hk : k + 1 < ts.length) : ts.getD k [] < ts.getD (k + 1) [] := by
  have := List.pairwise_iff_getElem.1 h k (k + 1) (by omega) hk (by omega)
  simpa [List.getD, show k < ts.length by omega, hk] using this
/-- the string at place k -/
def str (ts : List (List UInt8)) (k : Nat) : ByteArray := ⟨(ts.getD k []).toArray⟩

set_option maxHeartbeats 1000000 in
set_option maxRecDepth 100000 in
theorem walk (a0 : Option Addr) (len0 cap0 : Nat) (z0 : List ByteArray) (w : World) (w0 : inp.IsStrs w a0 len0 cap0 z0) :
    Calls Try.prog 12 #[.slice a0 len0 cap0] w fun e w' => e = .returned (.bool true) ∧ Below w.heap.size w w' := by
  obtain ⟨ks, rfl, hs, hm, hnil, hin⟩ := open_in a0 len0 cap0 z0 w w0
  clear w0
  unfold maxLen at hm
  have HZ := Lib.hid (zb39 a0 cap0 ks w hin hm)
  by_cases hb : 4096 < ks.length
  · have hb' : (4096 : Int) < ks.length := by omega
    clear hnil hin hs
    go_enter Try.func12, Try.ntmps12
    go_wp2_with (go_at_call 39; refine HZ.out.mono ?_; rintro e w1 ⟨b, rfl, rfl⟩)
    all_goals (go_ret; exact ⟨rfl, Below.refl _ _⟩)
  · have hl : ks.length ≤ 4096 := by omega
    have HK := Lib.hid (kb27 a0 cap0 ks w hin hm)
    have HC := Lib.hid (clone a0 cap0 ks w hin hnil hl)
    have HS := Lib.hid hs
    clear hnil hin hs hb
    go_enter Try.func12, Try.ntmps12
    go_wp2_with (first | (go_at_call 39; refine HZ.out.mono ?_; rintro e w1 ⟨b, rfl, rfl⟩) | (go_at_call 27; refine HK.out.mono ?_; rintro e w1 ⟨t, rfl, rfl⟩) | (go_at_call 28; refine HC.out.mono ?_; rintro e w1 ⟨ac, cc, rfl, hin1, hb1⟩) | (go_at_call 40; refine (zkeys_obj _ _ ks _ hin1 hl HS.out).mono ?_; rintro e w2 ⟨g, ts, rfl, hS, hR, hb2⟩))
    all_goals first | (go_ret; exact ⟨rfl, Below.refl _ _⟩) | skip
    have HB0 : Hid (Below w.heap.size w w2) := hb1.trans (hb2.mono hb1.size)
    have HIN : Hid (InS w2 ac ks) := In.kept hin1 hb2
    have HSR := Lib.hid hS
    have HR := Lib.hid hR
    have hts : ts.length ≤ 4096 := by have := hS.len; have := dist_le ks ks.length; omega
    clear hS hR hb1 hb2 hin1 HZ HK HC
    go_loopw [5] (fun i wr => ∃ k : Nat, k ≤ ts.length ∧ i = .int .i64 ((k : Int) + 1) ∧ Hid (Row wr g 9 ((List.range ts.length).map (fT ts))) ∧ Hid (InS wr ac ks) ∧ Hid (Below w.heap.size w wr)) (fun i _ => ts.length + 1 - (intOf i).toNat)
    case atStart => exact ⟨0, Nat.zero_le _, rfl, HR, HIN, HB0⟩
    case round =>
      obtain ⟨k, hk, rfl, HRk, HI, HB⟩ := hrel
      clear HR HIN HB0
      by_cases hlt : k + 1 < ts.length
      · have c0 : wr.cell? ⟨g, k, none⟩ = some (.string (str ts k)) := HRk.out.cell (by simp [fT, str, show k < ts.length by omega])
        have c1 : wr.cell? ⟨g, k + 1, none⟩ = some (.string (str ts (k + 1))) := HRk.out.cell (by simp [fT, str, hlt])
        have hup : (str ts k).toList < (str ts (k + 1)).toList := by rw [Lib.toList_data, Lib.toList_data]; exact up_at HSR.out.up k hlt
        generalize str ts k = s1 at c0 hup
        generalize str ts (k + 1) = s2 at c1 hup
        have hq : Op.bytesLess s1.toList s2.toList = true := by rw [bytesLess_eq]; simpa using hup
        have y0 : IntKind.i64.wrap ((k : Int) + 1 - 1) = k := (IntWalk.i64_in _ (by omega)).trans (by omega)
        have y1 : (k : Int) + 1 < ts.length := by omega
        have y2 : (0 : Int) ≤ k := by omega
        have y3 : (k : Int) < ts.length := by omega
        have y4 : (0 : Int) ≤ (k : Int) + 1 := by omega
        have y5 : ((k : Int) + 1).toNat = k + 1 := by omega
        clear hup
        go_wp2_with fail
        go_quiet (fail)
        go_wp2_with fail
        go_roundw
        case rel => exact ⟨k + 1, by omega, by go_num, HRk.out, HI, below_drewN HB.out _⟩
        case measure => simp [intOf]; omega
      · go_wp2_with fail
        go_loopw [6] (fun i wr => ∃ k : Nat, k ≤ ts.length ∧ i = .int .i64 k ∧ Hid (Row wr g 9 ((List.range ts.length).map (fT ts))) ∧ Hid (InS wr ac ks) ∧ Hid (Below w.heap.size w wr)) (fun i _ => ts.length - (intOf i).toNat)
        case atStart => exact ⟨0, Nat.zero_le _, rfl, HRk, HI, HB⟩
        case round =>
          obtain ⟨k2, hk2, rfl, HRk2, HI2, HB2⟩ := hrel
          clear HRk HI HB hlt hk
          by_cases hlt : k2 < ts.length
          · have c0 : wr.cell? ⟨g, k2, none⟩ = some (.string (str ts k2)) := HRk2.out.cell (by simp [fT, str, hlt])
            have hmem : ∃ i, i < ks.length ∧ ks.getD i ByteArray.empty = str ts k2 := by
              obtain ⟨s, hs, he⟩ := (HSR.out.mem (ts.getD k2 [])).1 (by simp [hlt])
              obtain ⟨i, hi, hx⟩ := List.getElem_of_mem hs
              refine ⟨i, hi, ?_⟩
              have : ks.getD i ByteArray.empty = s := by simp [hi, hx]
              rw [this, str, ← he]
            have HE := Lib.hid hmem
            generalize str ts k2 = s1 at c0 HE
            clear hmem
            have y2 : (k2 : Int) < ts.length := by omega
            go_wp2_with (go_at_call 41; refine (contains_yes _ _ _ _ _ _ HI2.out (by omega) HE.out).mono ?_; rintro e w5 ⟨rfl, rfl⟩)
            go_roundw
            case rel => exact ⟨k2 + 1, by omega, by go_num, HRk2, HI2, HB2⟩
            case measure => simp [intOf]; omega
          · go_wp2_with fail
            go_loopw [7] (fun i wr => ∃ k : Nat, k ≤ ks.length ∧ i = .int .i64 k ∧ Hid (Row wr g 9 ((List.range ts.length).map (fT ts))) ∧ Hid (InS wr ac ks) ∧ Hid (Below w.heap.size w wr)) (fun i _ => ks.length - (intOf i).toNat)
            case atStart => exact ⟨0, Nat.zero_le _, rfl, HRk2, HI2, HB2⟩
            case round =>
              obtain ⟨k3, hk3, rfl, HRk3, HI3, HB3⟩ := hrel
              clear HRk2 HI2 HB2 hlt hk2
              by_cases hlt : k3 < ks.length
              · have HIx := HI3
                rcases HI3.out with ⟨_, h0⟩ | ⟨x, rfl, hx, hc⟩
                · omega
                have c0 : wr.cell? (x.add k3) = some (.string (ks.getD k3 ByteArray.empty)) := hc k3 hlt
                have hmem : ∃ i, i < ts.length ∧ str ts i = ks.getD k3 ByteArray.empty := by
                  have := (HSR.out.mem (ks.getD k3 ByteArray.empty).data.toList).2 ⟨_, List.getElem_mem hlt, by simp [hlt]⟩
                  obtain ⟨i, hi, hx2⟩ := List.getElem_of_mem this
                  exact ⟨i, hi, by simp [str, hi, hx2]⟩
                have HE := Lib.hid hmem
                have HQ : Hid (In wr (some ⟨g, 0, none⟩) ts.length (fun i => .string (str ts i))) := In.of_row HRk3.out
                generalize ks.getD k3 ByteArray.empty = s1 at c0 HE
                clear hmem hc hx HI3
                have y2 : (k3 : Int) < ks.length := by omega
                go_wp2_with (go_at_call 41; refine (contains_yes _ _ _ _ _ _ HQ.out (by omega) HE.out).mono ?_; rintro e w5 ⟨rfl, rfl⟩)
                go_roundw
                case rel => exact ⟨k3 + 1, by omega, by go_num, HRk3, HIx, HB3⟩
                case measure => simp [intOf]; omega
              · have hd := HSR.out.len
                have HD := Lib.hid hd
                clear hd
                go_wp2_with (go_at_call 29; refine (zlen_obj _ _ ks _ HI3.out hl HS.out).mono ?_; rintro e w5 ⟨rfl, hb5⟩)
                go_ret
                exact ⟨inp.ret_bool (by rw [HD.out]; simp), HB3.out.trans (hb5.mono HB3.out.size)⟩
end Go.Proofs.Ytiegckcmgdfjeaa.fnKeysObjectSortedDistinct
