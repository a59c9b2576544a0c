/- How the statement reads deleteEmpty's object back: into a map of ints. -/
import Derived.Test.YtjjkgpjhohnpaaaHob
set_option linter.unusedVariables false
namespace Go.Proofs.Ytjjkgpjhohnpaaa.obk
open Go.ChangeShapes Go.WideShapes Go.ChangeAt Go.RowKit Go.Maps Go.WideMaps Go.Sort
open types fill upd arr mapr hol ksm dem hob

theorem key_len {P : Program} {k : TypeId} {w : World} {b n : Nat} {D : DataW Value} (hs : P.underlying k = some .string) (h : w.ownsMap P k anyElem b n D) {x : List UInt8} (hh : Maps.has D (.string x) = true) : x.length ≤ maxLen := by
  obtain ⟨es, rfl, hk⟩ := h.keysOf
  obtain ⟨p, hp, hpk⟩ := List.any_eq_true.1 hh
  obtain ⟨v, hv⟩ := hk p hp
  obtain ⟨y, _, hy, hl⟩ := Maps.keyOf_str hs hv
  have e := WideAt.sameKey_eq hpk
  rw [hy] at e
  injection e with e
  rw [← e]; exact hl

theorem eqm_nil (w : World) : (binOp .eql 41 (.map none) (.map none)).run Try.prog w = .ok (.bool true) w := by kernel_rfl
theorem eqm_some (B : Nat) (w : World) : (binOp .eql 41 (.map (some B)) (.map none)).run Try.prog w = .ok (.bool false) w := by kernel_rfl
theorem obj15_nil (w : World) : Calls Try.prog 15 #[.iface 41 (.map none)] w fun e w' => e = .returned (.tuple #[.map none, .bool true, .bool true]) ∧ w = w' := by
  have t2 := ta_41_41; have q1 := eqm_nil
  go_enter Try.func15, Try.ntmps15
  go_wp2_with fail
  refine bodyPost_ret (v := .tuple #[.map none, .bool true, .bool true]) (by simp [results, Try.results15, go_sem]) rfl ⟨rfl, rfl⟩

set_option maxHeartbeats 1000000 in
theorem obj15_some (B n m : Nat) (ks : List ByteArray) (bs : Nat → Int) (hs : Nat → Bool) (w : World) (h : HoldsM Try.prog 9 w B n (finM ks hs m (fH bs hs))) (hn : n ≤ 65536) :
    Calls Try.prog 15 #[.iface 41 (.map (some B))] w fun e w' => ∃ R n', e = .returned (.tuple #[.map (some R), .bool false, .bool true]) ∧ HoldsM Try.prog 9 w' R n' (finM ks hs m (fI bs)) ∧ w.heap.size ≤ R ∧ Below w.heap.size w w' := by
  have t2 := ta_41_41; have t3 := ta_3_3; have q1 := eqm_some
  have hmk := make32
  obtain ⟨D, hO, hSy⟩ := h
  have hB := hO.lt
  have hsl := hO.size_le
  have HO := Lib.hid hO
  have HSy := Lib.hid hSy
  have HKY := Lib.hid (ksm.keys_any B n D w hO (by omega))
  have hlen : ∀ x, Maps.has D (.string x) = true → x.length ≤ maxLen := fun x hx => key_len Try.underlying9 hO hx
  have HLN := Lib.hid hlen
  have HHB : Hid (HoldsM Try.prog 9 w B n (finM ks hs m (fH bs hs))) := ⟨D, hO, hSy⟩
  clear hO hSy hlen
  go_enter Try.func15, Try.ntmps15
  go_wp2_with (go_at_call 17; refine HKY.out.mono ?_; rintro e w1 ⟨g, ts, rfl, hS, hRk, hgt, hBk⟩; have htl : ts.length ≤ 65536 := by (have := hS.len; omega))
  have HR0 : Hid (HoldsM Try.prog 9 (w1.alloc (.map #[] 0)) w1.heap.size 0 (hol.part ks hs m (fI bs) ts 0)) := (HoldsM.made _ _ _).congr (part_zero ks hs m _ ts)
  have HB0 : Hid (HoldsM Try.prog 9 (w1.alloc (.map #[] 0)) B n (finM ks hs m (fH bs hs))) := (HHB.out.same (hBk.block B hB)).alloc _
  have HT0 : Hid (Row (w1.alloc (.map #[] 0)) g 9 (ts.map encStr)) := hRk.alloc _
  have hbl0 : Hid (Below w.heap.size w (w1.alloc (.map #[] 0))) := hBk.alloc hBk.size _
  have hmem : Hid (∀ x, x ∈ ts ↔ (fin ks hs m x).isSome = true) := fun x => by rw [hS.mem x, HSy.out.has x]; simp [finM]
  have hxl : Hid (∀ x, x ∈ ts → x.length ≤ maxLen) := fun x hx => HLN.out x ((hS.mem x).1 hx)
  have hBR : B ≠ w1.heap.size := by have := hBk.size; omega
  have hgR : g ≠ w1.heap.size := by have := hRk.lt; omega
  have hwR : w.heap.size ≤ w1.heap.size := hBk.size
  clear hS hRk hBk hgt HKY HHB HLN HO HSy hsl
  generalize w1.heap.size = R at *
  go_loopw [9, 10, 11] (fun i _ _ wr => ∃ k : Nat, k ≤ ts.length ∧ i = .int .i64 k ∧ Hid (HoldsM Try.prog 9 wr R k (hol.part ks hs m (fI bs) ts k)) ∧ Hid (HoldsM Try.prog 9 wr B n (finM ks hs m (fH bs hs))) ∧ Hid (Row wr g 9 (ts.map encStr)) ∧ Hid (Below w.heap.size w wr)) (fun i _ _ _ => ts.length - (intOf i).toNat)
  case atStart => exact ⟨0, Nat.zero_le _, rfl, HR0, HB0, HT0, hbl0⟩
  case round =>
    obtain ⟨k, hk, rfl, HR, HH, HT, HB⟩ := hrel
    clear HR0 HB0 HT0 hbl0
    by_cases hlt : k < ts.length
    · have c0 := HT.out.cell (j := k) (v := encStr (ts.getD k [])) (by simp [hlt])
      have hin : ts.getD k [] ∈ ts := by simp [hlt]
      obtain ⟨i, hi⟩ := Option.isSome_iff_exists.1 ((hmem.out _).1 hin)
      have HI := Lib.hid hi
      have hsz : Hid ((⟨(ts.getD k []).toArray⟩ : ByteArray).size ≤ maxLen) := hxl.out _ hin
      have hv1 : Hid (finM ks hs m (fH bs hs) (⟨(ts.getD k []).toArray⟩ : ByteArray).data.toList = some (.iface 3 (.int .i64 (bs i)))) := by
        unfold Hid finM
        rw [show (⟨(ts.getD k []).toArray⟩ : ByteArray).data.toList = ts.getD k [] from rfl, hi]
        simp [fH, (fin_some hi).2]
      have HST := Lib.hid (part_step (f := fI bs) hlt hi)
      have HKM : Hid (k < maxLen) := by unfold Hid maxLen; omega
      have y1 : (k : Int) < ts.length := by omega
      have hz20 := zero20 
      unfold fI at HST
      simp only [encStr] at c0
      have HST2 : Hid (∀ x, ((hol.part ks hs m (fI bs) ts k).put (⟨(ts.getD k []).toArray⟩ : ByteArray).data.toList (.int .i64 (bs i))) x = hol.part ks hs m (fI bs) ts (k + 1) x) := HST.out
      generalize (⟨(ts.getD k []).toArray⟩ : ByteArray) = s at c0 hsz hv1 HST2
      clear hi hin HST HI
      go_wp2_with (first
        | (at_lookup; refine wpList_look _ rfl _ _ 41 rfl 9 20 Try.underlying9 Try.underlying41 (zero20 _) B n _ rfl HH.out s rfl hsz.out _ hv1.out ?_)
        | (at_mapUpdate; refine wpList_put _ rfl _ _ _ 32 rfl 9 3 Try.underlying9 Try.underlying32 R k _ rfl HR.out HKM.out s _ rfl rfl hsz.out ?_; intro w2 hown2 hg2; have HR2 := Lib.hid (hown2.congr HST2.out); have HH2 := Lib.hid (HH.out.kept hg2 (fun e => hBR (by injection e))); have HT2 := Lib.hid (HT.out.keptBut hg2 (fun e => hgR (by injection e))); have HB2 : Hid (Below w.heap.size w w2) := HB.out.grown hg2 HB.out.size (fun j hj => by cases hj; exact hwR); clear hown2 hg2))
      go_roundw
      case rel => exact ⟨k + 1, by omega, by go_num, HR2, HH2, HT2, HB2⟩
      case measure => simp [intOf]; omega
    · obtain rfl : k = ts.length := by omega
      have HF := Lib.hid (HR.out.congr (part_end (f := fI bs) hmem.out))
      go_wp2_with fail
      refine bodyPost_ret (v := .tuple #[.map (some R), .bool false, .bool true]) (by simp [results, Try.results15, go_sem]) rfl ⟨R, _, rfl, HF.out, hwR, HB.out⟩
end Go.Proofs.Ytjjkgpjhohnpaaa.obk
