/- The walk of the law FnDeleteEmptyObjectDropsHoles: it returns true at every input. -/
import Derived.Test.YtjjkgpjhohnpaaaOkl
set_option linter.unusedVariables false
namespace Go.Proofs.Ytjjkgpjhohnpaaa.fnDeleteEmptyObjectDropsHoles
open Go.ChangeShapes Go.WideShapes Go.ChangeAt Go.RowKit Go.Maps Go.WideMaps Go.Sort
open types fill upd arr mapr hol ksm dem hob obk okl

theorem open_in (a : Option Addr) (len cap : Nat) (zs : List ByteArray) (w : World) (h : inp.IsStrs w a len cap zs) :
    ∃ ks : List ByteArray, ks.length = len ∧ (∀ i, (ks.getD i ByteArray.empty).size ≤ maxLen) ∧ len ≤ maxLen ∧ (a = none → ks = [] ∧ cap = 0) ∧ In w a ks.length (fS ks) := by
  have hi := In.of_strs h
  have hz : ∀ (ks : List ByteArray), (∀ s ∈ ks, s.size ≤ maxLen) → ∀ i, (ks.getD i ByteArray.empty).size ≤ maxLen := fun ks hs i => by
    by_cases c : i < ks.length
    · have : ks.getD i ByteArray.empty = ks[i] := by simp [c]
      rw [this]; exact hs _ (List.getElem_mem c)
    · have : ks.getD i ByteArray.empty = ByteArray.empty := by simp [List.getD, List.getElem?_eq_none (by omega : ks.length ≤ i)]
      rw [this]; exact Nat.zero_le _
  rcases h with ⟨rfl, rfl, rfl, rfl⟩ | ⟨x, rfl, h1, h2, h3, h4, h5⟩
  · exact ⟨[], rfl, hz _ (by simp), by unfold maxLen; omega, (fun _ => ⟨rfl, rfl⟩), .inl ⟨rfl, rfl⟩⟩
  · refine ⟨zs.take len, by simp; omega, hz _ (fun s hs => h5 s (List.mem_of_mem_take hs)), by omega, (fun h => by cases h), ?_⟩
    rw [show (zs.take len).length = len by simp; omega]
    refine hi.congr fun i hi => ?_
    have e : (zs.take len).getD i ByteArray.empty = zs.getD i ByteArray.empty := by simp [hi]
    unfold fS; rw [e]
theorem clone6 (a : Option Addr) (cap n : Nat) (bs : Nat → Int) (w : World) (hin : In w a n (fI bs)) (hnil : a = none → n = 0 ∧ cap = 0) (hl : n ≤ 65536) : Calls Try.prog 6 #[.slice a n cap] w (Copied (fI bs) n w) := by
  cases a with
  | none => obtain ⟨rfl, rfl⟩ := hnil rfl; exact (clone6_nil (fI bs) w).mono fun e w' ⟨h1, h2⟩ => ⟨none, 0, h1, .inl ⟨rfl, rfl⟩, fun _ => rfl, h2 ▸ Below.refl _ _⟩
  | some x => exact (clone6_some x cap n bs w hin hl).mono fun e w' ⟨B, h1, h2, h3, h4⟩ => ⟨_, n, h1, In.of_row h2, (fun h => by cases h), h4⟩
theorem clone7 (a : Option Addr) (cap n : Nat) (hs : Nat → Bool) (w : World) (hin : In w a n (fB hs)) (hnil : a = none → n = 0 ∧ cap = 0) (hl : n ≤ 65536) : Calls Try.prog 7 #[.slice a n cap] w (Copied (fB hs) n w) := by
  cases a with
  | none => obtain ⟨rfl, rfl⟩ := hnil rfl; exact (clone7_nil (fB hs) w).mono fun e w' ⟨h1, h2⟩ => ⟨none, 0, h1, .inl ⟨rfl, rfl⟩, fun _ => rfl, h2 ▸ Below.refl _ _⟩
  | some x => exact (clone7_some x cap n hs w hin hl).mono fun e w' ⟨B, h1, h2, h3, h4⟩ => ⟨_, n, h1, In.of_row h2, (fun h => by cases h), h4⟩
theorem make32_zero (w : World) : (Instr.makeMap 32 (some (.int .i64 0))).run Try.prog w = .ok (.map (some w.heap.size)) (w.alloc (.map #[] 0)) := by kernel_rfl
theorem len_nil32 (w : World) (ty : TypeId) : (Builtin.len_ #[32] ty #[.map none]).run Try.prog w = .ok (.int .i64 0) w := by kernel_rfl
/-- place i's number, as the map 'last' holds it -/
def fL (i : Nat) : Value := .int .i64 i

set_option maxRecDepth 100000 in
set_option maxHeartbeats 4000000 in
theorem walk (a0 : Option Addr) (len0 cap0 : Nat) (z0 : List ByteArray) (a1 : Option Addr) (len1 cap1 : Nat) (z1 : List Int) (a2 : Option Addr) (len2 cap2 : Nat) (z2 : Nat → Bool) (w : World) (w0 : inp.IsStrs w a0 len0 cap0 z0) (w1 : inp.IsRow .i64 w a1 len1 cap1 z1) (w2 : inp.IsBools w a2 len2 cap2 z2) :
    Calls Try.prog 4 #[.slice a0 len0 cap0, .slice a1 len1 cap1, .slice a2 len2 cap2] w fun e w' => e = .returned (.bool true) ∧ Below w.heap.size w w' := by
  obtain ⟨ks, hkl, hsz, hm0, hnil0, hin0⟩ := open_in a0 len0 cap0 z0 w w0
  obtain ⟨bs, hin1, hnil1, hm1⟩ : ∃ bs : Nat → Int, In w a1 len1 (fI bs) ∧ (a1 = none → len1 = 0 ∧ cap1 = 0) ∧ len1 ≤ 9223372036854775807 := by
    refine ⟨fun i => z1.getD i 0, In.of_ints w1, ?_, ?_⟩
    · rcases w1 with ⟨_, rfl, rfl, _⟩ | ⟨x, rfl, _⟩
      · exact fun _ => ⟨rfl, rfl⟩
      · exact fun e => by cases e
    · rcases w1 with ⟨_, rfl, rfl, _⟩ | ⟨x, rfl, h1, h2, _⟩
      · omega
      · unfold maxLen at h2; omega
  obtain ⟨hin2, hnil2, hm2⟩ : In w a2 len2 (fB z2) ∧ (a2 = none → len2 = 0 ∧ cap2 = 0) ∧ len2 ≤ 9223372036854775807 := by
    rcases w2 with ⟨rfl, rfl, rfl⟩ | ⟨x, rfl, h1, h2, h3⟩
    · exact ⟨.inl ⟨rfl, rfl⟩, fun _ => ⟨rfl, rfl⟩, by omega⟩
    · exact ⟨.inr ⟨x, rfl, fun h0 => addr_lt (h3 0 (by omega)), fun i hi => h3 i (by omega)⟩, (fun e => by cases e), by unfold maxLen at h2; omega⟩
  clear w0 w1 w2
  unfold maxLen at hm0
  subst hkl
  have HZ := Lib.hid (zb9 a0 a1 a2 cap0 len1 cap1 len2 cap2 ks w hin0 (by omega) hm1 hm2)
  have HI0 := Lib.hid hin0; have HI1 := Lib.hid hin1; have HI2 := Lib.hid hin2; have HN0 := Lib.hid hnil0; have HN1 := Lib.hid hnil1; have HN2 := Lib.hid hnil2; have HSZ := Lib.hid hsz
  clear hin0 hin1 hin2 hnil0 hnil1 hnil2 hsz
  by_cases hb0 : 65536 < ks.length
  · have hb' : (65536 : Int) < ks.length := by omega
    go_enter Try.func4, Try.ntmps4
    go_wp2_with (go_at_call 9; refine HZ.out.mono ?_; rintro e w1 ⟨b, rfl, rfl⟩)
    all_goals (go_ret; exact ⟨rfl, Below.refl _ _⟩)
  have hl0 : ks.length ≤ 65536 := by omega
  by_cases hb1 : 65536 < len1
  · have hb' : (65536 : Int) < len1 := by omega
    go_enter Try.func4, Try.ntmps4
    go_wp2_with (go_at_call 9; refine HZ.out.mono ?_; rintro e w1 ⟨b, rfl, rfl⟩)
    all_goals (go_ret; exact ⟨rfl, Below.refl _ _⟩)
  have hl1 : len1 ≤ 65536 := by omega
  by_cases hb2 : 65536 < len2
  · have hb' : (65536 : Int) < len2 := by omega
    go_enter Try.func4, Try.ntmps4
    go_wp2_with (go_at_call 9; refine HZ.out.mono ?_; rintro e w1 ⟨b, rfl, rfl⟩)
    all_goals (go_ret; exact ⟨rfl, Below.refl _ _⟩)
  have hl2 : len2 ≤ 65536 := by omega
  clear hb0 hb1 hb2 hm0 hm1 hm2
  by_cases hne : ks.length = len1 ∧ ks.length = len2
  · obtain ⟨rfl, h2⟩ := hne
    subst h2
    cases a0 with
    | none =>
      obtain ⟨rfl, rfl⟩ := HN0.out rfl
      have hnl := Lib.run_eql_slice_nil (P := Try.prog)
      have hmk := make32_zero
      have hln := len_nil32
      have HC1 := Lib.hid (clone6 a1 cap1 0 bs w HI1.out HN1.out (by omega))
      clear hl0 hl1 hl2
      go_enter Try.func4, Try.ntmps4
      go_wp2_with (go_at_call 9; refine HZ.out.mono ?_; rintro e w1 ⟨b, rfl, rfl⟩)
      · go_ret; exact ⟨rfl, Below.refl _ _⟩
      go_loop [7, 8] (fun t i => t = .int .i64 0 ∧ i = .int .i64 0) (fun _ i => 0)
      case atStart => exact ⟨rfl, rfl⟩
      case round =>
        obtain ⟨rfl, rfl⟩ := hrel
        go_wp2_with (first | (go_at_call 10; refine (clone10_nil _).mono ?_; rintro e w1 ⟨rfl, rfl⟩) | (go_at_call 6; refine HC1.out.mono ?_; rintro e w2 ⟨A1, c1, rfl, hin1, _, hb2⟩; have HB2 := Lib.hid hb2; clear hin1 hb2) | (go_at_call 7; refine (clone7 a2 cap2 0 z2 _ (HI2.out.kept HB2.out) HN2.out (by omega)).mono ?_; rintro e w3 ⟨A2, c2, rfl, hin2, _, hb3⟩; have HB3 := Lib.hid (HB2.out.trans (hb3.mono HB2.out.size)); clear hin2 hb3 HB2))
        have HB4 : Hid (Below w.heap.size w (w3.alloc (.map #[] 0))) := HB3.out.alloc HB3.out.size _
        clear HB3 HI0 HI1 HI2 HN0 HN1 HN2 HZ HC1
        go_loop [10] (fun i => i = .int .i64 0) (fun _ => 0)
        case atStart => exact rfl
        case round =>
          obtain rfl := hrel
          go_wp2_with (go_at_call 11; refine (zz11_nil _ _ _ _ _ _ _).mono ?_; rintro e w5 ⟨rfl, hb5⟩; have HB5 := Lib.hid (HB4.out.trans (hb5.mono HB4.out.size)); clear hb5)
          go_loop [14, 15, 16, 17] (fun c i _ _ => i = .int .i64 0 ∧ c = .int .i64 0) (fun _ _ _ _ => 0)
          case atStart => exact ⟨rfl, rfl⟩
          case round =>
            obtain ⟨rfl, rfl⟩ := hrel
            go_wp2_with fail
            go_ret
            exact ⟨rfl, HB5.out⟩
    | some x =>
      have hnl := Lib.run_eql_slice_nil (P := Try.prog)
      have hmk := make32
      go_enter Try.func4, Try.ntmps4
      go_wp2_with (go_at_call 9; refine HZ.out.mono ?_; rintro e w1 ⟨b, rfl, rfl⟩)
      · go_ret; exact ⟨rfl, Below.refl _ _⟩
      go_loop [7, 8] (fun t i => ∃ (k : Nat) (m : Int), k ≤ ks.length ∧ i = .int .i64 k ∧ t = .int .i64 m) (fun _ i => ks.length - (intOf i).toNat)
      case atStart => exact ⟨0, _, Nat.zero_le _, rfl, rfl⟩
      case round =>
        obtain ⟨k, m, hk, rfl, rfl⟩ := hrel
        by_cases hlt : k < ks.length
        · rcases HI0.out with ⟨h, _⟩ | ⟨y, hy, hx, hc⟩
          · cases h
          cases hy
          have c0 := hc k hlt
          unfold fS at c0
          generalize ks.getD k ByteArray.empty = s at c0
          clear hx hc HI0
          go_wp2_with fail
          go_round
          case rel => exact ⟨k + 1, _, by omega, by go_num, rfl⟩
          case measure => simp [intOf]; omega
        · go_wp2_with (first | (go_at_call 10; refine (clone10_some x cap0 ks _ HI0.out hl0).mono ?_; rintro e w1 ⟨B0, rfl, hr1, _, hb1⟩; have HR0 := Lib.hid hr1; have HB1 := Lib.hid hb1; clear hr1 hb1) | (go_at_call 6; refine (clone6 a1 cap1 _ bs _ (HI1.out.kept HB1.out) HN1.out hl0).mono ?_; rintro e w2 ⟨A1, c1, rfl, hin1, _, hb2⟩; have HJ1 := Lib.hid hin1; have HR1 := Lib.hid (HR0.out.kept hb2); have HB2 := Lib.hid (HB1.out.trans (hb2.mono HB1.out.size)); clear hin1 hb2) | (go_at_call 7; refine (clone7 a2 cap2 _ z2 _ (HI2.out.kept HB2.out) HN2.out hl0).mono ?_; rintro e w3 ⟨A2, c2, rfl, hin2, _, hb3⟩; have HJ2 := Lib.hid hin2; have HK1 := Lib.hid (HJ1.out.kept hb3); have HR2 := Lib.hid (HR1.out.kept hb3); have HB3 := Lib.hid (HB2.out.trans (hb3.mono HB2.out.size)); clear hin2 hb3 HJ1 HR1 HR0 HB1 HB2))
          · go_ret; exact ⟨rfl, Below.refl _ _⟩
          clear hlt hk HI0 HI1 HI2 HN0 HN1 HN2 HZ
          have hm0 : Hid (HoldsM Try.prog 9 (w3.alloc (.map #[] 0)) w3.heap.size 0 (mOf ks 0 fL)) := (HoldsM.made _ _ _).congr (mOf_zero ks _)
          have hb0 : Hid (Below w3.heap.size w3 (w3.alloc (.map #[] 0))) := (Below.refl _ _).alloc (Nat.le_refl _) _
          obtain ⟨M, hM⟩ : ∃ M, M = w3.heap.size := ⟨_, rfl⟩
          rw [← hM] at hm0 ⊢
          have HML : Hid (w3.heap.size ≤ M) := by unfold Hid; omega
          clear hM
          go_loopw [10] (fun i wr => ∃ k : Nat, k ≤ ks.length ∧ i = .int .i64 k ∧ Hid (HoldsM Try.prog 9 wr M k (mOf ks k fL)) ∧ Hid (Below w3.heap.size w3 wr)) (fun i _ => ks.length - (intOf i).toNat)
          case atStart => exact ⟨0, Nat.zero_le _, rfl, hm0, hb0⟩
          case round =>
            obtain ⟨k, hk, rfl, HM, HB⟩ := hrel
            clear hm0 hb0
            by_cases hlt : k < ks.length
            · have c0 : wr.cell? (⟨B0, k, none⟩ : Addr) = some (fS ks k) := (HR2.out.kept HB.out).cell (by simp [hlt])
              have hsz := Lib.hid (HSZ.out k)
              have HST := Lib.hid (mOf_step ks k fL)
              have HKM : Hid (k < maxLen) := by unfold Hid maxLen; omega
              have y1 : (k : Int) < ks.length := by omega
              unfold fS at c0
              unfold key at HST
              generalize ks.getD k ByteArray.empty = s at c0 hsz HST
              go_wp2_with (at_mapUpdate; refine wpList_put _ rfl _ _ _ 32 rfl 9 3 Try.underlying9 Try.underlying32 M k _ rfl HM.out HKM.out s _ rfl rfl hsz.out ?_; intro w4 hown1 hg1; have HM1 := Lib.hid (hown1.congr HST.out); have HB4 : Hid (Below w3.heap.size w3 w4) := HB.out.grown hg1 HB.out.size (fun j hj => by cases hj; exact HML.out); clear hown1 hg1)
              go_roundw
              case rel => exact ⟨k + 1, by omega, by go_num, HM1, HB4⟩
              case measure => simp [intOf]; omega
            · obtain rfl : k = ks.length := by omega
              have HIK : Hid (In wr (some ⟨B0, 0, none⟩) ks.length (fS ks)) := In.of_row (HR2.out.kept HB.out)
              go_wp2_with (go_at_call 11; refine (zz11_some _ A1 A2 _ c1 c2 _ ks bs z2 _ HIK.out (HK1.out.kept HB.out) (HJ2.out.kept HB.out) hl0 HSZ.out).mono ?_; rintro e w5 ⟨R, n', rfl, hR, hRl, hb5⟩; have HRM := Lib.hid hR; have HLM := Lib.hid (HM.out.same (hb5.block M HM.out.lt)); have HRK := Lib.hid ((HR2.out.kept HB.out).kept hb5); have HV := Lib.hid ((HK1.out.kept HB.out).kept hb5); have HW := Lib.hid ((HJ2.out.kept HB.out).kept hb5); have HB5 := Lib.hid ((HB3.out.trans (HB.out.mono HB3.out.size)).trans (hb5.mono (HB3.out.trans (HB.out.mono HB3.out.size)).size)); clear hR hRl hb5)
              clear HM HB HB3 HK1 HJ2 HR2 HIK hk hlt
              go_loop [14, 15, 16, 17] (fun c i _ _ => ∃ k T : Nat, k ≤ ks.length ∧ T ≤ k ∧ i = .int .i64 k ∧ c = .int .i64 T ∧ Hid (T = (cl ks z2 ks.length k).length)) (fun _ i _ _ => ks.length - (intOf i).toNat)
              case atStart => exact ⟨0, 0, Nat.zero_le _, Nat.le_refl _, rfl, rfl, rfl⟩
              case round =>
                obtain ⟨k, T, hk, hTk, rfl, rfl, HT⟩ := hrel
                by_cases hlt : k < ks.length
                · have c0 : w5.cell? (⟨B0, k, none⟩ : Addr) = some (fS ks k) := HRK.out.cell (by simp [hlt])
                  obtain ⟨y, rfl, hyc⟩ : ∃ y, A1 = some y ∧ ∀ i, i < ks.length → w5.cell? (y.add i) = some (fI bs i) := by
                    rcases HV.out with ⟨_, h0⟩ | ⟨y, h1, _, h3⟩
                    · omega
                    · exact ⟨y, h1, h3⟩
                  obtain ⟨u, rfl, huc⟩ : ∃ y, A2 = some y ∧ ∀ i, i < ks.length → w5.cell? (y.add i) = some (fB z2 i) := by
                    rcases HW.out with ⟨_, h0⟩ | ⟨y, h1, _, h3⟩
                    · omega
                    · exact ⟨y, h1, h3⟩
                  have c1 := hyc k hlt
                  have c2 := huc k hlt
                  clear hyc huc
                  have hsz := Lib.hid (HSZ.out k)
                  obtain ⟨j, hj, hkj⟩ := last_some (ks := ks) hlt
                  have hjn := (last_is hj).1
                  have hv : mOf ks ks.length fL (ks.getD k ByteArray.empty).data.toList = some (.int .i64 j) := by
                    show (last ks ks.length (key ks k)).map fL = _
                    rw [hj]; rfl
                  have HV1 := Lib.hid hv
                  have y1 : (k : Int) < ks.length := by omega
                  have y2 : (0 : Int) ≤ k := by omega
                  have hf : finM ks z2 ks.length (fI bs) (ks.getD k ByteArray.empty).data.toList = (fin ks z2 ks.length (key ks k)).map (fI bs) := rfl
                  unfold fS at c0
                  unfold fI at c1
                  unfold fB at c2
                  clear hv
                  by_cases hjk : j = k
                  · subst hjk
                    have hq : ((j : Int) != j) = false := by simp
                    cases hh : z2 j with
                    | true =>
                      have HF : Hid (finM ks z2 ks.length (fI bs) (ks.getD j ByteArray.empty).data.toList = none) := by unfold Hid; rw [hf, fin_no hj hh]; rfl
                      have HT2 : Hid (T = (cl ks z2 ks.length (j + 1)).length) := by unfold Hid; rw [cl_no (fun h => by rw [hh] at h; cases h.2)]; exact HT.out
                      rw [hh] at c2
                      generalize ks.getD j ByteArray.empty = s at c0 hsz HV1 HF hf
                      clear hf hj hh hkj hjn
                      go_wp2_with (first | (at_lookup; refine wpList_look _ rfl _ _ 32 rfl 9 3 Try.underlying9 Try.underlying32 (zero3 _) M _ _ rfl HLM.out s rfl hsz.out _ HV1.out ?_) | (at_lookup; refine wpList_look_no _ rfl _ _ 32 rfl 9 3 Try.underlying9 Try.underlying32 (zero3 _) R _ _ rfl HRM.out s rfl hsz.out HF.out ?_))
                      go_round
                      case rel => exact ⟨j + 1, T, by omega, by omega, by go_num, rfl, HT2⟩
                      case measure => simp [intOf]; omega
                    | false =>
                      have HF : Hid (finM ks z2 ks.length (fI bs) (ks.getD j ByteArray.empty).data.toList = some (.int .i64 (bs j))) := by unfold Hid; rw [hf, fin_yes hj hh]; rfl
                      have HT2 : Hid (T + 1 = (cl ks z2 ks.length (j + 1)).length) := by unfold Hid; rw [cl_yes hj hh, ← HT.out]
                      have hq2 : (bs j != bs j) = false := by simp
                      rw [hh] at c2
                      generalize ks.getD j ByteArray.empty = s at c0 hsz HV1 HF hf
                      clear hf hj hh hkj hjn
                      go_wp2_with (first | (at_lookup; refine wpList_look _ rfl _ _ 32 rfl 9 3 Try.underlying9 Try.underlying32 (zero3 _) M _ _ rfl HLM.out s rfl hsz.out _ HV1.out ?_) | (at_lookup; refine wpList_look_yes _ rfl _ _ 32 rfl 9 3 Try.underlying9 Try.underlying32 (zero3 _) R _ _ rfl HRM.out s rfl hsz.out _ HF.out ?_))
                      go_round
                      case rel => exact ⟨j + 1, T + 1, by omega, by omega, by go_num, by go_num, HT2⟩
                      case measure => simp [intOf]; omega
                  · have hq : ((j : Int) != k) = true := by simp; omega
                    have HT2 : Hid (T = (cl ks z2 ks.length (k + 1)).length) := by unfold Hid; rw [cl_no (fun h => hjk (by rw [hj] at h; have := h.1; injection this))]; exact HT.out
                    generalize ks.getD k ByteArray.empty = s at c0 hsz HV1 hf
                    clear hf hj hkj hjn hjk c1 c2
                    go_wp2_with (at_lookup; refine wpList_look _ rfl _ _ 32 rfl 9 3 Try.underlying9 Try.underlying32 (zero3 _) M _ _ rfl HLM.out s rfl hsz.out _ HV1.out ?_)
                    go_round
                    case rel => exact ⟨k + 1, T, by omega, by omega, by go_num, rfl, HT2⟩
                    case measure => simp [intOf]; omega
                · obtain rfl : k = ks.length := by omega
                  have HMEM : Hid (∀ x, x ∈ cl ks z2 ks.length ks.length ↔ (finM ks z2 ks.length (fI bs) x).isSome = true) := fun x => cl_mem ks z2 ks.length (fI bs) x
                  go_wp2_with (at_len; refine wpList_lenM _ rfl _ 32 rfl 9 3 Try.underlying9 Try.underlying32 R _ _ rfl HRM.out (cl_nodup ks z2 ks.length ks.length) HMEM.out ?_; rw [← HT.out])
                  go_ret
                  exact ⟨by simp, HB5.out⟩
  · obtain ⟨t1, ht1, ht2⟩ : ∃ t1 : Bool, ((ks.length : Int) != len1) = t1 ∧ (t1 = false → ((ks.length : Int) != len2) = true) := by
      by_cases c : ks.length = len1
      · refine ⟨false, by simp [c], fun _ => ?_⟩
        have : ks.length ≠ len2 := fun e => hne ⟨c, e⟩
        simp; omega
      · exact ⟨true, by simp; omega, fun h => by cases h⟩
    clear hne
    cases t1 with
    | true =>
      clear ht2
      go_enter Try.func4, Try.ntmps4
      go_wp2_with (go_at_call 9; refine HZ.out.mono ?_; rintro e w1 ⟨b, rfl, rfl⟩)
      · go_ret; exact ⟨rfl, Below.refl _ _⟩
      go_loop [7, 8] (fun t i => ∃ (k : Nat) (m : Int), k ≤ ks.length ∧ i = .int .i64 k ∧ t = .int .i64 m) (fun _ i => ks.length - (intOf i).toNat)
      case atStart => exact ⟨0, _, Nat.zero_le _, rfl, rfl⟩
      case round =>
        obtain ⟨k, m, hk, rfl, rfl⟩ := hrel
        by_cases hlt : k < ks.length
        · rcases HI0.out with ⟨_, h0⟩ | ⟨x, rfl, hx, hc⟩
          · omega
          have c0 := hc k hlt
          unfold fS at c0
          generalize ks.getD k ByteArray.empty = s at c0
          clear hx hc HI0
          go_wp2_with fail
          go_round
          case rel => exact ⟨k + 1, _, by omega, by go_num, rfl⟩
          case measure => simp [intOf]; omega
        · go_wp2_with fail
          all_goals (go_ret; exact ⟨rfl, Below.refl _ _⟩)
    | false =>
      have ht3 := ht2 rfl
      clear ht2
      go_enter Try.func4, Try.ntmps4
      go_wp2_with (go_at_call 9; refine HZ.out.mono ?_; rintro e w1 ⟨b, rfl, rfl⟩)
      · go_ret; exact ⟨rfl, Below.refl _ _⟩
      go_loop [7, 8] (fun t i => ∃ (k : Nat) (m : Int), k ≤ ks.length ∧ i = .int .i64 k ∧ t = .int .i64 m) (fun _ i => ks.length - (intOf i).toNat)
      case atStart => exact ⟨0, _, Nat.zero_le _, rfl, rfl⟩
      case round =>
        obtain ⟨k, m, hk, rfl, rfl⟩ := hrel
        by_cases hlt : k < ks.length
        · rcases HI0.out with ⟨_, h0⟩ | ⟨x, rfl, hx, hc⟩
          · omega
          have c0 := hc k hlt
          unfold fS at c0
          generalize ks.getD k ByteArray.empty = s at c0
          clear hx hc HI0
          go_wp2_with fail
          go_round
          case rel => exact ⟨k + 1, _, by omega, by go_num, rfl⟩
          case measure => simp [intOf]; omega
        · go_wp2_with fail
          all_goals (go_ret; exact ⟨rfl, Below.refl _ _⟩)
end Go.Proofs.Ytjjkgpjhohnpaaa.fnDeleteEmptyObjectDropsHoles
