/- keys of an object: the range over the map, the library's sort, and how the statement reads the answer back. -/
import Derived.Test.YtiegckcmgdfjeaaObj
import Derived.Test.YtiegckcmgdfjeaaShelf
import Derived.Test.YtiegckcmgdfjeaaSrt
import Derived.Maps.RangeWalk
import Derived.Sort.OwnSorted
set_option linter.unusedVariables false
namespace Go.Proofs.Ytiegckcmgdfjeaa.kobj
open Go.ChangeShapes Go.WideShapes Go.ChangeAt Go.RowKit Go.Maps Go.WideMaps Go.Sort
open types fill strs dist obj srt

/-- the first of m places hold the strings met so far -/
def met (m : Nat) (ss : List (List UInt8)) : List Value := ss.map encStr ++ List.replicate (m - ss.length) (.string ⟨#[]⟩)
theorem met_nil (m : Nat) : met m [] = List.replicate m (.string ⟨#[]⟩) := by simp [met]
theorem met_full (ss : List (List UInt8)) : met ss.length ss = ss.map encStr := by simp [met]
theorem met_at (m : Nat) (ss : List (List UInt8)) (h : ss.length < m) : (met m ss)[ss.length]? = some (.string ⟨#[]⟩) := by
  unfold met
  rw [List.getElem?_append_right (by simp), List.getElem?_replicate, if_pos (by simp; omega)]
theorem met_set (m : Nat) (ss : List (List UInt8)) (x : List UInt8) (h : ss.length < m) : (met m ss).set ss.length (encStr x) = met m (ss ++ [x]) := by
  obtain ⟨d, rfl⟩ : ∃ d, m = ss.length + (d + 1) := ⟨m - ss.length - 1, by omega⟩
  unfold met
  rw [List.set_append_right _ _ (by simp), show ss.length + (d + 1) - ss.length = d + 1 by omega, List.length_append, List.length_singleton, show ss.length + (d + 1) - (ss.length + 1) = d by omega, List.length_map, Nat.sub_self, List.replicate_succ, List.set_cons_zero]
  simp
theorem row_sorted {w : World} {g n : Nat} {os : Array Obj} {e : TypeId} {ss ts : List (List UInt8)} (hl : ts.length = ss.length) (h : Row w g e (ss.map encStr)) : Row (grow (putRow encStr (Sort.ahead w n) g 0 ts.toArray) os) g e (ts.map encStr) := by
  have h1 := heap_sorted (n := n) (os := os) ts.toArray h
  unfold Row
  rw [h1]
  have h2 := take_putCells (ss.map encStr).toArray ts (by simp [hl])
  rw [List.take_of_length_le (by simp [putCells, hl])] at h2
  rw [← h2]
theorem row_ne {H : Type} {P : Program} {k : TypeId} {R : Value → Option (DataW H × List MemPlace)} {w : World} {b r n : Nat} {D : DataW H} {left : Lit → Bool} {cnt g : Nat} {e : TypeId} {xs : List Value} (h : Row w g e xs) (hr : w.ranges P k R b r n D left cnt) : r ≠ g := by
  obtain ⟨_, _, _, _, _, _, _, _, _, hit, _⟩ := hr
  intro e1
  subst e1
  unfold Row at h
  rw [hit] at h
  cases h

theorem setCell_grownBy (w : World) (a : Addr) (u : Value) : w.grownBy (w.setCell a u) (some a.block) :=
  ⟨rfl, rfl, rfl, by simp, fun k hk hne => Below.heap_setCell _ _ _ _ (fun e => hne (by rw [e]))⟩
set_option maxHeartbeats 1000000 in
theorem keys_any (B n : Nat) (D0 : DataW Value) (w : World) (h : w.ownsMap Try.prog 9 anyElem B n D0) (hl : Maps.size D0 ≤ 65536) :
    Calls Try.prog 57 #[.map (some B)] w fun e w' => ∃ (g : Nat) (ts : List (List UInt8)), e = .returned (.slice (some ⟨g, 0, none⟩) ts.length ts.length) ∧ SrtD D0 ts ∧ Row w' g 9 (ts.map encStr) ∧ w.heap.size ≤ g ∧ Below w.heap.size w w' := by
  obtain ⟨i0, hi, hz0, hz1, hz2⟩ := info_parts info9
  have hB := h.lt
  have HO := Lib.hid h
  obtain ⟨m, hm0⟩ : ∃ m, Maps.size D0 = m := ⟨_, rfl⟩
  have hm : m ≤ 65536 := by omega
  have HM := Lib.hid hm0
  clear h hl hm0
  go_enter Try.func57, Try.ntmps57
  go_wp2_with (first
    | (at_len; refine wpList_len_own _ rfl _ 63 rfl 9 20 Try.underlying63 anyElem B n _ rfl HO.out ?_; rw [HM.out])
    | (at_make; refine wpList_make_full _ rfl _ _ 43 rfl w.heap.size 9 i0 (.string ⟨#[]⟩) 1 Try.underlying43 hi hz0 hz1 .i64 .i64 _ _ m rfl rfl rfl rfl (by rw [hz2]; omega) (by unfold maxLen; omega) (Nat.le_refl _) ?_; intro w1 hown1 hg1)
    | (at_range; refine wpList_range_own _ rfl _ 63 rfl 9 20 law Try.underlying63 _ B n _ rfl (HO.out.kept hg1 (by simp)) ?_; intro w0 hrg0 hg0 hs0))
  go_frame
  have hr0 : Row w1 w.heap.size 9 (met m []) := by rw [met_nil]; exact Row.of_made rfl hown1
  have hr1 : Hid (Row w0 w.heap.size 9 (met m [])) := hr0.keptBut hg0 (by simp)
  have hb1 : Hid (Below w.heap.size w w0) := ((Below.refl _ _).grown hg1 (Nat.le_refl _) (fun j hj => by cases hj)).grown hg0 hg1.size (fun j hj => by cases hj)
  have hsz : w.heap.size ≤ w1.heap.size := hg1.size
  have HR := Lib.hid hrg0
  clear hown1 hr0 hg0 hs0 hrg0 hg1
  obtain ⟨it, hit⟩ : ∃ it, it = w1.heap.size := ⟨_, rfl⟩
  rw [← hit] at HR hsz ⊢
  clear hit
  go_loopw [4] (fun i wr => ∃ (left : Lit → Bool) (cnt : Nat) (ss : List (List UInt8)), i = .int .i64 ss.length ∧ ss.length + cnt ≤ m ∧ Hid (wr.ranges Try.prog 9 anyElem B it n D0 left cnt) ∧ Hid (Row wr w.heap.size 9 (met m ss)) ∧ Hid (Collected D0 left ss) ∧ Hid (Below w.heap.size w wr)) (fun _ wr => wr.rangeLeft B it)
  case atStart => exact ⟨_, _, [], rfl, by rw [HM.out]; simp, HR, hr1, Collected.start _, hb1⟩
  case round =>
    obtain ⟨left, cnt, ss, rfl, hcs, HG, HRow, HC, HB⟩ := hrel
    clear HR hr1 hb1
    go_wp2_with (at_next; refine wpList_next_ranges _ rfl _ rfl 9 law anyElem encStr (fun v : Value => v) (fun key kl hk => by obtain ⟨x, hx, _⟩ := Maps.keyOf_str Try.underlying9 hk; exact ⟨x, hx⟩) (fun v y hv => ⟨v, rfl⟩) B it n _ _ _ rfl HG.out ?_ ?_)
    · intro hc0 hl0
      have hown := HG.out.owns
      have hlen : ss.length = m := by
        rw [← HM.out]
        exact len_of_perm (HC.out.perm hown law Try.underlying9 hl0) (by obtain ⟨es, h, _⟩ := hown.entries law; exact ⟨es, h⟩)
      subst hlen
      have hS : Hid (SrtD D0 (ss.mergeSort fun x y => decide (x ≤ y))) := srt_of HC.out hl0 HM.out.symm
      have hrow : Row wr w.heap.size 9 (ss.map encStr) := by rw [← met_full]; exact HRow.out
      have hc := Lib.hid (Try.sort_Strings w.heap.size 0 ss.length ss wr (holds_of_block hrow (by show (ss.map encStr).take ss.length = _; rw [List.take_of_length_le (by simp)])) hrow.lt (by omega))
      have HRW := Lib.hid hrow
      clear hown hc0 hl0 hrow hcs
      go_wp2_with (go_at_call 71; refine hc.out.mono ?_; rintro e w' ⟨rfl, nn, os, rfl⟩)
      go_ret
      exact ⟨w.heap.size, _, by simp, hS.out, row_sorted (by simp) HRW.out, Nat.le_refl _, HB.out.grown (grownBy_sorted _) HB.out.size (fun j hj => by cases hj; exact Nat.le_refl _)⟩
    · intro x c kl yd yp w2 cnt2 hkey hlk hv hat hrg2 hlt hg2 hs2 hen
      obtain ⟨x', ex, rfl, _⟩ := Maps.keyOf_str Try.underlying9 hkey
      obtain rfl : x = x' := encStr_inj ex
      have hne := row_ne HRow.out HG.out
      have HRow2 := HRow.out.keptBut hg2 (fun e => hne (by cases e; rfl))
      have hltm : ss.length < m := by omega
      have c0 := HRow2.cell (met_at m ss hltm)
      have f0 := HRow2.free ss.length
      have hset := HRow2.set ss.length (encStr x)
      rw [met_set m ss x hltm] at hset
      have HR3 := Lib.hid hset
      have hrgk : Hid ((w2.setCell ⟨w.heap.size, ss.length, none⟩ (encStr x)).ranges Try.prog 9 anyElem B it n D0 _ cnt2) := hrg2.kept (setCell_grownBy _ _ _) (fun e => absurd (show B = w.heap.size by injection e) (by omega)) (fun e => hne (by injection e))
      have HBk : Hid (Below w.heap.size w (w2.setCell ⟨w.heap.size, ss.length, none⟩ (encStr x))) := (HB.out.grown hg2 HB.out.size (fun j hj => by cases hj; exact hsz)).setCell (Nat.le_refl _) _
      have HC3 := Lib.hid (HC.out.step hlk hat)
      have hl0 : Hid (wr.rangeLeft B it = cnt) := HG.out.left_eq
      have hlm : (ss.length : Int) < m := by omega
      have HLT := Lib.hid hlt
      clear hs2 hg2 hlk hat hv hkey ex HRow2 hset hrg2 hlt HRow HC HB HG
      go_wp2_with fail
      go_roundw
      case rel => exact ⟨_, cnt2, ss ++ [x], by simp, by have := HLT.out; simp; omega, hrgk, HR3, HC3, HBk⟩
      case measure => rw [hrgk.out.left_eq, hl0.out]; exact HLT.out

/-- the sorted list, place by place: as strings, as interface values -/
def fT (ts : List (List UInt8)) (i : Nat) : Value := encStr (ts.getD i [])
def fA (ts : List (List UInt8)) (i : Nat) : Value := .iface 9 (encStr (ts.getD i []))
theorem range_fT (ts : List (List UInt8)) : (List.range ts.length).map (fT ts) = ts.map encStr := by
  apply List.ext_getElem (by simp)
  intro i h1 h2
  simp at h1
  simp [fT, h1]

/-- keys at an object -/
theorem keys_obj (B n : Nat) (D0 : DataW Value) (w : World) (h : w.ownsMap Try.prog 9 anyElem B n D0) (hl : Maps.size D0 ≤ 65536) :
    Calls Try.prog 46 #[.iface 63 (.map (some B))] w fun e w' => ∃ (g : Nat) (ts : List (List UInt8)), e = .returned (.iface 61 (.slice (some ⟨g, 0, none⟩) ts.length ts.length)) ∧ SrtD D0 ts ∧ Row w' g 20 ((List.range ts.length).map (fA ts)) ∧ Below w.heap.size w w' := by
  obtain ⟨i0, hi, hz0, hz1, hz2⟩ := info_parts keysarr.info20
  have t1 := ta_63_61; have t2 := ta_63_63
  have hB := h.lt
  have HO := Lib.hid h
  obtain ⟨m, hm0⟩ : ∃ m, Maps.size D0 = m := ⟨_, rfl⟩
  have hm : m ≤ 65536 := by omega
  have HM := Lib.hid hm0
  clear h hl hm0
  go_enter Try.func46, Try.ntmps46
  go_wp2_with (first
    | (at_len; refine wpList_len_own _ rfl _ 63 rfl 9 20 Try.underlying63 anyElem B n _ rfl HO.out ?_; rw [HM.out])
    | (at_make; refine wpList_make_full _ rfl _ _ 61 rfl w.heap.size 20 i0 .nilIface 1 Try.underlying61 hi hz0 hz1 .i64 .i64 _ _ m rfl rfl rfl rfl (by rw [hz2]; omega) (by unfold maxLen; omega) (Nat.le_refl _) ?_; intro w1 hown1 hg1)
    | (go_at_call 57; refine (keys_any B n D0 w1 (HO.out.kept hg1 (by simp)) (by rw [HM.out]; exact hm)).mono ?_; rintro e w2 ⟨g, ts, rfl, hS, hRk, hgt, hBk⟩; have hgt : w.heap.size ≠ g := by (have := hg1.size; have := Row.of_made rfl hown1; have := this.lt; omega)))
  have hlen : ts.length = m := by rw [hS.len, HM.out]
  subst hlen
  have hr0 : Row w1 w.heap.size 20 (fpart ts.length 0 (fA ts) .nilIface) := by rw [fpart_zero]; exact Row.of_made rfl hown1
  have hb0 : Below w.heap.size w w1 := (Below.refl _ _).grown hg1 (Nat.le_refl _) (fun k hk => by cases hk)
  have hgn : Hid (w.heap.size ≠ g) := hgt
  have hr1 : Hid (Row w2 w.heap.size 20 (fpart ts.length 0 (fA ts) .nilIface)) := hr0.kept hBk
  have hb1 : Hid (Below w.heap.size w w2) := hb0.trans (hBk.mono hb0.size)
  have HK := Lib.hid hRk
  have HS := Lib.hid hS
  clear hown1 hg1 hr0 hb0 hRk hBk hS hgt
  go_loopw [44, 8, 9] (fun i _ _ wr => ∃ k : Nat, k ≤ ts.length ∧ i = .int .i64 k ∧ Hid (Row wr w.heap.size 20 (fpart ts.length k (fA ts) .nilIface)) ∧ Hid (Row wr g 9 (ts.map encStr)) ∧ Hid (Below w.heap.size w wr)) (fun i _ _ _ => ts.length - (intOf i).toNat)
  case atStart => exact ⟨0, Nat.zero_le _, rfl, hr1, HK, hb1⟩
  case round =>
    obtain ⟨k, hk, rfl, HR, HG, HB⟩ := hrel
    clear hr1 hb1 HK
    by_cases hlt : k < ts.length
    · have c0 := HR.out.cell (fpart_at ts.length k (fA ts) .nilIface k hlt hk)
      rw [if_neg (by omega)] at c0
      have f0 := HR.out.free k
      have c1 := HG.out.cell (j := k) (v := encStr (ts.getD k [])) (by simp [hlt])
      have HN : Hid (Row (wr.setCell ⟨w.heap.size, k, none⟩ (fA ts k)) w.heap.size 20 (fpart ts.length (k + 1) (fA ts) .nilIface)) := by
        have := HR.out.set k (fA ts k)
        rwa [fpart_set ts.length k (fA ts) .nilIface hlt] at this
      have HG2 : Hid (Row (wr.setCell ⟨w.heap.size, k, none⟩ (fA ts k)) g 9 (ts.map encStr)) := HG.out.other (fun e => hgn.out e.symm) _
      have HB2 : Hid (Below w.heap.size w (wr.setCell ⟨w.heap.size, k, none⟩ (fA ts k))) := HB.out.setCell (Nat.le_refl _) _
      unfold fA at HN HB2 HG2
      simp only [encStr] at HN HB2 HG2 c1
      obtain ⟨s, hs⟩ : ∃ s, ts.getD k [] = s := ⟨_, rfl⟩
      simp only [hs] at HN HB2 HG2 c1
      clear hs
      have hi1 : (k : Int) < ts.length := by omega
      go_wp2_with fail
      go_roundw
      case rel => exact ⟨k + 1, by omega, by go_num, HN, HG2, HB2⟩
      case measure => simp [intOf]; omega
    · obtain rfl : k = ts.length := by omega
      have HF : Hid (Row wr w.heap.size 20 ((List.range ts.length).map (fA ts))) := by unfold Hid; rw [← fpart_all ts.length (fA ts) .nilIface]; exact HR.out
      go_wp2_with fail
      go_ret
      exact ⟨w.heap.size, ts, rfl, HS.out, HF.out, HB.out⟩

/-- the sorted list read back as strings -/
theorem zkeys_obj (a : Option Addr) (cap : Nat) (ks : List ByteArray) (w : World) (hin : InS w a ks) (hl : ks.length ≤ 4096) (hs : ∀ s ∈ ks, s.size ≤ maxLen) :
    Calls Try.prog 40 #[.slice a ks.length cap] w fun e w' => ∃ (g : Nat) (ts : List (List UInt8)), e = .returned (.tuple #[.slice (some ⟨g, 0, none⟩) ts.length ts.length, .bool true]) ∧ Srt ks ts ∧ Row w' g 9 ((List.range ts.length).map (fT ts)) ∧ Below w.heap.size w w' := by
  obtain ⟨i0, hi, hz0, hz1, hz2⟩ := info_parts info9
  have HM := Lib.hid (make_obj a cap ks w hin hl hs)
  have HL : Hid (Maps.size (setOf (.held Value.nilIface) (klits ks)) ≤ 65536) := by unfold Hid; rw [size_set]; have := dist_le ks ks.length; omega
  have HL2 : Hid (dist ks ks.length ≤ 65536) := by have := dist_le ks ks.length; unfold Hid; omega
  have t1 := ta_61_61; have t2 := ta_9_9
  clear hin hs hl
  go_enter Try.func40, Try.ntmps40
  go_wp2_with (first
    | (go_at_call 47; refine HM.out.mono ?_; rintro e w1 ⟨B, rfl, hobj, hb1, _⟩)
    | (go_at_call 46; refine (keys_obj _ _ _ _ hobj HL.out).mono ?_; rintro e w2 ⟨g, ts, rfl, hS, hR, hb2⟩; have hts : ts.length ≤ 65536 := by (have := hS.srt.len; have := HL2.out; omega))
    | (at_make; refine wpList_make_full _ rfl (.tmp 21) (.tmp 21) 43 rfl w2.heap.size 9 i0 (.string ⟨#[]⟩) 1 Try.underlying43 hi hz0 hz1 .i64 .i64 _ _ ts.length rfl rfl rfl rfl (by rw [hz2]; omega) (by unfold maxLen; omega) (Nat.le_refl _) ?_; intro w3 hown3 hg3))
  have hr0 : Row w3 w2.heap.size 9 (fpart ts.length 0 (fT ts) (.string ⟨#[]⟩)) := by rw [fpart_zero]; exact Row.of_made rfl hown3
  have hb23 : Below w2.heap.size w2 w3 := (Below.refl _ _).grown hg3 (Nat.le_refl _) (fun k hk => by cases hk)
  have hb0 : Hid (Below w.heap.size w w3) := (hb1.trans (hb2.mono hb1.size)).trans (hb23.mono (Nat.le_trans hb1.size hb2.size))
  have hlt2 := hR.lt
  have hle2 : w.heap.size ≤ w2.heap.size := Nat.le_trans hb1.size hb2.size
  have HRA := Lib.hid (hR.kept hb23)
  have HR0 := Lib.hid hr0
  have HS := Lib.hid hS.srt
  clear hown3 hg3 hr0 hR hb1 hb2 hb23 hS hobj HM
  generalize w2.heap.size = B2 at *
  go_loopw [7, 8, 9] (fun i _ _ wr => ∃ k : Nat, k ≤ ts.length ∧ i = .int .i64 k ∧ Hid (Row wr B2 9 (fpart ts.length k (fT ts) (.string ⟨#[]⟩))) ∧ Hid (Row wr g 20 ((List.range ts.length).map (fA ts))) ∧ Hid (Below w.heap.size w wr)) (fun i _ _ _ => ts.length - (intOf i).toNat)
  case atStart => exact ⟨0, Nat.zero_le _, rfl, HR0, HRA, hb0⟩
  case round =>
    obtain ⟨k, hk, rfl, HR, HG, HB⟩ := hrel
    clear HR0 HRA hb0
    by_cases hlt : k < ts.length
    · have c0 := HR.out.cell (fpart_at ts.length k (fT ts) (.string ⟨#[]⟩) k hlt hk)
      rw [if_neg (by omega)] at c0
      have f0 := HR.out.free k
      have c1 := HG.out.cell (j := k) (v := fA ts k) (by simp [hlt])
      have HN : Hid (Row (wr.setCell ⟨B2, k, none⟩ (fT ts k)) B2 9 (fpart ts.length (k + 1) (fT ts) (.string ⟨#[]⟩))) := by
        have := HR.out.set k (fT ts k)
        rwa [fpart_set ts.length k (fT ts) (.string ⟨#[]⟩) hlt] at this
      have HG2 : Hid (Row (wr.setCell ⟨B2, k, none⟩ (fT ts k)) g 20 ((List.range ts.length).map (fA ts))) := HG.out.other (by show g ≠ B2; omega) _
      have HB2 : Hid (Below w.heap.size w (wr.setCell ⟨B2, k, none⟩ (fT ts k))) := HB.out.setCell hle2 _
      unfold fT at HN HB2 HG2
      unfold fA at c1
      simp only [encStr] at HN HB2 HG2 c1
      obtain ⟨s, hs⟩ : ∃ s, ts.getD k [] = s := ⟨_, rfl⟩
      simp only [hs] at HN HB2 HG2 c1
      clear hs
      have hi1 : (k : Int) < ts.length := by omega
      go_wp2_with fail
      go_roundw
      case rel => exact ⟨k + 1, by omega, by go_num, HN, HG2, HB2⟩
      case measure => simp [intOf]; omega
    · obtain rfl : k = ts.length := by omega
      have HF : Hid (Row wr B2 9 ((List.range ts.length).map (fT ts))) := by unfold Hid; rw [← fpart_all ts.length (fT ts) (.string ⟨#[]⟩)]; exact HR.out
      go_wp2_with fail
      go_ret2
      exact ⟨B2, ts, rfl, HS.out, HF.out, HB.out⟩

/-- zzContains: the string is there -/
theorem contains_yes (a : Option Addr) (cap n : Nat) (f : Nat → ByteArray) (s : ByteArray) (w : World) (hin : In w a n (fun i => .string (f i))) (hn : n ≤ 65536) (h : ∃ i, i < n ∧ f i = s) :
    Calls Try.prog 41 #[.slice a n cap, .string s] w fun e w' => e = .returned (.bool true) ∧ w = w' := by
  rcases hin with ⟨rfl, rfl⟩ | ⟨x, rfl, hx, hc⟩
  · obtain ⟨i, hi, _⟩ := h; omega
  · have HC := Lib.hid hc
    have HE := Lib.hid h
    clear hc h
    go_enter Try.func41, Try.ntmps41
    go_wp2_with fail
    go_loop [5] (fun i => ∃ t : Nat, t ≤ n ∧ Hid (∀ j, j < t → f j ≠ s) ∧ i = .int .i64 t) (fun i => n - (intOf i).toNat)
    case atStart => exact ⟨0, Nat.zero_le _, fun j hj => by omega, rfl⟩
    case round =>
      obtain ⟨t, ht, HT, rfl⟩ := hrel
      by_cases hlt : t < n
      · have c0 := HC.out t hlt
        by_cases he : f t = s
        · simp only [he] at c0
          have hq : (s.toList == s.toList) = true := by simp
          clear he
          go_wp2_with fail
          go_ret
          exact ⟨rfl, rfl⟩
        · have HT2 : Hid (∀ j, j < t + 1 → f j ≠ s) := fun j hj => by
            by_cases e : j = t
            · subst e; exact he
            · exact HT.out j (by omega)
          obtain ⟨s2, hs2⟩ : ∃ s2, f t = s2 := ⟨_, rfl⟩
          rw [hs2] at he
          simp only [hs2] at c0
          have hq : (s2.toList == s.toList) = false := by
            rw [beq_eq_false_iff_ne]; intro e; rw [Lib.toList_data, Lib.toList_data] at e; exact he (ByteArray.ext (Array.toList_inj.1 e))
          clear hs2 he
          go_wp2_with fail
          go_round
          case rel => exact ⟨t + 1, by omega, HT2, by go_num⟩
          case measure => simp [intOf]; omega
      · exfalso
        obtain ⟨i, hi, e⟩ := HE.out
        exact HT.out i (by omega) e
end Go.Proofs.Ytiegckcmgdfjeaa.kobj
