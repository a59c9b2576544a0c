/- keys of an object: the range over the map, the library's sort. -/
import Derived.Test.YtjjkgpjhohnpaaaArr
import Derived.Test.YtjjkgpjhohnpaaaMapR
import Derived.Test.YtjjkgpjhohnpaaaShelf
import Derived.Sort.OwnSorted
set_option linter.unusedVariables false
namespace Go.Proofs.Ytjjkgpjhohnpaaa.ksm
open Go.ChangeShapes Go.WideShapes Go.ChangeAt Go.RowKit Go.Maps Go.WideMaps Go.Sort
open types fill mapr

/-- what the collected and sorted list is -/
structure SrtD {H : Type} (D0 : DataW H) (ts : List (List UInt8)) : Prop where
  len : ts.length = Maps.size D0
  mem : ∀ x, x ∈ ts ↔ Maps.has D0 (.string x) = true
  up : ts.Pairwise (· < ·)

theorem len_of_perm {H : Type} {D0 : DataW H} {ss : List (List UInt8)} (h : ss.Perm (strKeys D0)) (hm : ∃ es, D0 = .map es) : ss.length = Maps.size D0 := by
  obtain ⟨es, rfl⟩ := hm
  rw [h.length_eq]
  simp [strKeys, Maps.size]

theorem srt_of {H : Type} {D0 : DataW H} {left : Lit → Bool} {ss : List (List UInt8)} (hC : Collected D0 left ss) (hl : ∀ kl, left kl = false) (hlen : ss.length = Maps.size D0) : SrtD D0 (ss.mergeSort fun x y => decide (x ≤ y)) := by
  refine ⟨by simpa using hlen, fun x => ?_, ?_⟩
  · rw [List.mem_mergeSort, hC.2 x, hl]; simp
  · have tr : ∀ a b c : List UInt8, decide (a ≤ b) = true → decide (b ≤ c) = true → decide (a ≤ c) = true := fun a b c h1 h2 => by simp only [decide_eq_true_eq] at *; exact List.le_trans h1 h2
    have to : ∀ a b : List UInt8, (decide (a ≤ b) || decide (b ≤ a)) = true := fun a b => by simp only [Bool.or_eq_true, decide_eq_true_eq]; exact List.le_total a b
    have h1 := List.pairwise_mergeSort (le := fun x y : List UInt8 => decide (x ≤ y)) tr to ss
    have h2 : (ss.mergeSort fun x y => decide (x ≤ y)).Nodup := (List.mergeSort_perm ss _).nodup_iff.2 hC.1
    refine (h1.and h2).imp fun {a b} ⟨hle, hne⟩ => ?_
    simp only [decide_eq_true_eq] at hle
    by_cases h : a < b
    · exact h
    · exact absurd (List.le_antisymm hle (List.not_lt.1 h)) hne


theorem law : Keyed Try.prog 9 := string_keyed Try.underlying9
theorem info9 : (Try.prog.info? 9).map (fun i => (i.zero, i.size, i.bytes)) = some (some (.string ⟨#[]⟩), 1, 16) := by kernel_rfl
/-- the first of m places hold the strings met so far -/
def met (m : Nat) (ss : List (List UInt8)) : List Value := ss.map encStr ++ List.replicate (m - ss.length) (.string ⟨#[]⟩)
theorem met_nil (m : Nat) : met m [] = List.replicate m (.string ⟨#[]⟩) := by simp [met]
theorem met_full (ss : List (List UInt8)) : met ss.length ss = ss.map encStr := by simp [met]
theorem met_at (m : Nat) (ss : List (List UInt8)) (h : ss.length < m) : (met m ss)[ss.length]? = some (.string ⟨#[]⟩) := by
  unfold met
  rw [List.getElem?_append_right (by simp), List.getElem?_replicate, if_pos (by simp; omega)]
theorem met_set (m : Nat) (ss : List (List UInt8)) (x : List UInt8) (h : ss.length < m) : (met m ss).set ss.length (encStr x) = met m (ss ++ [x]) := by
  obtain ⟨d, rfl⟩ : ∃ d, m = ss.length + (d + 1) := ⟨m - ss.length - 1, by omega⟩
  unfold met
  rw [List.set_append_right _ _ (by simp), show ss.length + (d + 1) - ss.length = d + 1 by omega, List.length_append, List.length_singleton, show ss.length + (d + 1) - (ss.length + 1) = d by omega, List.length_map, Nat.sub_self, List.replicate_succ, List.set_cons_zero]
  simp
theorem row_sorted {w : World} {g n : Nat} {os : Array Obj} {e : TypeId} {ss ts : List (List UInt8)} (hl : ts.length = ss.length) (h : Row w g e (ss.map encStr)) : Row (grow (putRow encStr (Sort.ahead w n) g 0 ts.toArray) os) g e (ts.map encStr) := by
  have h1 := heap_sorted (n := n) (os := os) ts.toArray h
  unfold Row
  rw [h1]
  have h2 := take_putCells (ss.map encStr).toArray ts (by simp [hl])
  rw [List.take_of_length_le (by simp [putCells, hl])] at h2
  rw [← h2]
theorem row_ne {H : Type} {P : Program} {k : TypeId} {R : Value → Option (DataW H × List MemPlace)} {w : World} {b r n : Nat} {D : DataW H} {left : Lit → Bool} {cnt g : Nat} {e : TypeId} {xs : List Value} (h : Row w g e xs) (hr : w.ranges P k R b r n D left cnt) : r ≠ g := by
  obtain ⟨_, _, _, _, _, _, _, _, _, hit, _⟩ := hr
  intro e1
  subst e1
  unfold Row at h
  rw [hit] at h
  cases h

theorem setCell_grownBy (w : World) (a : Addr) (u : Value) : w.grownBy (w.setCell a u) (some a.block) :=
  ⟨rfl, rfl, rfl, by simp, fun k hk hne => Below.heap_setCell _ _ _ _ (fun e => hne (by rw [e]))⟩
set_option maxHeartbeats 1000000 in
theorem keys_any (B n : Nat) (D0 : DataW Value) (w : World) (h : w.ownsMap Try.prog 9 anyElem B n D0) (hl : Maps.size D0 ≤ 65536) :
    Calls Try.prog 17 #[.map (some B)] w fun e w' => ∃ (g : Nat) (ts : List (List UInt8)), e = .returned (.slice (some ⟨g, 0, none⟩) ts.length ts.length) ∧ SrtD D0 ts ∧ Row w' g 9 (ts.map encStr) ∧ w.heap.size ≤ g ∧ Below w.heap.size w w' := by
  obtain ⟨i0, hi, hz0, hz1, hz2⟩ := info_parts info9
  have hB := h.lt
  have HO := Lib.hid h
  obtain ⟨m, hm0⟩ : ∃ m, Maps.size D0 = m := ⟨_, rfl⟩
  have hm : m ≤ 65536 := by omega
  have HM := Lib.hid hm0
  clear h hl hm0
  go_enter Try.func17, Try.ntmps17
  go_wp2_with (first
    | (at_len; refine wpList_len_own _ rfl _ 41 rfl 9 20 Try.underlying41 anyElem B n _ rfl HO.out ?_; rw [HM.out])
    | (at_make; refine wpList_make_full _ rfl _ _ 29 rfl w.heap.size 9 i0 (.string ⟨#[]⟩) 1 Try.underlying29 hi hz0 hz1 .i64 .i64 _ _ m rfl rfl rfl rfl (by rw [hz2]; omega) (by unfold maxLen; omega) (Nat.le_refl _) ?_; intro w1 hown1 hg1)
    | (at_range; refine wpList_range_own _ rfl _ 41 rfl 9 20 law Try.underlying41 _ B n _ rfl (HO.out.kept hg1 (by simp)) ?_; intro w0 hrg0 hg0 hs0))
  go_frame
  have hr0 : Row w1 w.heap.size 9 (met m []) := by rw [met_nil]; exact Row.of_made rfl hown1
  have hr1 : Hid (Row w0 w.heap.size 9 (met m [])) := hr0.keptBut hg0 (by simp)
  have hb1 : Hid (Below w.heap.size w w0) := ((Below.refl _ _).grown hg1 (Nat.le_refl _) (fun j hj => by cases hj)).grown hg0 hg1.size (fun j hj => by cases hj)
  have hsz : w.heap.size ≤ w1.heap.size := hg1.size
  have HR := Lib.hid hrg0
  clear hown1 hr0 hg0 hs0 hrg0 hg1
  obtain ⟨it, hit⟩ : ∃ it, it = w1.heap.size := ⟨_, rfl⟩
  rw [← hit] at HR hsz ⊢
  clear hit
  go_loopw [4] (fun i wr => ∃ (left : Lit → Bool) (cnt : Nat) (ss : List (List UInt8)), i = .int .i64 ss.length ∧ ss.length + cnt ≤ m ∧ Hid (wr.ranges Try.prog 9 anyElem B it n D0 left cnt) ∧ Hid (Row wr w.heap.size 9 (met m ss)) ∧ Hid (Collected D0 left ss) ∧ Hid (Below w.heap.size w wr)) (fun _ wr => wr.rangeLeft B it)
  case atStart => exact ⟨_, _, [], rfl, by rw [HM.out]; simp, HR, hr1, Collected.start _, hb1⟩
  case round =>
    obtain ⟨left, cnt, ss, rfl, hcs, HG, HRow, HC, HB⟩ := hrel
    clear HR hr1 hb1
    go_wp2_with (at_next; refine wpList_next_ranges _ rfl _ rfl 9 law anyElem encStr (fun v : Value => v) (fun key kl hk => by obtain ⟨x, hx, _⟩ := Maps.keyOf_str Try.underlying9 hk; exact ⟨x, hx⟩) (fun v y hv => ⟨v, rfl⟩) B it n _ _ _ rfl HG.out ?_ ?_)
    · intro hc0 hl0
      have hown := HG.out.owns
      have hlen : ss.length = m := by
        rw [← HM.out]
        exact len_of_perm (HC.out.perm hown law Try.underlying9 hl0) (by obtain ⟨es, h, _⟩ := hown.entries law; exact ⟨es, h⟩)
      subst hlen
      have hS : Hid (SrtD D0 (ss.mergeSort fun x y => decide (x ≤ y))) := srt_of HC.out hl0 HM.out.symm
      have hrow : Row wr w.heap.size 9 (ss.map encStr) := by rw [← met_full]; exact HRow.out
      have hc := Lib.hid (Try.sort_Strings w.heap.size 0 ss.length ss wr (holds_of_block hrow (by show (ss.map encStr).take ss.length = _; rw [List.take_of_length_le (by simp)])) hrow.lt (by omega))
      have HRW := Lib.hid hrow
      clear hown hc0 hl0 hrow hcs
      go_wp2_with (go_at_call 18; refine hc.out.mono ?_; rintro e w' ⟨rfl, nn, os, rfl⟩)
      go_ret
      exact ⟨w.heap.size, _, by simp, hS.out, row_sorted (by simp) HRW.out, Nat.le_refl _, HB.out.grown (grownBy_sorted _) HB.out.size (fun j hj => by cases hj; exact Nat.le_refl _)⟩
    · intro x c kl yd yp w2 cnt2 hkey hlk hv hat hrg2 hlt hg2 hs2 hen
      obtain ⟨x', ex, rfl, _⟩ := Maps.keyOf_str Try.underlying9 hkey
      obtain rfl : x = x' := encStr_inj ex
      have hne := row_ne HRow.out HG.out
      have HRow2 := HRow.out.keptBut hg2 (fun e => hne (by cases e; rfl))
      have hltm : ss.length < m := by omega
      have c0 := HRow2.cell (met_at m ss hltm)
      have f0 := HRow2.free ss.length
      have hset := HRow2.set ss.length (encStr x)
      rw [met_set m ss x hltm] at hset
      have HR3 := Lib.hid hset
      have hrgk : Hid ((w2.setCell ⟨w.heap.size, ss.length, none⟩ (encStr x)).ranges Try.prog 9 anyElem B it n D0 _ cnt2) := hrg2.kept (setCell_grownBy _ _ _) (fun e => absurd (show B = w.heap.size by injection e) (by omega)) (fun e => hne (by injection e))
      have HBk : Hid (Below w.heap.size w (w2.setCell ⟨w.heap.size, ss.length, none⟩ (encStr x))) := (HB.out.grown hg2 HB.out.size (fun j hj => by cases hj; exact hsz)).setCell (Nat.le_refl _) _
      have HC3 := Lib.hid (HC.out.step hlk hat)
      have hl0 : Hid (wr.rangeLeft B it = cnt) := HG.out.left_eq
      have hlm : (ss.length : Int) < m := by omega
      have HLT := Lib.hid hlt
      clear hs2 hg2 hlk hat hv hkey ex HRow2 hset hrg2 hlt HRow HC HB HG
      go_wp2_with fail
      go_roundw
      case rel => exact ⟨_, cnt2, ss ++ [x], by simp, by have := HLT.out; simp; omega, hrgk, HR3, HC3, HBk⟩
      case measure => rw [hrgk.out.left_eq, hl0.out]; exact HLT.out


/-- the sorted list, place by place -/
def fT (ts : List (List UInt8)) (i : Nat) : Value := encStr (ts.getD i [])
theorem range_fT (ts : List (List UInt8)) : (List.range ts.length).map (fT ts) = ts.map encStr := by
  apply List.ext_getElem (by simp)
  intro i h1 h2
  simp at h1
  simp [fT, h1]
end Go.Proofs.Ytjjkgpjhohnpaaa.ksm
