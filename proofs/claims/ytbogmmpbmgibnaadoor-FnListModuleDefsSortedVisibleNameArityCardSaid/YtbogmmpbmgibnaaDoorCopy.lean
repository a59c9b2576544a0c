/- zzCloneStrs (f14), zzCloneInts (f15): copies of rows of strings and of numbers. -/
import Derived.Test.YtbogmmpbmgibnaaDoorZs
import Derived.Test.YtbogmmpbmgibnaaDoorFill
import Derived.Lib.SliceRun
set_option linter.unusedVariables false
namespace Go.Proofs.YtbogmmpbmgibnaaDoor.copy
open Go.ChangeShapes Go.WideShapes Go.ChangeAt Go.RowKit
open upd zs fill

theorem info9 : (Tryd.prog.info? 9).map (fun i => (i.zero, i.size, i.bytes)) = some (some (.string ⟨#[]⟩), 1, 16) := by kernel_rfl
theorem info3 : (Tryd.prog.info? 3).map (fun i => (i.zero, i.size, i.bytes)) = some (some (.int .i64 0), 1, 8) := by kernel_rfl
/-- v's row lies at n or above it -/
def New (n : Nat) (v : Value) : Prop := ∀ x l c, v = .slice (some x) l c → n ≤ x.block
theorem New.nil (n : Nat) : New n (.slice none 0 0) := fun x l c h => by cases h
theorem New.row (n b k c : Nat) (h : n ≤ b) : New n (.slice (some ⟨b, 0, none⟩) k c) := fun x l c e => by cases e; exact h
def fS (l : List ByteArray) (i : Nat) : Value := .string (l.getD i ByteArray.empty)
def fI (l : List Int) (i : Nat) : Value := .int .i64 (l.getD i 0)
def CopyS (w : World) (l : List ByteArray) (e : Ending) (w' : World) : Prop := ∃ v, e = .returned v ∧ StrRow w' v l ∧ New w.heap.size v ∧ Below w.heap.size w w'
def CopyI (w : World) (l : List Int) (e : Ending) (w' : World) : Prop := ∃ v, e = .returned v ∧ IntRow w' v l ∧ New w.heap.size v ∧ Below w.heap.size w w'

theorem strs_nil (w : World) : Calls Tryd.prog 7 #[.slice none 0 0] w (CopyS w []) := by
  have hn := Lib.run_eql_slice_nil (P := Tryd.prog)
  go_enter Tryd.func7, Tryd.ntmps7
  go_wp2_with fail
  go_ret
  exact ⟨.slice none 0 0, rfl, .inl ⟨rfl, rfl⟩, New.nil _, Below.refl _ _⟩
theorem ints_nil (w : World) : Calls Tryd.prog 8 #[.slice none 0 0] w (CopyI w []) := by
  have hn := Lib.run_eql_slice_nil (P := Tryd.prog)
  go_enter Tryd.func8, Tryd.ntmps8
  go_wp2_with fail
  go_ret
  exact ⟨.slice none 0 0, rfl, .inl ⟨rfl, rfl⟩, New.nil _, Below.refl _ _⟩
theorem strs_some (w : World) (x : Addr) (cap : Nat) (l : List ByteArray) (hc1 : l.length ≤ cap) (hc2 : cap ≤ maxLen) (hat : ∀ (j : Nat) (s : ByteArray), l[j]? = some s → w.cell? (x.add j) = some (.string s) ∧ s.size ≤ maxLen) (hl : l.length ≤ 2097152) : Calls Tryd.prog 7 #[.slice (some x) l.length cap] w (CopyS w l) := by
  obtain ⟨i0, hi, hz0, hz1, hz2⟩ := info_parts info9
  have hnl := Lib.run_eql_slice_nil (P := Tryd.prog)
  obtain ⟨n, hn⟩ : ∃ n, n = l.length := ⟨_, rfl⟩
  have HN := Lib.hid hn
  have hc : ∀ j, j < n → w.cell? (x.add j) = some (fS l j) := fun j hj => by
    have := (hat j l[j] (List.getElem?_eq_getElem (by omega))).1
    rw [this]; simp [fS, List.getD, hn ▸ hj]
  have HC := Lib.hid hc
  have HL : Hid (∀ (s : ByteArray), s ∈ l → s.size ≤ maxLen) := by
    unfold Hid; intro s hs
    obtain ⟨j, hj⟩ := List.mem_iff_getElem?.1 hs
    exact (hat j s hj).2
  rw [← hn] at hl hc1 ⊢
  clear hat hn hc
  go_enter Tryd.func7, Tryd.ntmps7
  go_wp2_with (at_make; refine wpList_make_full _ rfl _ _ 22 rfl w.heap.size 9 i0 (.string ⟨#[]⟩) 1 Tryd.underlying22 hi hz0 hz1 .i64 .i64 _ _ n rfl rfl rfl rfl (by rw [hz2]; omega) (by unfold maxLen; omega) (Nat.le_refl _) ?_; intro w0 hown0 hgrow0)
  have hr0 : Row w0 w.heap.size 9 (fpart n 0 (fS l) (.string ⟨#[]⟩)) := by rw [fpart_zero]; exact Row.of_made rfl hown0
  have hb0 : Below w.heap.size w w0 := (Below.refl _ _).grown hgrow0 (Nat.le_refl _) (fun k hk => by cases hk)
  clear hown0 hgrow0
  go_loopw [4] (fun i wr => ∃ k : Nat, k ≤ n ∧ i = .int .i64 k ∧ Hid (Row wr w.heap.size 9 (fpart n k (fS l) (.string ⟨#[]⟩))) ∧ Hid (Below w.heap.size w wr)) (fun i _ => n - (intOf i).toNat)
  case atStart => exact ⟨0, Nat.zero_le _, rfl, hr0, hb0⟩
  case round =>
    obtain ⟨k, hk, rfl, HR, HB⟩ := hrel
    clear hr0 hb0
    by_cases hlt : k < n
    · have c0 := HR.out.cell (fpart_at n k (fS l) (.string ⟨#[]⟩) k hlt hk)
      rw [if_neg (by omega)] at c0
      have f0 := HR.out.free k
      have c1 : wr.cell? (x.add k) = some (fS l k) := (HB.out.cell (p := x.add k) (by rw [zs.add_block]; exact zs.addr_lt (HC.out k hlt))).trans (HC.out k hlt)
      have HN : Hid (Row (wr.setCell ⟨w.heap.size, k, none⟩ (fS l k)) w.heap.size 9 (fpart n (k + 1) (fS l) (.string ⟨#[]⟩))) := by
        have := HR.out.set k (fS l k)
        rwa [fpart_set n k (fS l) (.string ⟨#[]⟩) hlt] at this
      have HB2 : Hid (Below w.heap.size w (wr.setCell ⟨w.heap.size, k, none⟩ (fS l k))) := HB.out.setCell (Nat.le_refl _) _
      unfold fS at HN HB2 c1
      go_wp2_with fail
      go_roundw
      case rel => exact ⟨k + 1, by omega, by go_num, HN, HB2⟩
      case measure => simp [intOf]; omega
    · obtain rfl : k = n := by omega
      have HF : Hid (Row wr w.heap.size 9 ((List.range k).map (fS l))) := by unfold Hid; rw [← fpart_all k (fS l) (.string ⟨#[]⟩)]; exact HR.out
      go_wp2_with fail
      go_ret
      refine ⟨.slice (some ⟨w.heap.size, 0, none⟩) k k, rfl, .inr ⟨⟨w.heap.size, 0, none⟩, k, by rw [← HN.out], by rw [← HN.out]; exact Nat.le_refl _, by omega, fun j s hs => ⟨?_, HL.out s (List.mem_of_getElem? hs)⟩⟩, New.row _ _ _ _ (Nat.le_refl _), HB.out⟩
      rw [fill.add_none, Nat.zero_add]
      have hj : j < k := by rw [HN.out]; exact (List.getElem?_eq_some_iff.1 hs).1
      exact HF.out.cell (by simp [hj, fS, List.getD, hs])
theorem ints_some (w : World) (x : Addr) (cap : Nat) (l : List Int) (hc1 : l.length ≤ cap) (hc2 : cap ≤ maxLen) (hat : ∀ (j : Nat) (s : Int), l[j]? = some s → w.cell? (x.add j) = some (.int .i64 s) ∧ (Lit.int .i64 s).wf = true) (hl : l.length ≤ 2097152) : Calls Tryd.prog 8 #[.slice (some x) l.length cap] w (CopyI w l) := by
  obtain ⟨i0, hi, hz0, hz1, hz2⟩ := info_parts info3
  have hnl := Lib.run_eql_slice_nil (P := Tryd.prog)
  obtain ⟨n, hn⟩ : ∃ n, n = l.length := ⟨_, rfl⟩
  have HN := Lib.hid hn
  have hc : ∀ j, j < n → w.cell? (x.add j) = some (fI l j) := fun j hj => by
    have := (hat j l[j] (List.getElem?_eq_getElem (by omega))).1
    rw [this]; simp [fI, List.getD, hn ▸ hj]
  have HC := Lib.hid hc
  have HL : Hid (∀ (s : Int), s ∈ l → (Lit.int .i64 s).wf = true) := by
    unfold Hid; intro s hs
    obtain ⟨j, hj⟩ := List.mem_iff_getElem?.1 hs
    exact (hat j s hj).2
  rw [← hn] at hl hc1 ⊢
  clear hat hn hc
  go_enter Tryd.func8, Tryd.ntmps8
  go_wp2_with (at_make; refine wpList_make_full _ rfl _ _ 23 rfl w.heap.size 3 i0 (.int .i64 0) 1 Tryd.underlying23 hi hz0 hz1 .i64 .i64 _ _ n rfl rfl rfl rfl (by rw [hz2]; omega) (by unfold maxLen; omega) (Nat.le_refl _) ?_; intro w0 hown0 hgrow0)
  have hr0 : Row w0 w.heap.size 3 (fpart n 0 (fI l) (.int .i64 0)) := by rw [fpart_zero]; exact Row.of_made rfl hown0
  have hb0 : Below w.heap.size w w0 := (Below.refl _ _).grown hgrow0 (Nat.le_refl _) (fun k hk => by cases hk)
  clear hown0 hgrow0
  go_loopw [4] (fun i wr => ∃ k : Nat, k ≤ n ∧ i = .int .i64 k ∧ Hid (Row wr w.heap.size 3 (fpart n k (fI l) (.int .i64 0))) ∧ Hid (Below w.heap.size w wr)) (fun i _ => n - (intOf i).toNat)
  case atStart => exact ⟨0, Nat.zero_le _, rfl, hr0, hb0⟩
  case round =>
    obtain ⟨k, hk, rfl, HR, HB⟩ := hrel
    clear hr0 hb0
    by_cases hlt : k < n
    · have c0 := HR.out.cell (fpart_at n k (fI l) (.int .i64 0) k hlt hk)
      rw [if_neg (by omega)] at c0
      have f0 := HR.out.free k
      have c1 : wr.cell? (x.add k) = some (fI l k) := (HB.out.cell (p := x.add k) (by rw [zs.add_block]; exact zs.addr_lt (HC.out k hlt))).trans (HC.out k hlt)
      have HN : Hid (Row (wr.setCell ⟨w.heap.size, k, none⟩ (fI l k)) w.heap.size 3 (fpart n (k + 1) (fI l) (.int .i64 0))) := by
        have := HR.out.set k (fI l k)
        rwa [fpart_set n k (fI l) (.int .i64 0) hlt] at this
      have HB2 : Hid (Below w.heap.size w (wr.setCell ⟨w.heap.size, k, none⟩ (fI l k))) := HB.out.setCell (Nat.le_refl _) _
      unfold fI at HN HB2 c1
      go_wp2_with fail
      go_roundw
      case rel => exact ⟨k + 1, by omega, by go_num, HN, HB2⟩
      case measure => simp [intOf]; omega
    · obtain rfl : k = n := by omega
      have HF : Hid (Row wr w.heap.size 3 ((List.range k).map (fI l))) := by unfold Hid; rw [← fpart_all k (fI l) (.int .i64 0)]; exact HR.out
      go_wp2_with fail
      go_ret
      refine ⟨.slice (some ⟨w.heap.size, 0, none⟩) k k, rfl, .inr ⟨⟨w.heap.size, 0, none⟩, k, by rw [← HN.out], by rw [← HN.out]; exact Nat.le_refl _, by omega, fun j s hs => ⟨?_, HL.out s (List.mem_of_getElem? hs)⟩⟩, New.row _ _ _ _ (Nat.le_refl _), HB.out⟩
      rw [fill.add_none, Nat.zero_add]
      have hj : j < k := by rw [HN.out]; exact (List.getElem?_eq_some_iff.1 hs).1
      exact HF.out.cell (by simp [hj, fI, List.getD, hs])
theorem strs (w : World) (v : Value) (l : List ByteArray) (h : StrRow w v l) (hl : l.length ≤ 2097152) : Calls Tryd.prog 7 #[v] w (CopyS w l) := by
  rcases h with ⟨rfl, rfl⟩ | ⟨x, cap, rfl, h1, h2, h4⟩
  · exact strs_nil w
  · exact strs_some w x cap l h1 h2 h4 hl
theorem ints (w : World) (v : Value) (l : List Int) (h : IntRow w v l) (hl : l.length ≤ 2097152) : Calls Tryd.prog 8 #[v] w (CopyI w l) := by
  rcases h with ⟨rfl, rfl⟩ | ⟨x, cap, rfl, h1, h2, h4⟩
  · exact ints_nil w
  · exact ints_some w x cap l h1 h2 h4 hl
end Go.Proofs.YtbogmmpbmgibnaaDoor.copy
