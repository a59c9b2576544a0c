/- What the statement's caller of argFunc1(ltrimstr) hands back. -/
import Derived.Test.YtbfnbcjinnomlaaTrim
namespace Go.Proofs.Ytbfnbcjinnomlaa.call1
open Go.ChangeShapes Go.WideShapes Go.ChangeAt Go.RowKit
open fill strs calls trim

theorem args_cell {W wr : World} {B k m : Nat} {v : Value} (h : Args W wr B k m (some v)) (hk : 0 < k) : wr.cell? ⟨B, 0, none⟩ = some v := by
  obtain ⟨xs, ho, hf, _⟩ := h
  rw [ho.cellAt 0 (by omega)]; exact hf v rfl

theorem args_first {W w0 w1 : World} {n m : Nat} {o : Obj} {x : Value} (hs : W.heap.size = n + 1) (hb : Below W.heap.size W w0) (ho : w1.ownsRow (n + 1) 20 1 (.slice (some ⟨n + 1, 0, none⟩) (0 + 1) m) (0 + 1) ([] ++ [x])) (hg : (w0.alloc o).grownBy w1 (some (n + 1))) : Args W w1 (n + 1) 1 m (some x) :=
  ⟨[x], by rw [hs]; simpa using ho, fun v hv => by simpa using hv, (hb.alloc hb.size o).grown hg (by have := hb.size; simp; omega) (fun j hj => by cases hj; omega), by omega⟩

set_option maxHeartbeats 1000000 in
theorem call1 (b : Nat) (s p : ByteArray) (hsz : s.size ≤ 1048576) (a : Option Addr) (cap : Nat) (ks : List ByteArray) (w : World) (hin : InS w a ks) (hl : ks.length ≤ 65536) (hh : w.cell? ⟨b, 0, none⟩ = some (.func (.func 29) #[] #[])) (hbl : b < w.heap.size) :
    Calls Try.prog 22 #[.agg #[.int .i64 2, .bool false, .func (.func 31) #[] #[.pointer (some ⟨b, 0, none⟩)]], .string s, .string p, .slice a ks.length cap] w fun e w' => e = .returned (.tuple #[.string (tp s p), .bool true]) ∧ Below w.heap.size w w' := by
  obtain ⟨i0, hi, hz0, hz1, hz2⟩ := info_parts info20
  have t1 := ta_9_9
  obtain ⟨W, hW⟩ : ∃ W, W = w.alloc (.cells #[.int .i64 2, .bool false, .func (.func 31) #[] #[.pointer (some ⟨b, 0, none⟩)]] 25) := ⟨_, rfl⟩
  have hWs : W.heap.size = w.heap.size + 1 := by rw [hW]; simp
  have hWb : Below w.heap.size w W := by rw [hW]; exact (Below.refl _ _).alloc (Nat.le_refl _) _
  have hWf : W.cell? ⟨w.heap.size, 2, none⟩ = some (.func (.func 31) #[] #[.pointer (some ⟨b, 0, none⟩)]) := by rw [hW]; simp [go_sem]
  have hWh : W.cell? ⟨b, 0, none⟩ = some (.func (.func 29) #[] #[]) := by rw [hWb.cell (p := ⟨b, 0, none⟩) hbl]; exact hh
  have HW := Lib.hid hW; have HWs := Lib.hid hWs; have HWb := Lib.hid hWb; have HWf := Lib.hid hWf; have HWh := Lib.hid hWh
  clear hW hWs hWb hWf hWh hh
  have HI : Hid (InS W a ks) := In.kept hin HWb.out
  clear hin
  rcases HI.out with ⟨rfl, h0⟩ | ⟨x, rfl, hx, hc⟩
  · rw [h0]
    clear hl
    go_enter Try.func22, Try.ntmps22
    go_wp2_with (first | (at_make; refine wpList_make_own _ rfl _ _ 47 rfl (w.heap.size + 1) 20 i0 .nilIface 1 Try.underlying47 hi hz0 hz1 .i64 .i64 _ 1 rfl rfl (by omega) (by rw [hz2]; omega) (by unfold maxLen; omega) (by simp) ?_; intro w0 hown0 hgrow0; have hown0' : w0.ownsRow (w.heap.size + 1) 20 1 (.slice (some ⟨w.heap.size + 1, 0, none⟩) 0 1) 0 [] := by simpa using hown0) | (at_builtin; refine wpList_append_fits _ rfl (.tmp 19) (.tmp 22) 47 rfl (w.heap.size + 1) 20 i0 1 Try.underlying47 hi hz1 (w.heap.size + 1) 0 1 [] rfl (hown0'.alloc _) ⟨w0.heap.size, 0, none⟩ 1 1 [.iface 9 (.string p)] rfl rfl (cell_one_new _ _ _) (by intro u hu; simp at hu; subst hu; rfl) (by omega) ?_; intro w1 hown1 hgrow1))
    rw [← HW.out] at hgrow0
    have hb0 : Below W.heap.size W w0 := (Below.refl _ _).grown hgrow0 (Nat.le_refl _) (fun k hk => by cases hk)
    have HA := Lib.hid (args_first HWs.out hb0 hown1 hgrow1)
    clear hown0 hgrow0 hb0 hown0' hown1 hgrow1
    go_loop [10, 26] (fun v i => v = .slice (some ⟨w.heap.size + 1, 0, none⟩) 1 1 ∧ i = .int .i64 0) (fun _ _ => 0)
    case atStart => exact ⟨rfl, rfl⟩
    case round =>
      obtain ⟨rfl, rfl⟩ := hrel
      have HB : Hid (Below W.heap.size W w1) := by obtain ⟨_, _, _, h, _⟩ := HA.out; exact h
      have c2 : w1.cell? ⟨w.heap.size, 2, none⟩ = some (.func (.func 31) #[] #[.pointer (some ⟨b, 0, none⟩)]) := by
        rw [HB.out.cell (p := ⟨w.heap.size, 2, none⟩) (by have := HWs.out; show w.heap.size < _; omega)]; exact HWf.out
      have c3 : w1.cell? ⟨b, 0, none⟩ = some (.func (.func 29) #[] #[]) := by
        rw [HB.out.cell (p := ⟨b, 0, none⟩) (by have := HWs.out; show b < _; omega)]; exact HWh.out
      have c4 := args_cell HA.out (by omega)
      go_wp2_with (go_at_call 31; refine (cb1 _ p _ _ _ _ _ hsz (by omega) c3 c4).mono ?_; rintro e w2 ⟨rfl, hb9⟩)
      go_ret2
      have b1 := HWb.out.trans (HB.out.mono HWb.out.size)
      exact ⟨rfl, b1.trans (hb9.mono b1.size)⟩
  · have HC := Lib.hid hc
    clear hc
    go_enter Try.func22, Try.ntmps22
    go_wp2_with (first | (at_make; refine wpList_make_own _ rfl _ _ 47 rfl (w.heap.size + 1) 20 i0 .nilIface 1 Try.underlying47 hi hz0 hz1 .i64 .i64 _ (ks.length + 1) rfl rfl (by omega) (by rw [hz2]; omega) (by unfold maxLen; omega) (by simp) ?_; intro w0 hown0 hgrow0; have hown0' : w0.ownsRow (w.heap.size + 1) 20 1 (.slice (some ⟨w.heap.size + 1, 0, none⟩) 0 (ks.length + 1)) 0 [] := by simpa using hown0) | (at_builtin; refine wpList_append_fits _ rfl (.tmp 19) (.tmp 22) 47 rfl (w.heap.size + 1) 20 i0 1 Try.underlying47 hi hz1 (w.heap.size + 1) 0 (ks.length + 1) [] rfl (hown0'.alloc _) ⟨w0.heap.size, 0, none⟩ 1 1 [.iface 9 (.string p)] rfl rfl (cell_one_new _ _ _) (by intro u hu; simp at hu; subst hu; rfl) (by omega) ?_; intro w1 hown1 hgrow1))
    rw [← HW.out] at hgrow0
    have hb0 : Below W.heap.size W w0 := (Below.refl _ _).grown hgrow0 (Nat.le_refl _) (fun k hk => by cases hk)
    have ha0 := args_first HWs.out hb0 hown1 hgrow1
    clear hown0 hgrow0 hb0 hown0' hown1 hgrow1
    go_loopw [10, 26] (fun v i wr => ∃ k : Nat, k ≤ ks.length ∧ i = .int .i64 k ∧ v = .slice (some ⟨w.heap.size + 1, 0, none⟩) (k + 1) (ks.length + 1) ∧ Hid (Args W wr (w.heap.size + 1) (k + 1) (ks.length + 1) (some (.iface 9 (.string p))))) (fun _ i _ => ks.length - (intOf i).toNat)
    case atStart => exact ⟨0, Nat.zero_le _, rfl, rfl, ha0⟩
    case round =>
      obtain ⟨k, hk, rfl, rfl, HA⟩ := hrel
      clear ha0
      obtain ⟨xs, hown, hf, hbel, hB⟩ := HA.out
      have HF := Lib.hid hf; have HB := Lib.hid hbel; have HO := Lib.hid hown
      clear hf hbel hown
      by_cases hlt : k < ks.length
      · have c0 : wr.cell? (x.add k) = some (fS ks k) := later hx HC.out HB.out k hlt
        unfold fS at c0
        generalize ks.getD k ByteArray.empty = s1 at c0
        go_wp2_with (at_builtin; refine wpList_append_fits _ rfl _ _ 47 rfl W.heap.size 20 i0 1 Try.underlying47 hi hz1 (w.heap.size + 1) (k + 1) (ks.length + 1) xs rfl (HO.out.alloc _) ⟨wr.heap.size, 0, none⟩ 1 1 [.iface 9 (.string s1)] rfl rfl (cell_one_new _ _ _) (by intro u hu; simp at hu; subst hu; rfl) (by omega) ?_; intro w2 hown1 hgrow1)
        have HA1 := Lib.hid (args_step HF.out HB.out hB hown1 hgrow1)
        clear hown1 hgrow1
        go_wp2_with fail
        go_roundw
        case rel => exact ⟨k + 1, by omega, by go_num, rfl, HA1⟩
        case measure => simp [intOf]; omega
      · have c2 : wr.cell? ⟨w.heap.size, 2, none⟩ = some (.func (.func 31) #[] #[.pointer (some ⟨b, 0, none⟩)]) := by
          rw [HB.out.cell (p := ⟨w.heap.size, 2, none⟩) (by have := HWs.out; show w.heap.size < _; omega)]; exact HWf.out
        have c3 : wr.cell? ⟨b, 0, none⟩ = some (.func (.func 29) #[] #[]) := by
          rw [HB.out.cell (p := ⟨b, 0, none⟩) (by have := HWs.out; show b < _; omega)]; exact HWh.out
        have c4 := args_cell HA.out (by omega)
        go_wp2_with (go_at_call 31; refine (cb1 _ p _ _ _ _ _ hsz (by omega) c3 c4).mono ?_; rintro e w2 ⟨rfl, hb9⟩)
        go_ret2
        have b1 := HWb.out.trans (HB.out.mono HWb.out.size)
        exact ⟨rfl, b1.trans (hb9.mono b1.size)⟩
end Go.Proofs.Ytbfnbcjinnomlaa.call1
