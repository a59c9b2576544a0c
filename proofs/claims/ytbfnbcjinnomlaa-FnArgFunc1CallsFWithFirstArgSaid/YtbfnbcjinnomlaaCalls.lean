/- What the callbacks of argFunc0(utf8bytelength) and argFunc1(ltrimstr) answer at strings, and what the statement's callers hand back. -/
import Derived.Test.YtbfnbcjinnomlaaStrs
import Derived.Test.YtbfnbcjinnomlaaArgFunc
import Derived.Deep.QuietTactic
import Derived.BigQuiet
namespace Go.Proofs.Ytbfnbcjinnomlaa.calls
open Go.ChangeShapes Go.WideShapes Go.ChangeAt Go.RowKit
open fill strs

theorem ta_9_9 (x : Value) (w : World) : (Instr.typeAssert (.iface 9 x) 20 9 true).run Try.prog w = .ok (.tuple #[x, .bool true]) w := by kernel_rfl
theorem ta_3_3 (x : Value) (w : World) : (Instr.typeAssert (.iface 3 x) 20 3 true).run Try.prog w = .ok (.tuple #[x, .bool true]) w := by kernel_rfl
theorem info20 : (Try.prog.info? 20).map (fun i => (i.zero, i.size, i.bytes)) = some (some .nilIface, 1, 16) := by kernel_rfl

theorem utf (s : ByteArray) (w : World) : Calls Try.prog 27 #[.iface 9 (.string s)] w fun e w' => e = .returned (.iface 3 (.int .i64 s.size)) ∧ w = w' := by
  have t1 := ta_9_9
  go_enter Try.func27, Try.ntmps27
  go_wp2_with fail
  go_ret
  exact ⟨rfl, rfl⟩
theorem cb0 (s : ByteArray) (v : Value) (b : Nat) (w : World) (hb : w.cell? ⟨b, 0, none⟩ = some (.func (.func 27) #[] #[])) : Calls Try.prog 30 #[.iface 9 (.string s), v, .pointer (some ⟨b, 0, none⟩)] w fun e w' => e = .returned (.iface 3 (.int .i64 s.size)) ∧ w = w' := by
  go_enter Try.func30, Try.ntmps30
  go_wp2_with (go_at_call 27; refine (utf _ _).mono ?_; rintro e w1 ⟨rfl, rfl⟩)
  go_ret
  exact ⟨rfl, rfl⟩

/-- the list of arguments as it is built: k of at most m, the first as told -/
def Args (W wr : World) (B k m : Nat) (f : Option Value) : Prop :=
  ∃ xs, wr.ownsRow W.heap.size 20 1 (.slice (some ⟨B, 0, none⟩) k m) k xs ∧ (∀ v, f = some v → xs[0]? = some v) ∧ Below W.heap.size W wr ∧ W.heap.size ≤ B
theorem args_step {W wr w1 : World} {B k m : Nat} {f : Option Value} {xs : List Value} {o : Obj} {x : Value} (hf : ∀ v, f = some v → xs[0]? = some v) (hb : Below W.heap.size W wr) (hB : W.heap.size ≤ B) (ho : w1.ownsRow W.heap.size 20 1 (.slice (some ⟨B, 0, none⟩) (k + 1) m) (k + 1) (xs ++ [x])) (hg : (wr.alloc o).grownBy w1 (some B)) : Args W w1 B (k + 1) m f :=
  ⟨_, ho, fun v hv => by
    have := hf v hv
    rw [List.getElem?_append_left (by have := (List.getElem?_eq_some_iff.1 this).1; exact this)]; exact this,
    (hb.alloc hb.size o).grown hg (by have := hb.size; simp; omega) (fun j hj => by cases hj; exact hB), hB⟩

set_option maxHeartbeats 1000000 in
theorem call0 (b : Nat) (s : ByteArray) (a : Option Addr) (cap : Nat) (ks : List ByteArray) (w : World) (hin : InS w a ks) (hl : ks.length ≤ 65536) (hh : w.cell? ⟨b, 0, none⟩ = some (.func (.func 27) #[] #[])) (hbl : b < w.heap.size) :
    Calls Try.prog 20 #[.agg #[.int .i64 1, .bool false, .func (.func 30) #[] #[.pointer (some ⟨b, 0, none⟩)]], .string s, .slice a ks.length cap] w fun e w' => e = .returned (.tuple #[.int .i64 s.size, .bool true]) ∧ Below w.heap.size w w' := by
  obtain ⟨i0, hi, hz0, hz1, hz2⟩ := info_parts info20
  have t1 := ta_3_3
  obtain ⟨W, hW⟩ : ∃ W, W = w.alloc (.cells #[.int .i64 1, .bool false, .func (.func 30) #[] #[.pointer (some ⟨b, 0, none⟩)]] 25) := ⟨_, rfl⟩
  have hWs : W.heap.size = w.heap.size + 1 := by rw [hW]; simp
  have hWb : Below w.heap.size w W := by rw [hW]; exact (Below.refl _ _).alloc (Nat.le_refl _) _
  have hWf : W.cell? ⟨w.heap.size, 2, none⟩ = some (.func (.func 30) #[] #[.pointer (some ⟨b, 0, none⟩)]) := by rw [hW]; simp [go_sem]
  have hWh : W.cell? ⟨b, 0, none⟩ = some (.func (.func 27) #[] #[]) := by rw [hWb.cell (p := ⟨b, 0, none⟩) hbl]; exact hh
  have HW := Lib.hid hW; have HWs := Lib.hid hWs; have HWb := Lib.hid hWb; have HWf := Lib.hid hWf; have HWh := Lib.hid hWh
  clear hW hWs hWb hWf hWh hh
  have HI : Hid (InS W a ks) := In.kept hin HWb.out
  clear hin
  rcases HI.out with ⟨rfl, h0⟩ | ⟨x, rfl, hx, hc⟩
  · rw [h0]
    clear hl
    go_enter Try.func20, Try.ntmps20
    go_wp2_with (at_make; refine wpList_make_own _ rfl _ _ 47 rfl (w.heap.size + 1) 20 i0 .nilIface 1 Try.underlying47 hi hz0 hz1 .i64 .i64 _ 0 rfl rfl rfl (by rw [hz2]; omega) (by unfold maxLen; omega) (by simp) ?_; intro w0 hown0 hgrow0)
    rw [← HW.out] at hgrow0
    have hb0 : Below W.heap.size W w0 := (Below.refl _ _).grown hgrow0 (Nat.le_refl _) (fun k hk => by cases hk)
    have HB0 := Lib.hid hb0
    clear hown0 hgrow0 hb0
    go_loop [18] (fun i => i = .int .i64 0) (fun _ => 0)
    case atStart => exact rfl
    case round =>
      obtain rfl := hrel
      have c2 : w0.cell? ⟨w.heap.size, 2, none⟩ = some (.func (.func 30) #[] #[.pointer (some ⟨b, 0, none⟩)]) := by
        rw [HB0.out.cell (p := ⟨w.heap.size, 2, none⟩) (by have := HWs.out; show w.heap.size < _; omega)]; exact HWf.out
      have c3 : w0.cell? ⟨b, 0, none⟩ = some (.func (.func 27) #[] #[]) := by
        rw [HB0.out.cell (p := ⟨b, 0, none⟩) (by have := HWs.out; show b < _; omega)]; exact HWh.out
      go_wp2_with (go_at_call 30; refine (cb0 _ _ _ _ c3).mono ?_; rintro e w1 ⟨rfl, rfl⟩)
      go_ret2
      exact ⟨rfl, HWb.out.trans (HB0.out.mono HWb.out.size)⟩
  · have HC := Lib.hid hc
    clear hc
    go_enter Try.func20, Try.ntmps20
    go_wp2_with (at_make; refine wpList_make_own _ rfl _ _ 47 rfl (w.heap.size + 1) 20 i0 .nilIface 1 Try.underlying47 hi hz0 hz1 .i64 .i64 _ ks.length rfl rfl rfl (by rw [hz2]; omega) (by unfold maxLen; omega) (by simp) ?_; intro w0 hown0 hgrow0)
    rw [← HW.out] at hgrow0
    have hs1 : w.heap.size + 1 = W.heap.size := HWs.out.symm
    rw [hs1] at hown0
    have hb0 : Below W.heap.size W w0 := (Below.refl _ _).grown hgrow0 (Nat.le_refl _) (fun k hk => by cases hk)
    have ha0 : Args W w0 (w.heap.size + 1) 0 ks.length none := by
      refine ⟨[], ?_, (fun v hv => by cases hv), hb0, by omega⟩
      rw [HW.out] at hown0 ⊢
      simpa using hown0
    clear hown0 hgrow0 hb0 hs1
    go_loopw [8, 18] (fun v i wr => ∃ k : Nat, k ≤ ks.length ∧ i = .int .i64 k ∧ v = .slice (some ⟨w.heap.size + 1, 0, none⟩) k ks.length ∧ Hid (Args W wr (w.heap.size + 1) k ks.length none)) (fun _ i _ => ks.length - (intOf i).toNat)
    case atStart => exact ⟨0, Nat.zero_le _, rfl, rfl, ha0⟩
    case round =>
      obtain ⟨k, hk, rfl, rfl, HA⟩ := hrel
      clear ha0
      obtain ⟨xs, hown, hf, hbel, hB⟩ := HA.out
      have HF := Lib.hid hf; have HB := Lib.hid hbel; have HO := Lib.hid hown
      clear hf hbel hown
      by_cases hlt : k < ks.length
      · have c0 : wr.cell? (x.add k) = some (fS ks k) := later hx HC.out HB.out k hlt
        unfold fS at c0
        generalize ks.getD k ByteArray.empty = s1 at c0
        go_wp2_with (at_builtin; refine wpList_append_fits _ rfl _ _ 47 rfl W.heap.size 20 i0 1 Try.underlying47 hi hz1 (w.heap.size + 1) k ks.length xs rfl (HO.out.alloc _) ⟨wr.heap.size, 0, none⟩ 1 1 [.iface 9 (.string s1)] rfl rfl (cell_one_new _ _ _) (by intro u hu; simp at hu; subst hu; rfl) (by omega) ?_; intro w1 hown1 hgrow1)
        have HA1 := Lib.hid (args_step HF.out HB.out hB hown1 hgrow1)
        clear hown1 hgrow1
        go_wp2_with fail
        go_roundw
        case rel => exact ⟨k + 1, by omega, by go_num, rfl, HA1⟩
        case measure => simp [intOf]; omega
      · have c2 : wr.cell? ⟨w.heap.size, 2, none⟩ = some (.func (.func 30) #[] #[.pointer (some ⟨b, 0, none⟩)]) := by
          rw [HB.out.cell (p := ⟨w.heap.size, 2, none⟩) (by have := HWs.out; show w.heap.size < _; omega)]; exact HWf.out
        have c3 : wr.cell? ⟨b, 0, none⟩ = some (.func (.func 27) #[] #[]) := by
          rw [HB.out.cell (p := ⟨b, 0, none⟩) (by have := HWs.out; show b < _; omega)]; exact HWh.out
        go_wp2_with (go_at_call 30; refine (cb0 _ _ _ _ c3).mono ?_; rintro e w1 ⟨rfl, rfl⟩)
        go_ret2
        exact ⟨rfl, HWb.out.trans (HB.out.mono HWb.out.size)⟩
end Go.Proofs.Ytbfnbcjinnomlaa.calls
