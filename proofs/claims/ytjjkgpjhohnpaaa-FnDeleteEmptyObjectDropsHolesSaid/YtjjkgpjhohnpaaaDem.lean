/- deleteEmpty at an object of ints of which some keys are marked. -/
import Derived.Test.YtjjkgpjhohnpaaaDel
import Derived.Test.YtjjkgpjhohnpaaaKsm
import Derived.Test.YtjjkgpjhohnpaaaHol
import Derived.Test.YtjjkgpjhohnpaaaRst
set_option linter.unusedVariables false
namespace Go.Proofs.Ytjjkgpjhohnpaaa.dem
open Go.ChangeShapes Go.WideShapes Go.ChangeAt Go.RowKit Go.Maps Go.WideMaps Go.Sort
open types fill upd arr mapr hol ksm

theorem ta_41_44 (x : Value) (w : World) : (Instr.typeAssert (.iface 41 x) 20 44 true).run Try.prog w = .ok (.tuple #[.agg #[], .bool false]) w := by kernel_rfl
theorem ta_41_41 (x : Value) (w : World) : (Instr.typeAssert (.iface 41 x) 20 41 true).run Try.prog w = .ok (.tuple #[x, .bool true]) w := by kernel_rfl
theorem eql_3 (z : Int) (w : World) : (binOp .eql 20 (.iface 3 (.int .i64 z)) (.iface 44 (.agg #[]))).run Try.prog w = .ok (.bool false) w := by kernel_rfl
theorem eql_44 (w : World) : (binOp .eql 20 (.iface 44 (.agg #[])) (.iface 44 (.agg #[]))).run Try.prog w = .ok (.bool true) w := by kernel_rfl

theorem de_map_nil (w : World) : Calls Try.prog 13 #[.iface 41 (.map none)] w fun e w' => e = .returned (.iface 41 (.map none)) ∧ Below w.heap.size w w' := by
  have t1 := ta_41_44; have t2 := ta_41_41
  have hrg := run_range_nilMap (P := Try.prog) w 41 9 20 Try.underlying41
  have hnx : ∀ ty, (Instr.next (.pointer (some ⟨w.heap.size, 0, none⟩)) false ty).run Try.prog (w.alloc (.mapIter none 0 #[] 0)) = _ := fun ty => run_next_nilMap _ ty 0 0 #[]
  go_enter Try.func13, Try.ntmps13
  go_wp2_with fail
  refine wp_loop_rounds 1 ?_
  rw [rounds_succ]
  go_wp2_with fail
  go_ret
  exact ⟨rfl, (Below.refl _ _).alloc (Nat.le_refl _) _⟩

set_option maxHeartbeats 1000000 in
theorem de_map (B n m : Nat) (ks : List ByteArray) (bs : Nat → Int) (hs : Nat → Bool) (w : World) (h : HoldsM Try.prog 9 w B n (mOf ks m (fH bs hs))) (hn : n < maxLen) :
    Calls Try.prog 13 #[.iface 41 (.map (some B))] w fun e w' => e = .returned (.iface 41 (.map (some B))) ∧ HoldsM Try.prog 9 w' B n (finM ks hs m (fH bs hs)) ∧ Upd (· = B) w w' := by
  have t1 := ta_41_44; have t2 := ta_41_41
  have q1 := eql_3; have q2 := eql_44
  obtain ⟨D0, hO, hSy⟩ := h
  have HO := Lib.hid hO
  have HS0 := Lib.hid hSy
  have HN := Lib.hid hn
  have hB := hO.lt
  clear hO hSy hn
  go_enter Try.func13, Try.ntmps13
  go_wp2_with (at_range; refine wpList_range_own _ rfl _ 41 rfl 9 20 law Try.underlying41 anyElem B n _ rfl HO.out ?_; intro w0 hrg0 hg0 hs0)
  go_frame
  obtain ⟨it, hit⟩ : ∃ it, it = w.heap.size := ⟨_, rfl⟩
  rw [← hit] at hrg0 ⊢
  have hitB : it ≠ B := by omega
  have hit2 : w.heap.size ≤ it := by omega
  have hr0 := Lib.hid hrg0
  have hu0 : Hid (Upd (· = B) w w0) := (Upd.refl _ _).grown hg0 (fun k hk => by cases hk)
  have hs1 : Hid (Says D0 (sweep ks hs m (fH bs hs) (Maps.has D0))) := HS0.out.congr (sweep_start ks hs m (fH bs hs) _ (fun x => HS0.out.has x))
  clear hs0 hg0 hrg0 hit HO HS0
  go_loopw [5, 6] (fun _ _ wr => ∃ (left : Lit → Bool) (cnt : Nat) (D : DataW Value), Hid (wr.ranges Try.prog 9 anyElem B it n D left cnt) ∧ Hid (Says D (sweep ks hs m (fH bs hs) left)) ∧ Hid (Upd (· = B) w wr)) (fun _ _ wr => wr.rangeLeft B it)
  case atStart => exact ⟨_, _, _, hr0, hs1, hu0⟩
  case round =>
    obtain ⟨left, cnt, D, HG, HS, HU⟩ := hrel
    clear hr0 hs1 hu0
    go_wp2_with (at_next; refine wpList_next_ranges _ rfl _ rfl 9 law anyElem encStr (fun v : Value => v) (fun key kl hk => by obtain ⟨x, hx, _⟩ := Maps.keyOf_str Try.underlying9 hk; exact ⟨x, hx⟩) (fun v y hv => ⟨v, rfl⟩) B it n _ _ _ rfl HG.out ?_ ?_)
    · intro hc0 hl0
      have HE : Hid (HoldsM Try.prog 9 wr B n (finM ks hs m (fH bs hs))) := ⟨D, HG.out.owns, HS.out.congr (sweep_end ks hs m (fH bs hs) left hl0)⟩
      clear hl0 hc0
      go_wp2_with fail
      go_ret
      exact ⟨rfl, HE.out, HU.out⟩
    · intro x c kl yd yp w2 cnt2 hkey hlk hv hat hrg2 hlt hg2 hs2 hen
      obtain ⟨x', ex, rfl, hxl⟩ := Maps.keyOf_str Try.underlying9 hkey
      obtain rfl : x = x' := encStr_inj ex
      have hyd : yd = .held c := by simp [anyElem] at hv; exact hv.1.symm
      have hat2 : ∀ zd, D.atKey (.string x) zd = .held c := fun zd => by rw [hat zd, hyd]
      obtain ⟨i, hi, hc⟩ := sweep_at (HS.out.at hat2) hlk
      have hhas : Hid (Maps.has D (.string x) = true) := has_true_of_atKey hat2
      have hl0 : Hid (wr.rangeLeft B it = cnt) := HG.out.left_eq
      have HLT := Lib.hid hlt
      have HR2 := Lib.hid hrg2
      have HKEY := Lib.hid hkey
      have HU2 : Hid (Upd (· = B) w w2) := HU.out.grown hg2 (fun k hk => by cases hk; exact .inr hit2)
      clear hs2 hg2 hlk hat hat2 hv hyd ex hrg2 hlt HU HG hkey hxl
      cases hh : hs i with
      | true =>
        have e : c = .iface 44 (.agg #[]) := by rw [hc]; simp [fH, hh]
        have HD := Lib.hid ((HS.out.del x).congr (sweep_hole (f := fH bs hs) hi hh))
        clear hc hh hi HS
        subst e
        go_wp2_with (at_delete; refine wpList_delete_ranges _ rfl _ _ 41 9 rfl 20 law Try.underlying41 anyElem B it n D _ cnt2 rfl HR2.out _ _ rfl HKEY.out ?_; intro w3 cnt3 hrg3 hle hturn; go_frame)
        rw [strike_twice] at hrg3
        have HU3 : Hid (Upd (· = B) w w3) := HU2.out.grown hturn.grown (fun k hk => by cases hk; exact .inl rfl)
        go_roundw
        case rel => exact ⟨_, cnt3, _, hrg3, HD, HU3⟩
        case measure => rw [hrg3.left_eq, hl0.out]; have := HLT.out; omega
      | false =>
        have e : c = .iface 3 (.int .i64 (bs i)) := by rw [hc]; simp [fH, hh]
        have HD := Lib.hid ((HS.out.put x c).congr (by have := sweep_keep (f := fH bs hs) (left := left) hi hh; rwa [← hc] at this))
        clear hc hh hi HS
        subst e
        go_wp2_with (first | (go_at_call 13; refine (de_int _ _).mono ?_; rintro e w1 ⟨rfl, rfl⟩) | (at_mapUpdate; refine rst.wpList_store_ranges _ rfl _ _ _ 41 rfl 9 20 law Try.underlying41 anyElem B it n D _ cnt2 rfl HR2.out HN.out _ _ _ rfl rfl HKEY.out hhas.out _ [] rfl ?_; intro w3 hrg3 hg3 hs3; clear hs3; go_frame))
        have HU3 : Hid (Upd (· = B) w w3) := HU2.out.grown hg3 (fun k hk => by cases hk; exact .inl rfl)
        go_roundw
        case rel => exact ⟨_, cnt2, _, hrg3, HD, HU3⟩
        case measure => rw [hrg3.left_eq, hl0.out]; exact HLT.out
end Go.Proofs.Ytjjkgpjhohnpaaa.dem
