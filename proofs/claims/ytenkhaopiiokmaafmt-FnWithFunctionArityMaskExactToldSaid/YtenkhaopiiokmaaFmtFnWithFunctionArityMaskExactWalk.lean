/- The walk of the law FnWithFunctionArityMaskExact: it returns true at every input. -/
import Derived.Test.YtenkhaopiiokmaaFmtMk
set_option linter.unusedVariables false
namespace Go.Proofs.YtenkhaopiiokmaaFmt.fnWithFunctionArityMaskExact
open Go.ChangeShapes Go.WideShapes Go.ChangeAt Go.RowKit
open upd mapr mask wf ap msk mk

theorem one_mem (k : List UInt8) (v : Value) : ∀ x, x ∈ [k] ↔ (mapr.M.put (fun _ => none) k v x).isSome = true := by
  intro x
  by_cases e : x = k <;> simp [M.put, e]

set_option maxHeartbeats 2000000 in
set_option maxRecDepth 100000 in
theorem walk (a0 : ByteArray) (a1 a2 : Int) (a3 : Bool) (w : World) (w0 : a0.size ≤ maxLen) (_w1 : (Lit.int .i64 a1).wf = true) (_w2 : (Lit.int .i64 a2).wf = true) :
    Calls Tryf.prog 3 #[.string a0, .int .i64 a1, .int .i64 a2, .bool a3] w fun e w' => e = .returned (.bool true) ∧ Below w.heap.size w w' := by
  have HL := Lib.hid w0
  have hm : a0.size ≤ 9223372036854775807 := by unfold maxLen at w0; omega
  have HZ := Lib.hid (zb7 a0 a1 a2 a3 w hm)
  clear w0 _w1 _w2
  by_cases hv : 0 ≤ a1 ∧ a1 ≤ a2 ∧ a2 ≤ 30
  · obtain ⟨h0, h1, h2⟩ := hv
    obtain ⟨A, rfl⟩ := Int.eq_ofNat_of_zero_le h0
    obtain ⟨B, rfl⟩ := Int.eq_ofNat_of_zero_le (show 0 ≤ a2 by omega)
    have hAB : A ≤ B := by omega
    have hB30 : B ≤ 30 := by omega
    have HV := Lib.hid (fun w => valid (A : Int) (B : Int) w h0 h1 h2)
    have HBT := Lib.hid ((mask_bits A B hAB hB30).congr (fun k => (or_self_iff).symm))
    have hq : (a3 != a3) = false := by simp
    clear h0 h1 h2
    obtain ⟨key, hkey⟩ : ∃ key, key = a0.data.toList := ⟨_, rfl⟩
    go_enter Tryf.func3, Tryf.ntmps3
    go_wp2_with (first | (go_at_call 7; refine HZ.out.mono ?_; rintro e w1 ⟨b, rfl, rfl⟩) | (go_at_call 8; refine (HV.out _).mono ?_; rintro e w1 ⟨rfl, rfl⟩) | (go_at_call 9; refine (newc _).mono ?_; rintro e w1 ⟨rfl, hw1⟩; have hs1 : w.heap.size < w1.heap.size := (by (rw [hw1]; simp)); have HC1 : Hid (Blk w1 w.heap.size (comp (.map none)) 71) := (by (rw [hw1]; exact Blk.new _ _ _)); have HB1 : Hid (Below w.heap.size w w1) := (by (rw [hw1]; exact (Below.refl _ _).alloc (Nat.le_refl _) _)); clear hw1) | (go_at_call 11; refine (zz11 a0 A B a3 _ hAB hB30).mono ?_; rintro e w2 ⟨f, rfl, hO, hb2⟩; have HO := Lib.hid hO; have HC2 : Hid (Blk w2 w.heap.size (comp (.map none)) 71) := HC1.out.kept (Upd.of_below (S := fun _ => False) hb2) id; have HB2 : Hid (Below w.heap.size w w2) := HB1.out.trans (hb2.mono HB1.out.size); clear hO hb2) | (go_at_call 10; refine (ap_first w2 w.heap.size w1.heap.size w2.heap.size f a0 a3 (mask.mask A B) .nilFunc HO.out (.inl rfl) HC2.out HL.out (.inl hs1)).mono ?_; rintro e w3 ⟨rfl, M, hR, hM, hu⟩; have HR := Lib.hid hR; have HB3 : Hid (Below w.heap.size w w3) := up_below HB2.out hu (fun k hk => by (have : k = w.heap.size := hk); omega); clear hR hu hM) | (go_at_call 12; refine (func_nil w3 w.heap.size M 1 _ a0 a3 (mask.mask A B) HR.out HL.out (put_at _ _ _)).mono ?_; rintro e w4 ⟨rfl, hb4⟩; have HR4 : Hid (Reg w4 w.heap.size M 1 _) := HR.out.kept (Upd.of_below (S := fun _ => False) hb4) id id; have HB4 : Hid (Below w.heap.size w w4) := HB3.out.trans (hb4.mono HB3.out.size); clear hb4) | (go_at_call 13; refine (count w4 w.heap.size M 1 _ [a0.data.toList] HR4.out (by simp) (one_mem _ _)).mono ?_; rintro e w5 ⟨rfl, rfl⟩) | (go_at_call 14; refine (ranges (mask.mask A B) A B A B _ HBT.out hB30 hB30 hAB hAB).mono ?_; rintro e w6 ⟨rfl, rfl⟩))
    all_goals go_ret
    all_goals first | exact ⟨rfl, Below.refl _ _⟩ | exact ⟨rfl, HB4.out⟩
  · have HV := Lib.hid (fun w => invalid a1 a2 w hv)
    clear hv
    go_enter Tryf.func3, Tryf.ntmps3
    go_wp2_with (first | (go_at_call 7; refine HZ.out.mono ?_; rintro e w1 ⟨b, rfl, rfl⟩) | (go_at_call 8; refine (HV.out _).mono ?_; rintro e w1 ⟨rfl, rfl⟩))
    all_goals (go_ret; exact ⟨rfl, Below.refl _ _⟩)
end Go.Proofs.YtenkhaopiiokmaaFmt.fnWithFunctionArityMaskExact
