/- The walk of the law FnWithIterFunctionExactAndAgreesWithWithFunction: it returns true at every input. -/
import Derived.Test.YtenkhaopiiokmaaFmtMk
set_option linter.unusedVariables false
namespace Go.Proofs.YtenkhaopiiokmaaFmt.fnWithIterFunctionExactAndAgreesWithWithFunction
open Go.ChangeShapes Go.WideShapes Go.ChangeAt Go.RowKit
open upd mapr mask wf ap msk mk

theorem one_mem (k : List UInt8) (v : Value) : ∀ x, x ∈ [k] ↔ (mapr.M.put (fun _ => none) k v x).isSome = true := by
  intro x
  by_cases e : x = k <;> simp [M.put, e]

set_option maxHeartbeats 4000000 in
set_option maxRecDepth 100000 in
theorem walk (a0 : ByteArray) (a1 a2 : Int) (w : World) (w0 : a0.size ≤ maxLen) (_w1 : (Lit.int .i64 a1).wf = true) (_w2 : (Lit.int .i64 a2).wf = true) :
    Calls Tryf.prog 4 #[.string a0, .int .i64 a1, .int .i64 a2] w fun e w' => e = .returned (.bool true) ∧ Below w.heap.size w w' := by
  have HL := Lib.hid w0
  have hm : a0.size ≤ 9223372036854775807 := by unfold maxLen at w0; omega
  have HZ := Lib.hid (zb15 a0 a1 a2 w hm)
  clear w0 _w1 _w2
  by_cases hv : 0 ≤ a1 ∧ a1 ≤ a2 ∧ a2 ≤ 30
  · obtain ⟨h0, h1, h2⟩ := hv
    obtain ⟨A, rfl⟩ := Int.eq_ofNat_of_zero_le h0
    obtain ⟨B, rfl⟩ := Int.eq_ofNat_of_zero_le (show 0 ≤ a2 by omega)
    have hAB : A ≤ B := by omega
    have hB30 : B ≤ 30 := by omega
    have HV := Lib.hid (fun w => valid (A : Int) (B : Int) w h0 h1 h2)
    have HBT := Lib.hid ((mask_bits A B hAB hB30).congr (fun k => (or_self_iff).symm))
    clear h0 h1 h2
    go_enter Tryf.func4, Tryf.ntmps4
    go_wp2_with (first | (go_at_call 15; refine HZ.out.mono ?_; rintro e w1 ⟨b, rfl, rfl⟩) | (go_at_call 8; refine (HV.out _).mono ?_; rintro e w1 ⟨rfl, rfl⟩))
    all_goals first | (go_ret; exact ⟨rfl, Below.refl _ _⟩) | skip
    go_wp2_with (go_at_call 9; refine (newc w).mono ?_; rintro e w1 ⟨rfl, hw1⟩; have hs1 : w.heap.size < w1.heap.size := (by (rw [hw1]; simp)); have HC1 : Hid (Blk w1 w.heap.size (comp (.map none)) 71) := (by (rw [hw1]; exact Blk.new _ _ _)); have HB1 : Hid (Below w.heap.size w w1) := (by (rw [hw1]; exact (Below.refl _ _).alloc (Nat.le_refl _) _)); clear hw1)
    go_wp2_with (go_at_call 16; refine (wi16 a0 A B w1 hAB hB30).mono ?_; rintro e w2 ⟨q, f, rfl, hO, hb2⟩; have HO := Lib.hid hO; have HC2 : Hid (Blk w2 w.heap.size (comp (.map none)) 71) := HC1.out.kept (Upd.of_below (S := fun _ => False) hb2) id; have HB2 : Hid (Below w.heap.size w w2) := HB1.out.trans (hb2.mono HB1.out.size); clear hO hb2)
    go_wp2_with (go_at_call 10; refine (ap_first w2 w.heap.size w1.heap.size w2.heap.size f a0 true (mask.mask A B) (.func (.func 21) #[] #[.pointer (some ⟨q, 0, none⟩)]) HO.out (.inr ⟨_, _, rfl⟩) HC2.out HL.out (.inl hs1)).mono ?_; rintro e w3 ⟨rfl, M, hR, hM, hu⟩; have HR := Lib.hid hR; have HB3 : Hid (Below w.heap.size w w3) := up_below HB2.out hu (fun k hk => by (have : k = w.heap.size := hk); omega); have g1 : w.heap.size < w3.heap.size := hR.blk.lt; have g2 : M < w3.heap.size := hR.map.lt; clear hR hu hM HO HC2 HC1 HB1 HB2 hs1)
    go_wp2_with (go_at_call 9; refine (newc w3).mono ?_; rintro e w4 ⟨rfl, hw4⟩; have hs4 : w3.heap.size < w4.heap.size := (by (rw [hw4]; simp)); have HC4 : Hid (Blk w4 w3.heap.size (comp (.map none)) 71) := (by (rw [hw4]; exact Blk.new _ _ _)); have hb4 : Below w3.heap.size w3 w4 := (by (rw [hw4]; exact (Below.refl _ _).alloc (Nat.le_refl _) _)); have HR4 : Hid (Reg w4 w.heap.size M 1 _) := HR.out.kept (Upd.of_below (S := fun _ => False) hb4) id id; have HB4 : Hid (Below w.heap.size w w4) := HB3.out.trans (hb4.mono HB3.out.size); clear hw4 hb4 HB3 HR)
    go_wp2_with (go_at_call 17; refine (wf17 a0 A B w4 hAB hB30).mono ?_; rintro e w5 ⟨f2, rfl, hO, hb5⟩; have HO := Lib.hid hO; have HC5 : Hid (Blk w5 w3.heap.size (comp (.map none)) 71) := HC4.out.kept (Upd.of_below (S := fun _ => False) hb5) id; have HR5 : Hid (Reg w5 w.heap.size M 1 _) := HR4.out.kept (Upd.of_below (S := fun _ => False) hb5) id id; have HB5 : Hid (Below w.heap.size w w5) := HB4.out.trans (hb5.mono HB4.out.size); clear hO hb5 HR4 HB4 HC4)
    go_wp2_with (go_at_call 10; refine (ap_first w5 w3.heap.size w4.heap.size w5.heap.size f2 a0 false (mask.mask A B) .nilFunc HO.out (.inl rfl) HC5.out HL.out (.inl hs4)).mono ?_; rintro e w6 ⟨rfl, M2, hR, hM, hu⟩; have HS := Lib.hid hR; have HR6 : Hid (Reg w6 w.heap.size M 1 _) := HR5.out.kept hu (Nat.ne_of_lt g1) (Nat.ne_of_lt g2); have HB6 : Hid (Below w.heap.size w w6) := up_below HB5.out hu (fun k hk => by (have : k = w3.heap.size := hk); omega); clear hR hu hM HO HC5 HR5 HB5 hs4 g1 g2)
    go_wp2_with (go_at_call 12; refine (func_some w6 w.heap.size M 1 _ a0 true (mask.mask A B) _ _ HR6.out HL.out (put_at _ _ _)).mono ?_; rintro e w7 ⟨rfl, hb7⟩; have HR7 : Hid (Reg w7 w.heap.size M 1 _) := HR6.out.kept (Upd.of_below (S := fun _ => False) hb7) id id; have HS7 : Hid (Reg w7 w3.heap.size M2 1 _) := HS.out.kept (Upd.of_below (S := fun _ => False) hb7) id id; have HB7 : Hid (Below w.heap.size w w7) := HB6.out.trans (hb7.mono HB6.out.size); clear hb7 HR6 HS HB6)
    go_wp2_with (go_at_call 12; refine (func_nil w7 w3.heap.size M2 1 _ a0 false (mask.mask A B) HS7.out HL.out (put_at _ _ _)).mono ?_; rintro e w8 ⟨rfl, hb8⟩; have HR8 : Hid (Reg w8 w.heap.size M 1 _) := HR7.out.kept (Upd.of_below (S := fun _ => False) hb8) id id; have HS8 : Hid (Reg w8 w3.heap.size M2 1 _) := HS7.out.kept (Upd.of_below (S := fun _ => False) hb8) id id; have HB8 : Hid (Below w.heap.size w w8) := HB7.out.trans (hb8.mono HB7.out.size); clear hb8 HR7 HS7 HB7)
    go_wp2_with (go_at_call 13; refine (count w8 w.heap.size M 1 _ [a0.data.toList] HR8.out (by simp) (one_mem _ _)).mono ?_; rintro e w9 ⟨rfl, rfl⟩)
    go_wp2_with (go_at_call 13; refine (count w8 w3.heap.size M2 1 _ [a0.data.toList] HS8.out (by simp) (one_mem _ _)).mono ?_; rintro e w9 ⟨rfl, rfl⟩)
    go_wp2_with (go_at_call 14; refine (ranges (mask.mask A B) A B A B _ HBT.out hB30 hB30 hAB hAB).mono ?_; rintro e w9 ⟨rfl, rfl⟩)
    go_ret
    exact ⟨rfl, HB8.out⟩
  · have HV := Lib.hid (fun w => invalid a1 a2 w hv)
    clear hv
    go_enter Tryf.func4, Tryf.ntmps4
    go_wp2_with (first | (go_at_call 15; refine HZ.out.mono ?_; rintro e w1 ⟨b, rfl, rfl⟩) | (go_at_call 8; refine (HV.out _).mono ?_; rintro e w1 ⟨rfl, rfl⟩))
    all_goals (go_ret; exact ⟨rfl, Below.refl _ _⟩)
end Go.Proofs.YtenkhaopiiokmaaFmt.fnWithIterFunctionExactAndAgreesWithWithFunction
