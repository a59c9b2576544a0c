/- The walk of the law FnWithIterFunctionMergeUnionIdempotent: it returns true at every input. -/
import Derived.Test.YtenkhaopiiokmaaFmtMk
set_option linter.unusedVariables false
namespace Go.Proofs.YtenkhaopiiokmaaFmt.fnWithIterFunctionMergeUnionIdempotent
open Go.ChangeShapes Go.WideShapes Go.ChangeAt Go.RowKit
open upd mapr mask wf ap msk mk

theorem two_mem (j k : List UInt8) (m : mapr.M) (v : Value) (h : ∀ x, x ≠ j → x ≠ k → m x = none) (hj : (m j).isSome = true) (hk : (m k).isSome = true) : ∀ x, x ∈ [j, k] ↔ (m x).isSome = true := by
  intro x
  by_cases e : x = j
  · subst e; simp [hj]
  · by_cases e2 : x = k
    · subst e2; simp [hk]
    · simp [e, e2, h x e e2]
theorem beq_no {a b : ByteArray} (h : ¬ a = b) : (a == b) = false := by
  obtain ⟨x⟩ := a; obtain ⟨y⟩ := b
  have e : (({ data := x } : ByteArray) == { data := y }) = (x == y) := by rfl
  rw [e]
  exact beq_eq_false_iff_ne.2 (fun e => h (by rw [e]))
theorem key_ne {a b : ByteArray} (h : ¬ a = b) : a.data.toList ≠ b.data.toList := by
  intro e
  apply h
  obtain ⟨⟨x⟩⟩ := a; obtain ⟨⟨y⟩⟩ := b
  simp at e
  rw [e]
set_option maxHeartbeats 2000000 in
set_option maxRecDepth 100000 in
theorem walk (a0 a1 : ByteArray) (a2 a3 a4 a5 : Int) (w : World) (w0 : a0.size ≤ maxLen) (w1 : a1.size ≤ maxLen) (_w2 : (Lit.int .i64 a2).wf = true) (_w3 : (Lit.int .i64 a3).wf = true) (_w4 : (Lit.int .i64 a4).wf = true) (_w5 : (Lit.int .i64 a5).wf = true) :
    Calls Tryf.prog 5 #[.string a0, .string a1, .int .i64 a2, .int .i64 a3, .int .i64 a4, .int .i64 a5] w fun e w' => e = .returned (.bool true) ∧ Below w.heap.size w w' := by
  have HL := Lib.hid w0
  have HL1 := Lib.hid w1
  have hm : a0.size ≤ 9223372036854775807 := by unfold maxLen at w0; omega
  have hm1 : a1.size ≤ 9223372036854775807 := by unfold maxLen at w1; omega
  have HZ := Lib.hid (zb18 a0 a1 a2 a3 a4 a5 w hm hm1)
  clear w0 w1 _w2 _w3 _w4 _w5
  have HN : Hid (2 < maxLen) := by unfold Hid maxLen; omega
  have HN1 : Hid (1 < maxLen) := by unfold Hid maxLen; omega
  have HN3 : Hid (3 < maxLen) := by unfold Hid maxLen; omega
  by_cases hv1 : 0 ≤ a2 ∧ a2 ≤ a3 ∧ a3 ≤ 30
  · by_cases hv2 : 0 ≤ a4 ∧ a4 ≤ a5 ∧ a5 ≤ 30
    · by_cases hne : a0 = a1
      · subst hne
        obtain ⟨h0, h1, h2⟩ := hv1
        obtain ⟨A, rfl⟩ := Int.eq_ofNat_of_zero_le h0
        obtain ⟨B, rfl⟩ := Int.eq_ofNat_of_zero_le (show 0 ≤ a3 by omega)
        have hAB1 : A ≤ B := by omega
        have hB1 : B ≤ 30 := by omega
        have HV1 := Lib.hid (fun w => valid (A : Int) (B : Int) w h0 h1 h2)
        have HM1 := Lib.hid (mask_bits A B hAB1 hB1)
        clear h0 h1 h2
        obtain ⟨h0, h1, h2⟩ := hv2
        obtain ⟨C, rfl⟩ := Int.eq_ofNat_of_zero_le h0
        obtain ⟨D, rfl⟩ := Int.eq_ofNat_of_zero_le (show 0 ≤ a5 by omega)
        have hAB2 : C ≤ D := by omega
        have hB2 : D ≤ 30 := by omega
        have HV2 := Lib.hid (fun w => valid (C : Int) (D : Int) w h0 h1 h2)
        have HM2 := Lib.hid (mask_bits C D hAB2 hB2)
        clear h0 h1 h2
        go_enter Tryf.func5, Tryf.ntmps5
        go_wp2_with (first | (go_at_call 18; refine HZ.out.mono ?_; rintro e w1 ⟨b, rfl, rfl⟩) | (go_at_call 8; refine (HV1.out _).mono ?_; clear HV1; rintro e w1 ⟨rfl, rfl⟩) | (go_at_call 8; refine (HV2.out _).mono ?_; clear HV2; rintro e w1 ⟨rfl, rfl⟩))
        all_goals (go_ret; exact ⟨rfl, Below.refl _ _⟩)
      · have hk := key_ne hne
        have hne2 : (a0 == a1) = false := beq_no hne
        have HK := Lib.hid hk
        clear hk
        obtain ⟨h0, h1, h2⟩ := hv1
        obtain ⟨A, rfl⟩ := Int.eq_ofNat_of_zero_le h0
        obtain ⟨B, rfl⟩ := Int.eq_ofNat_of_zero_le (show 0 ≤ a3 by omega)
        have hAB1 : A ≤ B := by omega
        have hB1 : B ≤ 30 := by omega
        have HV1 := Lib.hid (fun w => valid (A : Int) (B : Int) w h0 h1 h2)
        have HM1 := Lib.hid (mask_bits A B hAB1 hB1)
        clear h0 h1 h2
        obtain ⟨h0, h1, h2⟩ := hv2
        obtain ⟨C, rfl⟩ := Int.eq_ofNat_of_zero_le h0
        obtain ⟨D, rfl⟩ := Int.eq_ofNat_of_zero_le (show 0 ≤ a5 by omega)
        have hAB2 : C ≤ D := by omega
        have hB2 : D ≤ 30 := by omega
        have HV2 := Lib.hid (fun w => valid (C : Int) (D : Int) w h0 h1 h2)
        have HM2 := Lib.hid (mask_bits C D hAB2 hB2)
        clear h0 h1 h2
        have HOR := Lib.hid (HM2.out.or HM1.out)
        have HBT := Lib.hid ((HM2.out.or HM1.out).congr (fun k => Or.comm))
        have HB2 := Lib.hid (HM2.out.congr (fun k => (or_self_iff).symm))
        have HEQ : Hid (mask.mask A B ||| (mask.mask C D ||| mask.mask A B) = mask.mask C D ||| mask.mask A B) := Bits.ext (p := fun k => (C ≤ k ∧ k ≤ D) ∨ (A ≤ k ∧ k ≤ B)) ((HM1.out.or HOR.out).congr (fun k => by constructor <;> intro h <;> omega)) HOR.out
        clear hne
        go_enter Tryf.func5, Tryf.ntmps5
        go_wp2_with (first | (go_at_call 18; refine HZ.out.mono ?_; rintro e w1 ⟨b, rfl, rfl⟩) | (go_at_call 8; refine (HV1.out _).mono ?_; clear HV1; rintro e w1 ⟨rfl, rfl⟩) | (go_at_call 8; refine (HV2.out _).mono ?_; clear HV2; rintro e w1 ⟨rfl, rfl⟩))
        all_goals first | (go_ret; exact ⟨rfl, Below.refl _ _⟩) | skip
        go_wp2_with (go_at_call 9; refine (newc w).mono ?_; rintro e w1 ⟨rfl, hw1⟩; have hs1 : w.heap.size < w1.heap.size := (by (rw [hw1]; simp)); have HC1 : Hid (Blk w1 w.heap.size (comp (.map none)) 71) := (by (rw [hw1]; exact Blk.new _ _ _)); have HB1 : Hid (Below w.heap.size w w1) := (by (rw [hw1]; exact (Below.refl _ _).alloc (Nat.le_refl _) _)); clear hw1)
        go_wp2_with (go_at_call 16; refine (wi16 a0 A B w1 hAB1 hB1).mono ?_; rintro e w2 ⟨q1, f1, rfl, hO, hb2⟩; have HO := Lib.hid hO; have HC2 : Hid (Blk w2 w.heap.size (comp (.map none)) 71) := HC1.out.kept (Upd.of_below (S := fun _ => False) hb2) id; have HD2 : Hid (Below w.heap.size w w2) := HB1.out.trans (hb2.mono HB1.out.size); clear hO hb2)
        go_wp2_with (go_at_call 10; refine (ap_first w2 w.heap.size w1.heap.size w2.heap.size f1 a0 true (mask.mask A B) (.func (.func 21) #[] #[.pointer (some ⟨q1, 0, none⟩)]) HO.out (.inr ⟨_, _, rfl⟩) HC2.out HL.out (.inl hs1)).mono ?_; rintro e w3 ⟨rfl, M, hR, hM, hu⟩; have HR3 := Lib.hid hR; have HD3 : Hid (Below w.heap.size w w3) := up_below HD2.out hu (fun k hk => by (have : k = w.heap.size := hk); omega); have HMM : Hid (w.heap.size ≤ M) := Nat.le_trans (Nat.le_of_lt hs1) (by (have := HO.out; obtain ⟨_, _, _, _, _, p, _⟩ := this; omega)); clear hR hu hM HO HC2 HC1 HB1 HD2 hs1)
        go_wp2_with (go_at_call 17; refine (wf17 a1 C D w3 hAB2 hB2).mono ?_; rintro e w4 ⟨f2, rfl, hO, hb⟩; have HO := Lib.hid hO; have HR4 : Hid (Reg w4 w.heap.size M 1 _) := HR3.out.kept (Upd.of_below (S := fun _ => False) hb) id id; have HD4 : Hid (Below w.heap.size w w4) := HD3.out.trans (hb.mono HD3.out.size); clear hO hb HD3 HR3)
        go_wp2_with (go_at_call 10; refine (ap_new w4 w.heap.size M 1 w3.heap.size w4.heap.size _ f2 a1 false (mask.mask C D) .nilFunc HO.out (.inl rfl) HR4.out HL1.out ((put_ne _ _ _ _ (Ne.symm HK.out)).trans rfl) HN1.out).mono ?_; rintro e w5 ⟨rfl, hR, hu⟩; have HR5 := Lib.hid hR; have HD5 : Hid (Below w.heap.size w w5) := up_below HD4.out hu (fun k hk => by (have : k = M := hk); have := HMM.out; omega); clear hR hu HR4 HD4 HO)
        go_wp2_with (go_at_call 16; refine (wi16 a0 C D w5 hAB2 hB2).mono ?_; rintro e w6 ⟨q2, f3, rfl, hO, hb⟩; have HO := Lib.hid hO; have HR6 : Hid (Reg w6 w.heap.size M 2 _) := HR5.out.kept (Upd.of_below (S := fun _ => False) hb) id id; have HD6 : Hid (Below w.heap.size w w6) := HD5.out.trans (hb.mono HD5.out.size); clear hO hb HD5 HR5)
        go_wp2_with (go_at_call 10; refine (ap_merge w6 w.heap.size M 2 w5.heap.size w6.heap.size _ f3 a0 true (mask.mask C D) (mask.mask A B) (.func (.func 21) #[] #[.pointer (some ⟨q2, 0, none⟩)]) (.func (.func 21) #[] #[.pointer (some ⟨q1, 0, none⟩)]) HO.out (.inr ⟨_, _, rfl⟩) HR6.out HL.out ((put_ne _ _ _ _ HK.out).trans (put_at _ _ _)) (.inr ⟨_, _, rfl⟩) HM2.out.1 HM1.out.1 HN.out).mono ?_; rintro e w7 ⟨rfl, cb, ⟨g, ps, rfl⟩, hR, hu⟩; have HR7 := Lib.hid hR; have HD7 : Hid (Below w.heap.size w w7) := up_below HD6.out hu (fun k hk => by (have : k = M := hk); have := HMM.out; omega); clear hR hu HR6 HD6 HO)
        go_wp2_with (go_at_call 12; refine (func_some w7 w.heap.size M 3 _ a0 true (mask.mask C D ||| mask.mask A B) g ps HR7.out HL.out (put_at _ _ _)).mono ?_; rintro e w8 ⟨rfl, hb⟩; have HR8 : Hid (Reg w8 w.heap.size M 3 _) := HR7.out.kept (Upd.of_below (S := fun _ => False) hb) id id; have HD8 : Hid (Below w.heap.size w w8) := HD7.out.trans (hb.mono HD7.out.size); clear hb HD7 HR7)
        go_wp2_with (go_at_call 14; refine (ranges (mask.mask C D ||| mask.mask A B) A B C D _ HBT.out hB1 hB2 hAB1 hAB2).mono ?_; rintro e w9 ⟨rfl, rfl⟩)
        go_wp2_with (go_at_call 16; refine (wi16 a0 A B w8 hAB1 hB1).mono ?_; rintro e w9 ⟨q3, f4, rfl, hO, hb⟩; have HO := Lib.hid hO; have HR9 : Hid (Reg w9 w.heap.size M 3 _) := HR8.out.kept (Upd.of_below (S := fun _ => False) hb) id id; have HD9 : Hid (Below w.heap.size w w9) := HD8.out.trans (hb.mono HD8.out.size); clear hO hb HD8 HR8)
        go_wp2_with (go_at_call 10; refine (ap_merge w9 w.heap.size M 3 w8.heap.size w9.heap.size _ f4 a0 true (mask.mask A B) (mask.mask C D ||| mask.mask A B) (.func (.func 21) #[] #[.pointer (some ⟨q3, 0, none⟩)]) (.func g #[] ps) HO.out (.inr ⟨_, _, rfl⟩) HR9.out HL.out (put_at _ _ _) (.inr ⟨_, _, rfl⟩) HM1.out.1 HOR.out.1 HN3.out).mono ?_; rintro e w10 ⟨rfl, cb, ⟨g2, ps2, rfl⟩, hR, hu⟩; rw [HEQ.out] at hR; have HR10 := Lib.hid hR; have HD10 : Hid (Below w.heap.size w w10) := up_below HD9.out hu (fun k hk => by (have : k = M := hk); have := HMM.out; omega); clear hR hu HR9 HD9 HO)
        go_wp2_with (go_at_call 12; refine (func_some w10 w.heap.size M 4 _ a0 true (mask.mask C D ||| mask.mask A B) g2 ps2 HR10.out HL.out (put_at _ _ _)).mono ?_; rintro e w11 ⟨rfl, hb⟩; have HR11 : Hid (Reg w11 w.heap.size M 4 _) := HR10.out.kept (Upd.of_below (S := fun _ => False) hb) id id; have HD11 : Hid (Below w.heap.size w w11) := HD10.out.trans (hb.mono HD10.out.size); clear hb HD10 HR10)
        go_wp2_with (go_at_call 12; refine (func_nil w11 w.heap.size M 4 _ a1 false (mask.mask C D) HR11.out HL1.out ((put_ne _ _ _ _ (Ne.symm HK.out)).trans ((put_ne _ _ _ _ (Ne.symm HK.out)).trans (put_at _ _ _)))).mono ?_; rintro e w12 ⟨rfl, hb⟩; have HR12 : Hid (Reg w12 w.heap.size M 4 _) := HR11.out.kept (Upd.of_below (S := fun _ => False) hb) id id; have HD12 : Hid (Below w.heap.size w w12) := HD11.out.trans (hb.mono HD11.out.size); clear hb HD11 HR11)
        go_wp2_with (go_at_call 14; refine (ranges (mask.mask C D) C D C D _ HB2.out hB2 hB2 hAB2 hAB2).mono ?_; rintro e w13 ⟨rfl, rfl⟩)
        go_wp2_with (go_at_call 13; refine (count w12 w.heap.size M 4 _ [a0.data.toList, a1.data.toList] HR12.out (by simp [HK.out]) (two_mem _ _ _ .nilFunc (fun x h1 h2 => by (rw [put_ne _ _ _ _ h1, put_ne _ _ _ _ h1, put_ne _ _ _ _ h2, put_ne _ _ _ _ h1])) (by (rw [put_at]; rfl)) (by (rw [put_ne _ _ _ _ (Ne.symm HK.out), put_ne _ _ _ _ (Ne.symm HK.out), put_at]; rfl)))).mono ?_; rintro e w13 ⟨rfl, rfl⟩)
        go_ret
        exact ⟨rfl, HD12.out⟩
    · have HV2 := Lib.hid (fun w => invalid a4 a5 w hv2)
      obtain ⟨h0, h1, h2⟩ := hv1
      obtain ⟨A, rfl⟩ := Int.eq_ofNat_of_zero_le h0
      obtain ⟨B, rfl⟩ := Int.eq_ofNat_of_zero_le (show 0 ≤ a3 by omega)
      have hAB1 : A ≤ B := by omega
      have hB1 : B ≤ 30 := by omega
      have HV1 := Lib.hid (fun w => valid (A : Int) (B : Int) w h0 h1 h2)
      have HM1 := Lib.hid (mask_bits A B hAB1 hB1)
      clear h0 h1 h2
      clear hv2
      go_enter Tryf.func5, Tryf.ntmps5
      go_wp2_with (first | (go_at_call 18; refine HZ.out.mono ?_; rintro e w1 ⟨b, rfl, rfl⟩) | (go_at_call 8; refine (HV1.out _).mono ?_; clear HV1; rintro e w1 ⟨rfl, rfl⟩) | (go_at_call 8; refine (HV2.out _).mono ?_; clear HV2; rintro e w1 ⟨rfl, rfl⟩))
      all_goals (go_ret; exact ⟨rfl, Below.refl _ _⟩)
  · have HV1 := Lib.hid (fun w => invalid a2 a3 w hv1)
    clear hv1
    go_enter Tryf.func5, Tryf.ntmps5
    go_wp2_with (first | (go_at_call 18; refine HZ.out.mono ?_; rintro e w1 ⟨b, rfl, rfl⟩) | (go_at_call 8; refine (HV1.out _).mono ?_; clear HV1; rintro e w1 ⟨rfl, rfl⟩))
    all_goals (go_ret; exact ⟨rfl, Below.refl _ _⟩)
end Go.Proofs.YtenkhaopiiokmaaFmt.fnWithIterFunctionMergeUnionIdempotent
