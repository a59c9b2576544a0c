/- The walk of the law FnWithFunctionMergeIsUnionOrderFree: it returns true at every input. -/
import Derived.Test.YtenkhaopiiokmaaFmtMk
set_option linter.unusedVariables false
namespace Go.Proofs.YtenkhaopiiokmaaFmt.fnWithFunctionMergeIsUnionOrderFree
open Go.ChangeShapes Go.WideShapes Go.ChangeAt Go.RowKit
open upd mapr mask wf ap msk mk

theorem two_mem (j k : List UInt8) (m : mapr.M) (v : Value) (h : ∀ x, x ≠ j → x ≠ k → m x = none) (hj : (m j).isSome = true) (hk : (m k).isSome = true) : ∀ x, x ∈ [j, k] ↔ (m x).isSome = true := by
  intro x
  by_cases e : x = j
  · subst e; simp [hj]
  · by_cases e2 : x = k
    · subst e2; simp [hk]
    · simp [e, e2, h x e e2]
theorem beq_no {a b : ByteArray} (h : ¬ a = b) : (a == b) = false := by
  obtain ⟨x⟩ := a; obtain ⟨y⟩ := b
  have e : (({ data := x } : ByteArray) == { data := y }) = (x == y) := by rfl
  rw [e]
  exact beq_eq_false_iff_ne.2 (fun e => h (by rw [e]))
theorem key_ne {a b : ByteArray} (h : ¬ a = b) : a.data.toList ≠ b.data.toList := by
  intro e
  apply h
  obtain ⟨⟨x⟩⟩ := a; obtain ⟨⟨y⟩⟩ := b
  simp at e
  rw [e]
set_option maxHeartbeats 1000000 in
set_option maxRecDepth 100000 in
theorem walk (a0 a1 : ByteArray) (a2 a3 a4 a5 : Int) (a6 : Bool) (w : World) (w0 : a0.size ≤ maxLen) (w1 : a1.size ≤ maxLen) (_w2 : (Lit.int .i64 a2).wf = true) (_w3 : (Lit.int .i64 a3).wf = true) (_w4 : (Lit.int .i64 a4).wf = true) (_w5 : (Lit.int .i64 a5).wf = true) :
    Calls Tryf.prog 6 #[.string a0, .string a1, .int .i64 a2, .int .i64 a3, .int .i64 a4, .int .i64 a5, .bool a6] w fun e w' => e = .returned (.bool true) ∧ Below w.heap.size w w' := by
  have HL := Lib.hid w0
  have HL1 := Lib.hid w1
  have hm : a0.size ≤ 9223372036854775807 := by unfold maxLen at w0; omega
  have hm1 : a1.size ≤ 9223372036854775807 := by unfold maxLen at w1; omega
  have HZ := Lib.hid (zb19 a0 a1 a2 a3 a4 a5 a6 w hm hm1)
  clear w0 w1 _w2 _w3 _w4 _w5
  have HN : Hid (2 < maxLen) := by unfold Hid maxLen; omega
  have HN1 : Hid (1 < maxLen) := by unfold Hid maxLen; omega
  have hq : (a6 != a6) = false := by simp
  have hq2 : ((!a6) != (!a6)) = false := by simp
  by_cases hv1 : 0 ≤ a2 ∧ a2 ≤ a3 ∧ a3 ≤ 30
  · by_cases hv2 : 0 ≤ a4 ∧ a4 ≤ a5 ∧ a5 ≤ 30
    · by_cases hne : a0 = a1
      · subst hne
        obtain ⟨h0, h1, h2⟩ := hv1
        obtain ⟨A, rfl⟩ := Int.eq_ofNat_of_zero_le h0
        obtain ⟨B, rfl⟩ := Int.eq_ofNat_of_zero_le (show 0 ≤ a3 by omega)
        have hAB1 : A ≤ B := by omega
        have hB1 : B ≤ 30 := by omega
        have HV1 := Lib.hid (fun w => valid (A : Int) (B : Int) w h0 h1 h2)
        have HM1 := Lib.hid (mask_bits A B hAB1 hB1)
        clear h0 h1 h2
        obtain ⟨h0, h1, h2⟩ := hv2
        obtain ⟨C, rfl⟩ := Int.eq_ofNat_of_zero_le h0
        obtain ⟨D, rfl⟩ := Int.eq_ofNat_of_zero_le (show 0 ≤ a5 by omega)
        have hAB2 : C ≤ D := by omega
        have hB2 : D ≤ 30 := by omega
        have HV2 := Lib.hid (fun w => valid (C : Int) (D : Int) w h0 h1 h2)
        have HM2 := Lib.hid (mask_bits C D hAB2 hB2)
        clear h0 h1 h2
        go_enter Tryf.func6, Tryf.ntmps6
        go_wp2_with (first | (go_at_call 19; refine HZ.out.mono ?_; rintro e w1 ⟨b, rfl, rfl⟩) | (go_at_call 8; refine (HV1.out _).mono ?_; clear HV1; rintro e w1 ⟨rfl, rfl⟩) | (go_at_call 8; refine (HV2.out _).mono ?_; clear HV2; rintro e w1 ⟨rfl, rfl⟩))
        all_goals (go_ret; exact ⟨rfl, Below.refl _ _⟩)
      · have hk := key_ne hne
        have hne2 : (a0 == a1) = false := beq_no hne
        have HK := Lib.hid hk
        clear hk
        obtain ⟨h0, h1, h2⟩ := hv1
        obtain ⟨A, rfl⟩ := Int.eq_ofNat_of_zero_le h0
        obtain ⟨B, rfl⟩ := Int.eq_ofNat_of_zero_le (show 0 ≤ a3 by omega)
        have hAB1 : A ≤ B := by omega
        have hB1 : B ≤ 30 := by omega
        have HV1 := Lib.hid (fun w => valid (A : Int) (B : Int) w h0 h1 h2)
        have HM1 := Lib.hid (mask_bits A B hAB1 hB1)
        clear h0 h1 h2
        obtain ⟨h0, h1, h2⟩ := hv2
        obtain ⟨C, rfl⟩ := Int.eq_ofNat_of_zero_le h0
        obtain ⟨D, rfl⟩ := Int.eq_ofNat_of_zero_le (show 0 ≤ a5 by omega)
        have hAB2 : C ≤ D := by omega
        have hB2 : D ≤ 30 := by omega
        have HV2 := Lib.hid (fun w => valid (C : Int) (D : Int) w h0 h1 h2)
        have HM2 := Lib.hid (mask_bits C D hAB2 hB2)
        clear h0 h1 h2
        have HOR := Lib.hid (HM2.out.or HM1.out)
        have HBT := Lib.hid ((HM2.out.or HM1.out).congr (fun k => Or.comm))
        have HB2 := Lib.hid (HM1.out.congr (fun k => (or_self_iff).symm))
        have HEQ : Hid (mask.mask A B ||| mask.mask C D = mask.mask C D ||| mask.mask A B) := Nat.or_comm _ _
        clear hne
        go_enter Tryf.func6, Tryf.ntmps6
        go_wp2_with (first | (go_at_call 19; refine HZ.out.mono ?_; rintro e w1 ⟨b, rfl, rfl⟩) | (go_at_call 8; refine (HV1.out _).mono ?_; clear HV1; rintro e w1 ⟨rfl, rfl⟩) | (go_at_call 8; refine (HV2.out _).mono ?_; clear HV2; rintro e w1 ⟨rfl, rfl⟩))
        all_goals first | (go_ret; exact ⟨rfl, Below.refl _ _⟩) | skip
        have tk1 := Lib.hid trivial
        go_wp2_with (go_at_call 11; clear tk1; refine (zz11 a0 A B a6 w hAB1 hB1).mono ?_; rintro e w1 ⟨f1, rfl, hO, hb⟩; have HP := Lib.hid hO; have HD1 := Lib.hid hb; have s1 := hb.size; clear hO hb)
        have tk2 := Lib.hid trivial
        go_wp2_with (go_at_call 11; clear tk2; refine (zz11 a0 C D a6 w1 hAB2 hB2).mono ?_; rintro e w2 ⟨f2, rfl, hO, hb⟩; have HQ := Lib.hid hO; have HP2 : Hid (Opt w2 w.heap.size w1.heap.size _ _ _ _ _) := HP.out.kept (Upd.of_below (S := fun _ => False) hb) (fun _ _ _ h => h); have HD2 := Lib.hid (HD1.out.trans (hb.mono s1)); have s2 := hb.size; clear hO hb HP HD1)
        have tk3 := Lib.hid trivial
        go_wp2_with (go_at_call 11; clear tk3; refine (zz11 a1 A B (!a6) w2 hAB1 hB1).mono ?_; rintro e w3 ⟨f3, rfl, hO, hb⟩; have HO3 := Lib.hid hO; have HP3 : Hid (Opt w3 w.heap.size w1.heap.size _ _ _ _ _) := HP2.out.kept (Upd.of_below (S := fun _ => False) hb) (fun _ _ _ h => h); have HQ3 : Hid (Opt w3 w1.heap.size w2.heap.size _ _ _ _ _) := HQ.out.kept (Upd.of_below (S := fun _ => False) hb) (fun _ _ _ h => h); have HD3 := Lib.hid (HD2.out.trans (hb.mono (by omega))); have s3 := hb.size; clear hO hb HP2 HQ HD2)
        have tk4 := Lib.hid trivial
        go_wp2_with (go_at_call 9; clear tk4; refine (newc w3).mono ?_; rintro e w4 ⟨rfl, hw4⟩; have s4 : w3.heap.size < w4.heap.size := (by (rw [hw4]; simp)); have HC4 : Hid (Blk w4 w3.heap.size (comp (.map none)) 71) := (by (rw [hw4]; exact Blk.new _ _ _)); have hb : Below w3.heap.size w3 w4 := (by (rw [hw4]; exact (Below.refl _ _).alloc (Nat.le_refl _) _)); have HP4 : Hid (Opt w4 w.heap.size w1.heap.size _ _ _ _ _) := HP3.out.kept (Upd.of_below (S := fun _ => False) hb) (fun _ _ _ h => h); have HQ4 : Hid (Opt w4 w1.heap.size w2.heap.size _ _ _ _ _) := HQ3.out.kept (Upd.of_below (S := fun _ => False) hb) (fun _ _ _ h => h); have HO4 : Hid (Opt w4 w2.heap.size w3.heap.size _ _ _ _ _) := HO3.out.kept (Upd.of_below (S := fun _ => False) hb) (fun _ _ _ h => h); have HD4 := Lib.hid (HD3.out.trans (hb.mono (by omega))); clear hw4 hb HP3 HQ3 HO3 HD3)
        have tk5 := Lib.hid trivial
        go_wp2_with (go_at_call 10; clear tk5; refine (ap_first w4 w3.heap.size w.heap.size w1.heap.size f1 a0 a6 (mask.mask A B) .nilFunc HP4.out (.inl rfl) HC4.out HL.out (.inr (by omega))).mono ?_; rintro e w5 ⟨rfl, M, hR, hM, hu⟩; have HR5 := Lib.hid hR; have HP5 : Hid (Opt w5 w.heap.size w1.heap.size _ _ _ _ _) := HP4.out.kept hu (fun k g1 g2 (e : k = w3.heap.size) => by omega); have HQ5 : Hid (Opt w5 w1.heap.size w2.heap.size _ _ _ _ _) := HQ4.out.kept hu (fun k g1 g2 (e : k = w3.heap.size) => by omega); have HO5 : Hid (Opt w5 w2.heap.size w3.heap.size _ _ _ _ _) := HO4.out.kept hu (fun k g1 g2 (e : k = w3.heap.size) => by omega); have HD5 : Hid (Below w.heap.size w w5) := up_below HD4.out hu (fun k hk => by (have : k = w3.heap.size := hk); omega); clear hR hu HP4 HQ4 HO4 HD4 HC4)
        have tk6 := Lib.hid trivial
        go_wp2_with (go_at_call 10; clear tk6; refine (ap_new w5 w3.heap.size M 1 w2.heap.size w3.heap.size _ f3 a1 (!a6) (mask.mask A B) .nilFunc HO5.out (.inl rfl) HR5.out HL1.out ((put_ne _ _ _ _ (Ne.symm HK.out)).trans rfl) HN1.out).mono ?_; rintro e w6 ⟨rfl, hR, hu⟩; have HR6 := Lib.hid hR; have HP6 : Hid (Opt w6 w.heap.size w1.heap.size _ _ _ _ _) := HP5.out.kept hu (fun k g1 g2 (e : k = M) => by omega); have HQ6 : Hid (Opt w6 w1.heap.size w2.heap.size _ _ _ _ _) := HQ5.out.kept hu (fun k g1 g2 (e : k = M) => by omega); have HO6 : Hid (Opt w6 w2.heap.size w3.heap.size _ _ _ _ _) := HO5.out.kept hu (fun k g1 g2 (e : k = M) => by omega); have HD6 : Hid (Below w.heap.size w w6) := up_below HD5.out hu (fun k hk => by (have : k = M := hk); omega); clear hR hu HP5 HQ5 HO5 HD5 HR5)
        have tk7 := Lib.hid trivial
        go_wp2_with (go_at_call 10; clear tk7; refine (ap_merge w6 w3.heap.size M 2 w1.heap.size w2.heap.size _ f2 a0 a6 (mask.mask C D) (mask.mask A B) .nilFunc .nilFunc HQ6.out (.inl rfl) HR6.out HL.out ((put_ne _ _ _ _ HK.out).trans (put_at _ _ _)) (.inl rfl) HM2.out.1 HM1.out.1 HN.out).mono ?_; rintro e w7 ⟨rfl, cb, ⟨g, ps, rfl⟩, hR, hu⟩; have HR7 := Lib.hid hR; have HP7 : Hid (Opt w7 w.heap.size w1.heap.size _ _ _ _ _) := HP6.out.kept hu (fun k g1 g2 (e : k = M) => by omega); have HQ7 : Hid (Opt w7 w1.heap.size w2.heap.size _ _ _ _ _) := HQ6.out.kept hu (fun k g1 g2 (e : k = M) => by omega); have HO7 : Hid (Opt w7 w2.heap.size w3.heap.size _ _ _ _ _) := HO6.out.kept hu (fun k g1 g2 (e : k = M) => by omega); have HD7 : Hid (Below w.heap.size w w7) := up_below HD6.out hu (fun k hk => by (have : k = M := hk); omega); have g1 : w3.heap.size < w7.heap.size := hR.blk.lt; have g2 : M < w7.heap.size := hR.map.lt; clear hR hu HP6 HQ6 HO6 HD6 HR6)
        have tk8 := Lib.hid trivial
        go_wp2_with (go_at_call 9; clear tk8; refine (newc w7).mono ?_; rintro e w8 ⟨rfl, hw8⟩; have s8 : w7.heap.size < w8.heap.size := (by (rw [hw8]; simp)); have HC8 : Hid (Blk w8 w7.heap.size (comp (.map none)) 71) := (by (rw [hw8]; exact Blk.new _ _ _)); have hb : Below w7.heap.size w7 w8 := (by (rw [hw8]; exact (Below.refl _ _).alloc (Nat.le_refl _) _)); have HP8 : Hid (Opt w8 w.heap.size w1.heap.size _ _ _ _ _) := HP7.out.kept (Upd.of_below (S := fun _ => False) hb) (fun _ _ _ h => h); have HQ8 : Hid (Opt w8 w1.heap.size w2.heap.size _ _ _ _ _) := HQ7.out.kept (Upd.of_below (S := fun _ => False) hb) (fun _ _ _ h => h); have HO8 : Hid (Opt w8 w2.heap.size w3.heap.size _ _ _ _ _) := HO7.out.kept (Upd.of_below (S := fun _ => False) hb) (fun _ _ _ h => h); have HR8 : Hid (Reg w8 w3.heap.size M 3 _) := HR7.out.kept (Upd.of_below (S := fun _ => False) hb) id id; have HD8 := Lib.hid (HD7.out.trans (hb.mono (by omega))); clear hw8 hb HP7 HQ7 HO7 HD7 HR7)
        have tk9 := Lib.hid trivial
        go_wp2_with (go_at_call 10; clear tk9; refine (ap_first w8 w7.heap.size w1.heap.size w2.heap.size f2 a0 a6 (mask.mask C D) .nilFunc HQ8.out (.inl rfl) HC8.out HL.out (.inr (by omega))).mono ?_; rintro e w9 ⟨rfl, M2, hR, hM2, hu⟩; have HS9 := Lib.hid hR; have HP9 : Hid (Opt w9 w.heap.size w1.heap.size _ _ _ _ _) := HP8.out.kept hu (fun k g1 g2 (e : k = w7.heap.size) => by omega); have HO9 : Hid (Opt w9 w2.heap.size w3.heap.size _ _ _ _ _) := HO8.out.kept hu (fun k g1 g2 (e : k = w7.heap.size) => by omega); have HR9 : Hid (Reg w9 w3.heap.size M 3 _) := HR8.out.kept hu (Nat.ne_of_lt g1) (Nat.ne_of_lt g2); have HD9 : Hid (Below w.heap.size w w9) := up_below HD8.out hu (fun k hk => by (have : k = w7.heap.size := hk); omega); clear hR hu HP8 HQ8 HO8 HD8 HC8 HR8)
        have tk10 := Lib.hid trivial
        go_wp2_with (go_at_call 10; clear tk10; refine (ap_merge w9 w7.heap.size M2 1 w.heap.size w1.heap.size _ f1 a0 a6 (mask.mask A B) (mask.mask C D) .nilFunc .nilFunc HP9.out (.inl rfl) HS9.out HL.out (put_at _ _ _) (.inl rfl) HM1.out.1 HM2.out.1 HN1.out).mono ?_; rintro e w10 ⟨rfl, cb, ⟨g', ps', rfl⟩, hR, hu⟩; rw [HEQ.out] at hR; have HS10 := Lib.hid hR; have HO10 : Hid (Opt w10 w2.heap.size w3.heap.size _ _ _ _ _) := HO9.out.kept hu (fun k g1 g2 (e : k = M2) => by omega); have HR10 : Hid (Reg w10 w3.heap.size M 3 _) := HR9.out.kept hu (fun e => by (have : w3.heap.size = M2 := e); omega) (fun e => by (have : M = M2 := e); omega); have HD10 : Hid (Below w.heap.size w w10) := up_below HD9.out hu (fun k hk => by (have : k = M2 := hk); omega); clear hR hu HP9 HO9 HD9 HS9 HR9)
        have tk11 := Lib.hid trivial
        go_wp2_with (go_at_call 10; clear tk11; refine (ap_new w10 w7.heap.size M2 2 w2.heap.size w3.heap.size _ f3 a1 (!a6) (mask.mask A B) .nilFunc HO10.out (.inl rfl) HS10.out HL1.out ((put_ne _ _ _ _ (Ne.symm HK.out)).trans ((put_ne _ _ _ _ (Ne.symm HK.out)).trans rfl)) HN.out).mono ?_; rintro e w11 ⟨rfl, hR, hu⟩; have HS11 := Lib.hid hR; have HR11 : Hid (Reg w11 w3.heap.size M 3 _) := HR10.out.kept hu (fun e => by (have : w3.heap.size = M2 := e); omega) (fun e => by (have : M = M2 := e); omega); have HD11 : Hid (Below w.heap.size w w11) := up_below HD10.out hu (fun k hk => by (have : k = M2 := hk); omega); clear hR hu HO10 HD10 HS10 HR10)
        have tk12 := Lib.hid trivial
        go_wp2_with (go_at_call 12; clear tk12; refine (func_some w11 w3.heap.size M 3 _ a0 a6 (mask.mask C D ||| mask.mask A B) g ps HR11.out HL.out (put_at _ _ _)).mono ?_; rintro e w12 ⟨rfl, hb⟩; have HR12 : Hid (Reg w12 w3.heap.size M 3 _) := HR11.out.kept (Upd.of_below (S := fun _ => False) hb) id id; have HS12 : Hid (Reg w12 w7.heap.size M2 3 _) := HS11.out.kept (Upd.of_below (S := fun _ => False) hb) id id; have HD12 := Lib.hid (HD11.out.trans (hb.mono HD11.out.size)); clear hb HD11 HR11 HS11)
        have tk13 := Lib.hid trivial
        go_wp2_with (go_at_call 12; clear tk13; refine (func_some w12 w7.heap.size M2 3 _ a0 a6 (mask.mask C D ||| mask.mask A B) g' ps' HS12.out HL.out ((put_ne _ _ _ _ HK.out).trans (put_at _ _ _))).mono ?_; rintro e w13 ⟨rfl, hb⟩; have HR13 : Hid (Reg w13 w3.heap.size M 3 _) := HR12.out.kept (Upd.of_below (S := fun _ => False) hb) id id; have HS13 : Hid (Reg w13 w7.heap.size M2 3 _) := HS12.out.kept (Upd.of_below (S := fun _ => False) hb) id id; have HD13 := Lib.hid (HD12.out.trans (hb.mono HD12.out.size)); clear hb HD12 HR12 HS12)
        have tk14 := Lib.hid trivial
        go_wp2_with (go_at_call 14; clear tk14; refine (ranges (mask.mask C D ||| mask.mask A B) A B C D _ HBT.out hB1 hB2 hAB1 hAB2).mono ?_; rintro e w14 ⟨rfl, rfl⟩)
        have tk15 := Lib.hid trivial
        go_wp2_with (go_at_call 12; clear tk15; refine (func_nil w13 w3.heap.size M 3 _ a1 (!a6) (mask.mask A B) HR13.out HL1.out ((put_ne _ _ _ _ (Ne.symm HK.out)).trans (put_at _ _ _))).mono ?_; rintro e w14 ⟨rfl, hb⟩; have HR14 : Hid (Reg w14 w3.heap.size M 3 _) := HR13.out.kept (Upd.of_below (S := fun _ => False) hb) id id; have HS14 : Hid (Reg w14 w7.heap.size M2 3 _) := HS13.out.kept (Upd.of_below (S := fun _ => False) hb) id id; have HD14 := Lib.hid (HD13.out.trans (hb.mono HD13.out.size)); clear hb HD13 HR13 HS13)
        have tk16 := Lib.hid trivial
        go_wp2_with (go_at_call 14; clear tk16; refine (ranges (mask.mask A B) A B A B _ HB2.out hB1 hB1 hAB1 hAB1).mono ?_; rintro e w15 ⟨rfl, rfl⟩)
        have tk17 := Lib.hid trivial
        go_wp2_with (go_at_call 13; clear tk17; refine (count w14 w3.heap.size M 3 _ [a0.data.toList, a1.data.toList] HR14.out (by simp [HK.out]) (two_mem _ _ _ .nilFunc (fun x h1 h2 => by (rw [put_ne _ _ _ _ h1, put_ne _ _ _ _ h2, put_ne _ _ _ _ h1])) (by (rw [put_at]; rfl)) (by (rw [put_ne _ _ _ _ (Ne.symm HK.out), put_at]; rfl)))).mono ?_; rintro e w15 ⟨rfl, rfl⟩; clear HR14)
        have tk18 := Lib.hid trivial
        go_wp2_with (go_at_call 13; clear tk18; refine (count w14 w7.heap.size M2 3 _ [a0.data.toList, a1.data.toList] HS14.out (by simp [HK.out]) (two_mem _ _ _ .nilFunc (fun x h1 h2 => by (rw [put_ne _ _ _ _ h2, put_ne _ _ _ _ h1, put_ne _ _ _ _ h1])) (by (rw [put_ne _ _ _ _ HK.out, put_at]; rfl)) (by (rw [put_at]; rfl)))).mono ?_; rintro e w15 ⟨rfl, rfl⟩)
        go_ret
        exact ⟨rfl, HD14.out⟩
    · have HV2 := Lib.hid (fun w => invalid a4 a5 w hv2)
      obtain ⟨h0, h1, h2⟩ := hv1
      obtain ⟨A, rfl⟩ := Int.eq_ofNat_of_zero_le h0
      obtain ⟨B, rfl⟩ := Int.eq_ofNat_of_zero_le (show 0 ≤ a3 by omega)
      have hAB1 : A ≤ B := by omega
      have hB1 : B ≤ 30 := by omega
      have HV1 := Lib.hid (fun w => valid (A : Int) (B : Int) w h0 h1 h2)
      have HM1 := Lib.hid (mask_bits A B hAB1 hB1)
      clear h0 h1 h2
      clear hv2
      go_enter Tryf.func6, Tryf.ntmps6
      go_wp2_with (first | (go_at_call 19; refine HZ.out.mono ?_; rintro e w1 ⟨b, rfl, rfl⟩) | (go_at_call 8; refine (HV1.out _).mono ?_; clear HV1; rintro e w1 ⟨rfl, rfl⟩) | (go_at_call 8; refine (HV2.out _).mono ?_; clear HV2; rintro e w1 ⟨rfl, rfl⟩))
      all_goals (go_ret; exact ⟨rfl, Below.refl _ _⟩)
  · have HV1 := Lib.hid (fun w => invalid a2 a3 w hv1)
    clear hv1
    go_enter Tryf.func6, Tryf.ntmps6
    go_wp2_with (first | (go_at_call 19; refine HZ.out.mono ?_; rintro e w1 ⟨b, rfl, rfl⟩) | (go_at_call 8; refine (HV1.out _).mono ?_; clear HV1; rintro e w1 ⟨rfl, rfl⟩))
    all_goals (go_ret; exact ⟨rfl, Below.refl _ _⟩)
end Go.Proofs.YtenkhaopiiokmaaFmt.fnWithFunctionMergeIsUnionOrderFree
