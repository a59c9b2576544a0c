/- The walk of the law FnFuncNotFoundErrorParsesBack: it returns true at every input, where the library's table is as its text lays it. -/
import Derived.Test.YtighdhgfdhgljaaDoorErr
set_option linter.unusedVariables false
namespace Go.Proofs.YtighdhgfdhgljaaDoor.fnFuncNotFoundErrorParsesBack
open Go.ChangeShapes Go.WideShapes Go.ChangeAt Go.RowKit
open plain err

def SomeBool (w : World) (e : Ending) (w' : World) : Prop := ∃ b, e = .returned (.bool b) ∧ w = w'
theorem zb4 (s : ByteArray) (n : Int) (w : World) (hn : s.size ≤ 9223372036854775807) : Calls Tryd.prog 4 #[.string s, .int .i64 n] w (SomeBool w) := by
  go_enter Tryd.func4, Tryd.ntmps4
  go_wp2_with fail
  all_goals (go_ret; exact ⟨_, rfl, rfl⟩)
theorem pre6 (s : ByteArray) (w : World) (h : 22 ≤ s.size) (hz : s.size ≤ 9223372036854775807) (he : (s.extract 0 22).toList = P.toList) : Calls Tryd.prog 6 #[.string s, .string ⟨#[102, 117, 110, 99, 116, 105, 111, 110, 32, 110, 111, 116, 32, 100, 101, 102, 105, 110, 101, 100, 58, 32]⟩] w fun e w' => e = .returned (.bool true) ∧ w = w' := by
  obtain ⟨p, hp⟩ : ∃ p : ByteArray, p = ⟨#[102, 117, 110, 99, 116, 105, 111, 110, 32, 110, 111, 116, 32, 100, 101, 102, 105, 110, 101, 100, 58, 32]⟩ := ⟨_, rfl⟩
  have he2 : ((s.extract 0 22).toList == p.toList) = true := by rw [he, hp]; exact beq_self_eq_true _
  have hps : p.size = 22 := by rw [hp]; rfl
  have he3 : ((s.extract 0 p.size).toList == p.toList) = true := by rw [hps]; exact he2
  have hpl : p.size ≤ s.size := by omega
  have hpi : (p.size : Int) ≤ s.size := by omega
  rw [← hp]
  clear he hp hps he2
  go_enter Tryd.func6, Tryd.ntmps6
  go_wp2_with fail
  go_ret
  exact ⟨rfl, rfl⟩
theorem five (q n cap : Nat) (a : Option Addr) (name : ByteArray) (B : Nat) (w : World) (hT : Tab B w) (hB : B ≤ w.heap.size) (h0 : w.cell? ⟨q, 0, none⟩ = some (.string name)) (h1 : w.cell? ⟨q, 1, none⟩ = some (.slice a n cap))
    (hql : q < w.heap.size) (hn : n ≤ 65536) (hz : name.size ≤ 524288) :
    Calls Tryd.prog 5 #[.pointer (some ⟨q, 0, none⟩)] w fun e w' => e = .returned (.string (M name (Lib.decDigits n))) ∧ Below w.heap.size w w' := by
  have hqn : q ≠ w.heap.size := by omega
  have HE := Lib.hid (error7 w.heap.size q n cap a name B (w.alloc (.cells #[.pointer (some ⟨q, 0, none⟩)] 31)) (hT.on ((Below.refl _ _).alloc hB _)) (by simp; omega) (by simp) ((((Below.refl w.heap.size w).alloc (Nat.le_refl _) _).cell (p := ⟨q, 0, none⟩) hql).trans h0) ((((Below.refl w.heap.size w).alloc (Nat.le_refl _) _).cell (p := ⟨q, 1, none⟩) hql).trans h1) (by simp) (by simp; omega) hn hz)
  clear hT h0 h1
  go_enter Tryd.func5, Tryd.ntmps5
  go_wp2_with (go_at_call 7; refine HE.out.mono ?_; rintro e w1 ⟨rfl, hb⟩)
  go_ret
  exact ⟨rfl, ((Below.refl _ _).alloc (Nat.le_refl _) _).trans (hb.mono (by simp))⟩
theorem info67 : (Tryd.prog.info? 67).map (fun i => (i.zero, i.size, i.bytes)) = some (some (.pointer none), 1, 8) := by kernel_rfl

set_option maxRecDepth 100000 in
set_option maxHeartbeats 4000000 in
theorem walk (a0 : ByteArray) (a1 : Int) (w : World) (hT : Tab w.heap.size w) (w0 : a0.size ≤ maxLen) (w1 : (Lit.int .i64 a1).wf = true) :
    Calls Tryd.prog 3 #[.string a0, .int .i64 a1] w fun e w' => e = .returned (.bool true) ∧ Below w.heap.size w w' := by
  unfold maxLen at w0
  have HZ := Lib.hid (zb4 a0 a1 w w0)
  have HT := Lib.hid hT
  clear hT w1
  by_cases hb0 : 524288 < a0.size
  · have hb' : (524288 : Int) < a0.size := by omega
    go_enter Tryd.func3, Tryd.ntmps3
    go_wp2_with (go_at_call 4; refine HZ.out.mono ?_; rintro e w1 ⟨b, rfl, rfl⟩)
    all_goals (go_ret; exact ⟨rfl, Below.refl _ _⟩)
  have hz : a0.size ≤ 524288 := by omega
  by_cases hb1 : a1 < 0
  · go_enter Tryd.func3, Tryd.ntmps3
    go_wp2_with (go_at_call 4; refine HZ.out.mono ?_; rintro e w1 ⟨b, rfl, rfl⟩)
    all_goals (go_ret; exact ⟨rfl, Below.refl _ _⟩)
  by_cases hb2 : 65536 < a1
  · go_enter Tryd.func3, Tryd.ntmps3
    go_wp2_with (go_at_call 4; refine HZ.out.mono ?_; rintro e w1 ⟨b, rfl, rfl⟩)
    all_goals (go_ret; exact ⟨rfl, Below.refl _ _⟩)
  obtain ⟨n, rfl⟩ : ∃ n : Nat, a1 = n := ⟨a1.toNat, by omega⟩
  have hn : n ≤ 65536 := by omega
  clear hb0 hb1 hb2 w0
  obtain ⟨i0, hi, hz0, hz1, hz2⟩ := info_parts info67
  have hdl : (Lib.decDigits n).length ≤ 21 := by have := Lib.itoa_length_le (n : Int) (by omega) (by omega); rwa [Lib.itoa_nonneg] at this
  have hdp := dig_pos n
  have HDA := Lib.hid (dig_all n); have HDH := Lib.hid (dig_head n); have HDV := Lib.hid (dig_val n)
  obtain ⟨ds, hds⟩ : ∃ ds, ds = Lib.decDigits n := ⟨_, rfl⟩
  obtain ⟨msg, hmsg⟩ : ∃ m, m = M a0 ds := ⟨_, rfl⟩
  obtain ⟨rest, hrest⟩ : ∃ r, r = R a0 ds := ⟨_, rfl⟩
  obtain ⟨dd, hdd⟩ : ∃ d : ByteArray, d = ⟨ds.toArray⟩ := ⟨_, rfl⟩
  rw [← hds] at hdl hdp HDA HDH HDV
  have hms : msg.size = 22 + rest.size := by rw [hmsg, hrest]; exact M_size a0 ds
  have hrs : rest.size = a0.size + 1 + dd.size := by rw [hrest, hdd]; exact R_size a0 ds
  have hdz : dd.size = ds.length := by rw [hdd, Lib.size_eq]
  have HP := Lib.hid (pre6 msg · (by omega) (by omega) (by rw [hmsg]; exact M_pre a0 ds))
  have e1 : msg.extract 22 (22 + rest.size) = rest := by rw [← hms, hmsg, hrest]; exact M_rest a0 ds
  have e2 : rest.extract 0 a0.size = a0 := by rw [hrest]; exact R_name a0 ds
  have e3 : rest.extract (a0.size + 1) rest.size = dd := by rw [hrest, hdd]; exact R_digits a0 ds
  have HR1 : Hid (∀ (h : a0.size < rest.size), rest[a0.size] = 47) := by unfold Hid; rw [hrest]; exact R_slash a0 ds
  have HR2 : Hid (∀ i (h : i < rest.size), a0.size < i → rest[i] ≠ 47) := by unfold Hid; rw [hrest]; exact fun i h hi => R_behind a0 ds i h hi HDA.out
  have HDI : Hid (∀ i (h : i < dd.size), ds[i]? = some dd[i]) := by
    unfold Hid; subst hdd; intro i h
    rw [List.getElem?_eq_getElem (by rw [← hdz]; exact h)]; rfl
  have HRS := Lib.hid hrs
  have hrl : a0.size < rest.size := by omega
  have hrz : rest.size ≤ 600000 := by have := HRS.out; omega
  have hdd2 : dd.size ≤ 21 := by omega
  have hdd1 : 0 < dd.size := by omega
  clear hrs
  have HMS := Lib.hid hmsg; have HDS := Lib.hid hds
  clear hmsg hrest hdd hds
  go_enter Tryd.func3, Tryd.ntmps3
  go_wp2_with (first | (go_at_call 4; refine HZ.out.mono ?_; rintro e w1 ⟨b, rfl, rfl⟩) | (at_make; refine wpList_make_full _ rfl _ _ 24 rfl w.heap.size 67 i0 (.pointer none) 1 Tryd.underlying24 hi hz0 hz1 .i64 .i64 _ _ n rfl rfl rfl rfl (by rw [hz2]; omega) (by unfold maxLen; omega) (Nat.le_refl _) ?_; intro w2 hown hgrow; have hb2 : Hid (Below w.heap.size w w2) := (Below.refl _ _).grown hgrow (Nat.le_refl _) (fun k hk => by cases hk); clear hown hgrow) | (go_at_call 5; refine (five w2.heap.size n n (some ⟨w.heap.size, 0, none⟩) a0 w.heap.size (w2.alloc (.cells #[.string a0, .slice (some ⟨w.heap.size, 0, none⟩) n n] 26)) (HT.out.on (hb2.out.alloc hb2.out.size _)) (by have := hb2.out.size; simp; omega) (by simp) (by simp) (by simp) hn hz).mono ?_; rintro e w3 ⟨rfl, hb3⟩; rw [← HDS.out, ← HMS.out]; have HB3 : Hid (Below w.heap.size w w3) := (hb2.out.alloc hb2.out.size _).trans (hb3.mono (by have := hb2.out.size; simp; omega)); clear hb3) | (go_at_call 6; refine (HP.out _).mono ?_; rintro e w4 ⟨rfl, rfl⟩))
  · go_ret
    exact ⟨rfl, Below.refl _ _⟩
  clear HP HZ HT HMS HDS e1 hms
  have hdd3 : (0 : Int) < dd.size := by omega
  have HE2 := Lib.hid e2; have HE3 := Lib.hid e3; have HDZ := Lib.hid hdz
  clear e2 e3 hdz hdl hdp
  go_loop [8, 9] (fun s i => ∃ j : Nat, a0.size < j ∧ j ≤ rest.size ∧ s = .int .i64 (-1) ∧ i = .int .i64 ((j : Int) - 1)) (fun _ i => (intOf i + 1).toNat)
  case atStart => exact ⟨rest.size, hrl, Nat.le_refl _, rfl, rfl⟩
  case round =>
    obtain ⟨j, hj1, hj2, rfl, rfl⟩ := hrel
    obtain ⟨m, rfl⟩ : ∃ m, j = m + 1 := ⟨j - 1, by omega⟩
    have em : (((m + 1 : Nat) : Int) - 1) = m := by omega
    rw [em]
    have hml : m < rest.size := by omega
    have hmi : (m : Int) < rest.size := by omega
    have hm0 : (0 : Int) ≤ m := by omega
    clear em
    by_cases hm : a0.size < m
    · have h47 : ((rest[m].toNat : Int) == 47) = false := by
        have := HR2.out m hml hm
        refine beq_eq_false_iff_ne.mpr (fun e => this ?_)
        have e' : rest[m].toNat = 47 := by omega
        exact UInt8.toNat_inj.1 (by rw [e']; rfl)
      go_wp2_with fail
      go_round
      case rel => exact ⟨m, hm, by omega, rfl, rfl⟩
      case measure => simp [intOf] <;> omega
    · obtain rfl : m = a0.size := by omega
      have h47 : ((rest[a0.size].toNat : Int) == 47) = true := by rw [HR1.out hml]; rfl
      have hsl : ((a0.toList == a0.toList) = true) := beq_self_eq_true _
      have hq1 : (0 : Int) ≤ a0.size := by omega
      have hq2 : ¬ ((a0.size : Int) < 0) := by omega
      have hd0 : ((dd.size : Int) == 0) = false := beq_eq_false_iff_ne.mpr (by omega)
      clear hm
      have e2 := HE2.out; have e3 := HE3.out
      by_cases hone : 1 < dd.size
      · have h48 : ((dd[0].toNat : Int) == 48) = false := by
          refine beq_eq_false_iff_ne.mpr (fun e => ?_)
          have := HDH.out (by rw [← HDZ.out]; exact hone) dd[0] (HDI.out 0 hdd1)
          omega
        have hone1 : (1 : Int) < dd.size := by omega
        go_wp2_with fail
        all_goals
          clear HR1 HR2 HE2 HE3 e2 e3 h47 hsl
          go_loop [11, 12] (fun v i => ∃ k : Nat, k ≤ dd.size ∧ i = .int .i64 k ∧ v = .int .i64 ((val (ds.take k) : Nat) : Int)) (fun _ i => dd.size - (intOf i).toNat)
          case atStart => exact ⟨0, Nat.zero_le _, rfl, rfl⟩
          case round =>
            obtain ⟨k, hk, rfl, rfl⟩ := hrel
            by_cases hlt : k < dd.size
            · have hd := HDI.out k hlt
              have hda := HDA.out dd[k] (List.mem_of_getElem? hd)
              have hkl : k < ds.length := by rw [← HDZ.out]; exact hlt
              have hts : ds.take (k + 1) = ds.take k ++ [dd[k]] := by
                rw [List.take_add_one, hd]; rfl
              have hvs : val (ds.take (k + 1)) = val (ds.take k) * 10 + (dd[k].toNat - 48) := by rw [hts, val_snoc]
              have hv1 : val (ds.take k) ≤ n := by have := val_take_le ds k; rw [HDV.out] at this; exact this
              have hv2 : val (ds.take (k + 1)) ≤ n := by have := val_take_le ds (k + 1); rw [HDV.out] at this; exact this
              obtain ⟨v, hv⟩ : ∃ v, v = val (ds.take k) := ⟨_, rfl⟩
              rw [← hv] at hvs hv1 ⊢
              have HVS := Lib.hid hvs; have HV := Lib.hid hv
              have h10 : (v : Int) * 10 + ((dd[k].toNat : Int) - 48) ≤ 65536 := by have := HVS.out; omega
              have hc1 : (48 : Int) ≤ dd[k].toNat := by omega
              have hc2 : (dd[k].toNat : Int) ≤ 57 := by omega
              have hki : (k : Int) < dd.size := by omega
              clear hd hts hvs hv hda
              go_wp2_with fail
              go_round
              case rel => exact ⟨k + 1, by omega, by go_num, by rw [HVS.out]; congr 1; omega⟩
              case measure => simp [intOf] <;> omega
            · obtain rfl : k = dd.size := by omega
              have hvn : val (ds.take dd.size) = n := by rw [List.take_of_length_le (by rw [HDZ.out]; exact Nat.le_refl _)]; exact HDV.out
              rw [hvn]
              go_wp2_with fail
              go_ret
              exact ⟨by simp, HB3.out⟩
      · have hone1 : ¬ (1 : Int) < dd.size := by omega
        have hone2 : dd.size ≤ 1 := by omega
        go_wp2_with fail
        all_goals
          clear HR1 HR2 HE2 HE3 e2 e3 h47 hsl
          go_loop [11, 12] (fun v i => ∃ k : Nat, k ≤ dd.size ∧ i = .int .i64 k ∧ v = .int .i64 ((val (ds.take k) : Nat) : Int)) (fun _ i => dd.size - (intOf i).toNat)
          case atStart => exact ⟨0, Nat.zero_le _, rfl, rfl⟩
          case round =>
            obtain ⟨k, hk, rfl, rfl⟩ := hrel
            by_cases hlt : k < dd.size
            · have hd := HDI.out k hlt
              have hda := HDA.out dd[k] (List.mem_of_getElem? hd)
              have hkl : k < ds.length := by rw [← HDZ.out]; exact hlt
              have hts : ds.take (k + 1) = ds.take k ++ [dd[k]] := by
                rw [List.take_add_one, hd]; rfl
              have hvs : val (ds.take (k + 1)) = val (ds.take k) * 10 + (dd[k].toNat - 48) := by rw [hts, val_snoc]
              have hv1 : val (ds.take k) ≤ n := by have := val_take_le ds k; rw [HDV.out] at this; exact this
              have hv2 : val (ds.take (k + 1)) ≤ n := by have := val_take_le ds (k + 1); rw [HDV.out] at this; exact this
              obtain ⟨v, hv⟩ : ∃ v, v = val (ds.take k) := ⟨_, rfl⟩
              rw [← hv] at hvs hv1 ⊢
              have HVS := Lib.hid hvs; have HV := Lib.hid hv
              have h10 : (v : Int) * 10 + ((dd[k].toNat : Int) - 48) ≤ 65536 := by have := HVS.out; omega
              have hc1 : (48 : Int) ≤ dd[k].toNat := by omega
              have hc2 : (dd[k].toNat : Int) ≤ 57 := by omega
              have hki : (k : Int) < dd.size := by omega
              clear hd hts hvs hv hda
              go_wp2_with fail
              go_round
              case rel => exact ⟨k + 1, by omega, by go_num, by rw [HVS.out]; congr 1; omega⟩
              case measure => simp [intOf] <;> omega
            · obtain rfl : k = dd.size := by omega
              have hvn : val (ds.take dd.size) = n := by rw [List.take_of_length_le (by rw [HDZ.out]; exact Nat.le_refl _)]; exact HDV.out
              rw [hvn]
              go_wp2_with fail
              go_ret
              exact ⟨by simp, HB3.out⟩
end Go.Proofs.YtighdhgfdhgljaaDoor.fnFuncNotFoundErrorParsesBack
