/- zzBuild (f30): the compiler with the scopes that are described. -/
import Derived.Test.YtmfpmpbilekbgaaModel
import Derived.StillTailTactics
set_option linter.unusedVariables false
namespace Go.Proofs.Ytmfpmpbilekbgaa.build
open Go.ChangeShapes Go.WideShapes Go.ChangeAt Go.RowKit
open upd comp grow add lookv var newc push wrap pushv lookf doors zs guard model

/-- the compiler at the statements' own number: its scopes are L -/
def At (base : Nat) (w0 : World) (col0 : Nat → Nat) (bb : Nat) (L : List Sc) (cnt : Int) (w : World) : Prop := Now base w0 col0 base (.slice none 0 0) bb ⟨0, [], []⟩ L cnt w
/-- ahead of round k -/
def Done (base : Nat) (w0 : World) (col0 : Nat → Nat) (bb : Nat) (D : List Zs) (k : Nat) (w : World) : Prop :=
  (k = 0 ∧ At base w0 col0 bb [⟨1, [], []⟩] 2 w) ∨ (0 < k ∧ At base w0 col0 bb (scs D k) ((k : Int) + 1) w)

set_option maxRecDepth 100000 in
set_option maxHeartbeats 4000000 in
theorem build (w : World) (v : Value) (D : List Zs) (h : ZsRow w v D) (hD : D.length ≤ 1048576) (hs : ShortTo D D.length) (h0 : 0 < D.length) :
    Calls Try.prog 30 #[v] w fun e w' => e = .returned (.pointer (some ⟨w.heap.size, 0, none⟩)) ∧ (∃ col bb sv bs, CompAt w.heap.size w' col w.heap.size (.slice none 0 0) bb sv bs ⟨0, [], []⟩ (scs D D.length) ((D.length : Int) + 1)) ∧ Below w.heap.size w w' := by
  obtain ⟨a, cp, rfl, hc, hcm, hat⟩ := zs_open h
  obtain ⟨n, hn⟩ : ∃ n, n = D.length := ⟨_, rfl⟩
  have HPC := Lib.hid (pc_small D hs)
  rw [← hn] at hs hc hD h0 ⊢
  have HN := Lib.hid hn
  have HC := Lib.hid hat
  have HSH := Lib.hid hs
  clear h hat hn hs
  unfold maxLen at hcm
  go_enter Try.func30, Try.ntmps30
  go_wp2_with fail
  go_at_call 16
  refine (newc.newComp w).mono ?_
  rintro e w0 ⟨rfl, ⟨col0, bb, sv0, bs0, hC0⟩, hB0⟩
  obtain ⟨base, hbase⟩ : ∃ base, base = w.heap.size := ⟨_, rfl⟩
  rw [← hbase] at hC0 ⊢
  have HBS := Lib.hid hbase
  have HB0 := Lib.hid hB0
  have HW0 : Hid (base ≤ w0.heap.size) := by unfold Hid; rw [hbase]; exact hB0.size
  have HD0 : Hid (Done base w0 col0 bb D 0 w0) := .inl ⟨rfl, col0, sv0, bs0, ⟨fun _ _ => rfl, Upd.refl _ _⟩, hC0⟩
  clear hbase hB0 hC0
  go_wp2_with fail
  go_loopw [4, 5, 6, 7, 8] (fun p i _ _ _ wr => ∃ k : Nat, k ≤ n ∧ p = .int .i64 (pcAt D k) ∧ i = .int .i64 k ∧ Hid (Done base w0 col0 bb D k wr)) (fun _ i _ _ _ _ => n - (intOf i).toNat)
  case atStart => exact ⟨0, Nat.zero_le _, rfl, rfl, HD0⟩
  case round =>
    obtain ⟨k, hk, rfl, rfl, HR⟩ := hrel
    clear HD0
    by_cases hlt : k < n
    · obtain ⟨z, hz⟩ : ∃ z, D[k]? = some z := ⟨_, List.getElem?_eq_getElem (by have := HN.out; omega)⟩
      obtain ⟨x, rfl, v1, v2, v3, h1, h2, h3, h4, h5, h6⟩ := HC.out k z hz
      have hsh := HSH.out k z hlt hz
      have hpc := HPC.out k (by have := HN.out; omega)
      have HZ := Lib.hid hz
      have HX := Lib.hid h1
      have H2 := Lib.hid h2
      have H3 := Lib.hid h3
      have H4 := Lib.hid h4
      have H5 := Lib.hid h5
      have H6 := Lib.hid h6
      have HSZ := Lib.hid hsh
      have hpk : pcAt D k ≤ 1099511627776 := by omega
      obtain ⟨pc, hpcv⟩ : ∃ pc, pc = pcAt D k := ⟨_, rfl⟩
      have HPV := Lib.hid hpcv
      rw [← hpcv] at hpk ⊢
      have HPUSH : Hid (0 < k → Calls Try.prog 48 #[.pointer (some ⟨base, 0, none⟩)] wr fun e w' => e = .returned (.tuple #[]) ∧ At base w0 col0 bb (scs D k ++ [⟨(k : Int) + 1, [], []⟩]) ((k : Int) + 2) w') := by
        unfold Hid; intro hk0
        rcases HR.out with ⟨h, _⟩ | ⟨_, hA⟩
        · omega
        · refine (pushN hA HW0.out (by rw [scs_len]; omega) (by omega) (by omega)).mono fun e w' ⟨q1, q2⟩ => ⟨q1, ?_⟩
          have e2 : (k : Int) + 1 + 1 = (k : Int) + 2 := by omega
          rw [e2] at q2; exact q2
      have HZERO : Hid (k = 0 → At base w0 col0 bb (scs D k ++ [⟨(k : Int) + 1, [], []⟩]) ((k : Int) + 2) wr) := by
        unfold Hid; rintro rfl
        rcases HR.out with ⟨_, hA⟩ | ⟨h, _⟩
        · exact hA
        · omega
      have HBEL : Hid (∀ w1, At base w0 col0 bb (scs D k ++ [⟨(k : Int) + 1, [], []⟩]) ((k : Int) + 2) w1 → Below w.heap.size w w1) := fun w1 h => by
        have := HB0.out.trans (by have := now_below h HW0.out; rwa [HBS.out] at this); exact this
      clear h1 h2 h3 h4 h5 h6 hz hpcv hsh hpc HC HSH HPC HR
      have HA1 : Hid (∀ w1, At base w0 col0 bb (scs D k ++ [⟨(k : Int) + 1, [], []⟩]) ((k : Int) + 2) w1 → w1.cell? (x.add (k * 3)) = some v1 ∧ w1.cell? ⟨(x.add (k * 3)).block, (x.add (k * 3)).off + 1, none⟩ = some v2 ∧ w1.cell? ⟨(x.add (k * 3)).block, (x.add (k * 3)).off + 2, none⟩ = some v3) := fun w1 h => by
        have hb := HBEL.out w1 h
        have e2 := cell_kept hb H2.out
        have e3 := cell_kept hb H3.out
        rw [guard.add_succ x (k * 3) 0] at e2
        rw [guard.add_succ x (k * 3) 1] at e3
        exact ⟨cell_kept hb HX.out, e2, e3⟩
      obtain ⟨va, vc, rfl, hv1, hv2, hva⟩ := str_open H4.out
      obtain ⟨fa, fc, rfl, hf1, hf2, hfa⟩ := str_open H5.out
      obtain ⟨ra, rc, rfl, hr1, hr2, hra⟩ := int_open H6.out
      obtain ⟨vn, hvn⟩ : ∃ vn, vn = z.vars.length := ⟨_, rfl⟩
      obtain ⟨fn, hfn⟩ : ∃ fn, fn = z.funcs.length := ⟨_, rfl⟩
      obtain ⟨rn, hrn⟩ : ∃ rn, rn = z.ars.length := ⟨_, rfl⟩
      rw [← hvn] at hv1 HX HA1 
      rw [← hfn] at hf1 H2 HA1
      rw [← hrn] at hr1 H3 HA1
      have HRW : Hid (IntRow w (.slice ra rn rc) z.ars) := by unfold Hid; rw [hrn]; exact H6.out
      have HV := Lib.hid hva
      have HF := Lib.hid hfa
      have HVN := Lib.hid hvn
      have HFN := Lib.hid hfn
      have HRN := Lib.hid hrn
      unfold maxLen at hv2 hf2 hr2
      clear hva hfa hra hvn hfn hrn H4 H5 H6 HX H2 H3
      by_cases hk0 : 0 < k
      · go_wp2_with fail
        go_at_call 48
        refine (HPUSH.out hk0).mono ?_
        rintro e w1 ⟨rfl, hA⟩
        obtain ⟨g1, g2, g3⟩ := HA1.out w1 hA
        have HA := Lib.hid hA
        clear hA HZERO HPUSH HBEL HA1
        go_wp2_with fail
        obtain ⟨W, hW⟩ : ∃ W, W = w1.alloc (Obj.cells #[Value.slice va vn vc, Value.slice fa fn fc, Value.slice ra rn rc] 59) := ⟨_, rfl⟩
        obtain ⟨S, hS⟩ : ∃ S, S = w1.heap.size := ⟨_, rfl⟩
        rw [← hW, ← hS]
        obtain ⟨colA, svA, bsA, hNA, hCA⟩ := HA.out
        have huW : Upd (fun _ => False) w1 W := by rw [hW]; exact (Upd.refl _ _).alloc _
        have HUW := Lib.hid huW
        have HBK : Hid (Blk W S #[.slice va vn vc, .slice fa fn fc, .slice ra rn rc] 59) := by unfold Hid; rw [hW, hS]; exact Blk.new _ _ _
        have HNA := Lib.hid hNA
        have HI : Hid (Now base W (cut colA w1.heap.size) base (.slice none 0 0) bb ⟨0, [], []⟩ (scs D k ++ [⟨(k : Int) + 1, z.vars.take 0, []⟩]) ((k : Int) + 2) W) := enterU hCA huW
        have HWB : Hid (base ≤ W.heap.size) := Nat.le_trans HW0.out (Nat.le_trans hNA.upd.size huW.size)
        have HKEEP : Hid (∀ L cnt w2, Now base W (cut colA w1.heap.size) base (.slice none 0 0) bb ⟨0, [], []⟩ L cnt w2 → Blk w2 S #[.slice va vn vc, .slice fa fn fc, .slice ra rn rc] 59) := fun L cnt w2 h => keepU h HBK.out (by rw [hS]; exact Nat.le_refl _)
        have HLEAVE : Hid (∀ L cnt w2, Now base W (cut colA w1.heap.size) base (.slice none 0 0) bb ⟨0, [], []⟩ L cnt w2 → At base w0 col0 bb L cnt w2) := fun L cnt w2 h => now_trans HNA.out (leaveU h HUW.out)
        have HBW : Hid (∀ L cnt w2, Now base W (cut colA w1.heap.size) base (.slice none 0 0) bb ⟨0, [], []⟩ L cnt w2 → Below w.heap.size w w2) := fun L cnt w2 h => HB0.out.trans (by have := now_below (HLEAVE.out L cnt w2 h) HW0.out; rwa [HBS.out] at this)
        generalize hcolW : cut colA w1.heap.size = colW at HI HKEEP HLEAVE HBW
        clear hcolW hW hS hNA hCA huW HUW HBK HNA HA g1 g2 g3
        go_loopw [7] (fun i wr => ∃ j : Nat, j ≤ vn ∧ i = .int .i64 j ∧ Hid (Now base W colW base (.slice none 0 0) bb ⟨0, [], []⟩ (scs D k ++ [⟨(k : Int) + 1, z.vars.take j, []⟩]) ((k : Int) + 2) wr)) (fun i _ => vn - (intOf i).toNat)
        case atStart => exact ⟨0, Nat.zero_le _, rfl, HI⟩
        case round =>
          obtain ⟨j, hj, rfl, HJ⟩ := hrel
          clear HI
          have hbk := HKEEP.out _ _ _ HJ.out
          have b0 : wr.cell? ⟨S, 0, none⟩ = some (.slice va vn vc) := by rw [hbk.cell]; rfl
          by_cases hjl : j < vn
          · obtain ⟨s, hs⟩ : ∃ s, z.vars[j]? = some s := ⟨_, List.getElem?_eq_getElem (by have := HVN.out; omega)⟩
            obtain ⟨x2, rfl, c0, _⟩ := HV.out j s hs
            have c1 := cell_kept (HBW.out _ _ _ HJ.out) c0
            have lS := hbk.lt
            have hs2 := HVN.out
            have hs3 := HSZ.out.1
            have hlen : (z.vars.take j).length ≤ 2097152 := by rw [List.length_take]; omega
            have HCALL := Lib.hid (createN HJ.out s (by rw [scs_len]; omega) hlen HWB.out)
            have HTS := Lib.hid (take_snoc hs)
            clear hbk hs c0 hs2 hs3 hlen HJ
            go_wp2_with fail
            go_at_call 40
            refine HCALL.out.mono ?_
            rintro e w2 ⟨rfl, hN⟩
            simp only [← HTS.out] at hN
            have HN2 := Lib.hid hN
            clear hN HTS
            go_wp2_with fail
            refine ⟨⟨j + 1, by omega, by go_num, HN2⟩, ?_⟩
            simp [intOf] <;> omega
          · obtain rfl : j = vn := by omega
            have e0 : z.vars.take j = z.vars := List.take_of_length_le (by rw [← HVN.out]; exact Nat.le_refl _)
            rw [e0] at HJ
            clear e0 hjl hj
            have HJ0 : Hid (Now base W colW base (.slice none 0 0) bb ⟨0, [], []⟩ (scs D k ++ [⟨(k : Int) + 1, z.vars, funs z pc 0⟩]) ((k : Int) + 2) wr) := HJ
            clear HJ hbk
            go_wp2_with fail
            clear b0
            go_loopw [4, 8] (fun p i wr => ∃ u : Nat, u ≤ fn ∧ p = .int .i64 ((pc + u : Nat) : Int) ∧ i = .int .i64 u ∧ Hid (Now base W colW base (.slice none 0 0) bb ⟨0, [], []⟩ (scs D k ++ [⟨(k : Int) + 1, z.vars, funs z pc u⟩]) ((k : Int) + 2) wr)) (fun _ i _ => fn - (intOf i).toNat)
            case atStart => exact ⟨0, Nat.zero_le _, rfl, rfl, HJ0⟩
            case round =>
              obtain ⟨u, hu, rfl, rfl, HJ⟩ := hrel
              clear HJ0
              have hbk := HKEEP.out _ _ _ HJ.out
              have b1 : wr.cell? ⟨S, 1, none⟩ = some (.slice fa fn fc) := by rw [hbk.cell]; rfl
              have b2 : wr.cell? ⟨S, 2, none⟩ = some (.slice ra rn rc) := by rw [hbk.cell]; rfl
              by_cases hul : u < fn
              · obtain ⟨s, hs⟩ : ∃ s, z.funcs[u]? = some s := ⟨_, List.getElem?_eq_getElem (by have := HFN.out; omega)⟩
                obtain ⟨x3, rfl, c0, _⟩ := HF.out u s hs
                have c1 := cell_kept (HBW.out _ _ _ HJ.out) c0
                have lS := hbk.lt
                have hs3 := HSZ.out.2.1
                have hs2 := HFN.out
                have HADD : Hid (∀ d : Nat, Calls Try.prog 49 #[.pointer (some ⟨base, 0, none⟩), .string s, .int .i64 ((pc + u : Nat) : Int), .int .i64 (z.ars.getD u 0)] (wr.drewN d) fun e w' => e = .returned (.tuple #[]) ∧ Now base W colW base (.slice none 0 0) bb ⟨0, [], []⟩ (scs D k ++ [⟨(k : Int) + 1, z.vars, funs z pc (u + 1)⟩]) ((k : Int) + 2) w') := by
                  unfold Hid; intro d
                  have h := addN (now_drew HJ.out d) s ((pc + u : Nat) : Int) (z.ars.getD u 0) (by rw [scs_len]; omega) (by rw [funs_len]; omega) HWB.out
                  rw [funs_snoc z pc u s hs]
                  exact h
                have HAT : Hid (∀ d : Nat, Calls Try.prog 18 #[.slice ra rn rc, .int .i64 u] (wr.drewN d) fun e w' => e = .returned (.int .i64 (z.ars.getD u 0)) ∧ w' = wr.drewN d) := by
                  unfold Hid; intro d
                  refine atD wr _ z.ars ?_ u d
                  have := HRW.out.kept (HBW.out _ _ _ HJ.out)
                  exact this
                have hub : u ≤ 1048576 := by omega
                clear hbk hs c0 hs2 hs3 HJ
                go_wp2_with fail
                go_still_tail 11, (by kernel_rfl)
                still_call (HAT.out _)
                refine wpStill_nil ?_
                go_wp2_with fail
                go_at_call 49
                refine (HADD.out _).mono ?_
                rintro e w2 ⟨rfl, hN⟩
                have HN2 := Lib.hid hN
                clear hN HADD HAT
                have hwp : IntKind.i64.wrap (((pc + u : Nat) : Int) + 1) = ((pc + (u + 1) : Nat) : Int) := by rw [IntWalk.i64_in _ (by omega)]; omega
                go_wp2_with fail
                refine ⟨⟨u + 1, by omega, by go_num, by go_num, HN2⟩, ?_⟩
                simp [intOf] <;> omega
              · obtain rfl : u = fn := by omega
                have HNX : Hid (At base w0 col0 bb (scs D (k + 1)) (((k + 1 : Nat) : Int) + 1) wr) := by
                  have h := HLEAVE.out _ _ _ HJ.out
                  unfold Hid
                  rw [scs_snoc]
                  have e1 : sc D k = ⟨(k : Int) + 1, z.vars, funs z pc u⟩ := by
                    unfold sc; rw [zd_at HZ.out, ← HPV.out, ← HFN.out]
                  have e2 : (((k + 1 : Nat) : Int) + 1) = (k : Int) + 2 := by omega
                  rw [e1, e2]; exact h
                have HPN : Hid (pc + u = pcAt D (k + 1)) := by
                  unfold Hid; rw [pcAt, zd_at HZ.out, ← HPV.out, ← HFN.out]
                clear HJ hbk b2
                go_wp2_with fail
                refine ⟨⟨k + 1, by omega, by rw [HPN.out], by go_num, .inr ⟨by omega, HNX.out⟩⟩, ?_⟩
                simp [intOf] <;> omega
      · have hA := HZERO.out (by omega)
        obtain ⟨g1, g2, g3⟩ := HA1.out wr hA
        have HA := Lib.hid hA
        clear hA HZERO HPUSH HBEL HA1
        obtain ⟨w1, hw1⟩ : ∃ w1, w1 = wr := ⟨_, rfl⟩
        rw [← hw1] at HA g1 g2 g3 ⊢
        clear hw1
        go_wp2_with fail
        obtain ⟨W, hW⟩ : ∃ W, W = w1.alloc (Obj.cells #[Value.slice va vn vc, Value.slice fa fn fc, Value.slice ra rn rc] 59) := ⟨_, rfl⟩
        obtain ⟨S, hS⟩ : ∃ S, S = w1.heap.size := ⟨_, rfl⟩
        rw [← hW, ← hS]
        obtain ⟨colA, svA, bsA, hNA, hCA⟩ := HA.out
        have huW : Upd (fun _ => False) w1 W := by rw [hW]; exact (Upd.refl _ _).alloc _
        have HUW := Lib.hid huW
        have HBK : Hid (Blk W S #[.slice va vn vc, .slice fa fn fc, .slice ra rn rc] 59) := by unfold Hid; rw [hW, hS]; exact Blk.new _ _ _
        have HNA := Lib.hid hNA
        have HI : Hid (Now base W (cut colA w1.heap.size) base (.slice none 0 0) bb ⟨0, [], []⟩ (scs D k ++ [⟨(k : Int) + 1, z.vars.take 0, []⟩]) ((k : Int) + 2) W) := enterU hCA huW
        have HWB : Hid (base ≤ W.heap.size) := Nat.le_trans HW0.out (Nat.le_trans hNA.upd.size huW.size)
        have HKEEP : Hid (∀ L cnt w2, Now base W (cut colA w1.heap.size) base (.slice none 0 0) bb ⟨0, [], []⟩ L cnt w2 → Blk w2 S #[.slice va vn vc, .slice fa fn fc, .slice ra rn rc] 59) := fun L cnt w2 h => keepU h HBK.out (by rw [hS]; exact Nat.le_refl _)
        have HLEAVE : Hid (∀ L cnt w2, Now base W (cut colA w1.heap.size) base (.slice none 0 0) bb ⟨0, [], []⟩ L cnt w2 → At base w0 col0 bb L cnt w2) := fun L cnt w2 h => now_trans HNA.out (leaveU h HUW.out)
        have HBW : Hid (∀ L cnt w2, Now base W (cut colA w1.heap.size) base (.slice none 0 0) bb ⟨0, [], []⟩ L cnt w2 → Below w.heap.size w w2) := fun L cnt w2 h => HB0.out.trans (by have := now_below (HLEAVE.out L cnt w2 h) HW0.out; rwa [HBS.out] at this)
        generalize hcolW : cut colA w1.heap.size = colW at HI HKEEP HLEAVE HBW
        clear hcolW hW hS hNA hCA huW HUW HBK HNA HA g1 g2 g3
        go_loopw [7] (fun i wr => ∃ j : Nat, j ≤ vn ∧ i = .int .i64 j ∧ Hid (Now base W colW base (.slice none 0 0) bb ⟨0, [], []⟩ (scs D k ++ [⟨(k : Int) + 1, z.vars.take j, []⟩]) ((k : Int) + 2) wr)) (fun i _ => vn - (intOf i).toNat)
        case atStart => exact ⟨0, Nat.zero_le _, rfl, HI⟩
        case round =>
          obtain ⟨j, hj, rfl, HJ⟩ := hrel
          clear HI
          have hbk := HKEEP.out _ _ _ HJ.out
          have b0 : wr.cell? ⟨S, 0, none⟩ = some (.slice va vn vc) := by rw [hbk.cell]; rfl
          by_cases hjl : j < vn
          · obtain ⟨s, hs⟩ : ∃ s, z.vars[j]? = some s := ⟨_, List.getElem?_eq_getElem (by have := HVN.out; omega)⟩
            obtain ⟨x2, rfl, c0, _⟩ := HV.out j s hs
            have c1 := cell_kept (HBW.out _ _ _ HJ.out) c0
            have lS := hbk.lt
            have hs2 := HVN.out
            have hs3 := HSZ.out.1
            have hlen : (z.vars.take j).length ≤ 2097152 := by rw [List.length_take]; omega
            have HCALL := Lib.hid (createN HJ.out s (by rw [scs_len]; omega) hlen HWB.out)
            have HTS := Lib.hid (take_snoc hs)
            clear hbk hs c0 hs2 hs3 hlen HJ
            go_wp2_with fail
            go_at_call 40
            refine HCALL.out.mono ?_
            rintro e w2 ⟨rfl, hN⟩
            simp only [← HTS.out] at hN
            have HN2 := Lib.hid hN
            clear hN HTS
            go_wp2_with fail
            refine ⟨⟨j + 1, by omega, by go_num, HN2⟩, ?_⟩
            simp [intOf] <;> omega
          · obtain rfl : j = vn := by omega
            have e0 : z.vars.take j = z.vars := List.take_of_length_le (by rw [← HVN.out]; exact Nat.le_refl _)
            rw [e0] at HJ
            clear e0 hjl hj
            have HJ0 : Hid (Now base W colW base (.slice none 0 0) bb ⟨0, [], []⟩ (scs D k ++ [⟨(k : Int) + 1, z.vars, funs z pc 0⟩]) ((k : Int) + 2) wr) := HJ
            clear HJ hbk
            go_wp2_with fail
            clear b0
            go_loopw [4, 8] (fun p i wr => ∃ u : Nat, u ≤ fn ∧ p = .int .i64 ((pc + u : Nat) : Int) ∧ i = .int .i64 u ∧ Hid (Now base W colW base (.slice none 0 0) bb ⟨0, [], []⟩ (scs D k ++ [⟨(k : Int) + 1, z.vars, funs z pc u⟩]) ((k : Int) + 2) wr)) (fun _ i _ => fn - (intOf i).toNat)
            case atStart => exact ⟨0, Nat.zero_le _, rfl, rfl, HJ0⟩
            case round =>
              obtain ⟨u, hu, rfl, rfl, HJ⟩ := hrel
              clear HJ0
              have hbk := HKEEP.out _ _ _ HJ.out
              have b1 : wr.cell? ⟨S, 1, none⟩ = some (.slice fa fn fc) := by rw [hbk.cell]; rfl
              have b2 : wr.cell? ⟨S, 2, none⟩ = some (.slice ra rn rc) := by rw [hbk.cell]; rfl
              by_cases hul : u < fn
              · obtain ⟨s, hs⟩ : ∃ s, z.funcs[u]? = some s := ⟨_, List.getElem?_eq_getElem (by have := HFN.out; omega)⟩
                obtain ⟨x3, rfl, c0, _⟩ := HF.out u s hs
                have c1 := cell_kept (HBW.out _ _ _ HJ.out) c0
                have lS := hbk.lt
                have hs3 := HSZ.out.2.1
                have hs2 := HFN.out
                have HADD : Hid (∀ d : Nat, Calls Try.prog 49 #[.pointer (some ⟨base, 0, none⟩), .string s, .int .i64 ((pc + u : Nat) : Int), .int .i64 (z.ars.getD u 0)] (wr.drewN d) fun e w' => e = .returned (.tuple #[]) ∧ Now base W colW base (.slice none 0 0) bb ⟨0, [], []⟩ (scs D k ++ [⟨(k : Int) + 1, z.vars, funs z pc (u + 1)⟩]) ((k : Int) + 2) w') := by
                  unfold Hid; intro d
                  have h := addN (now_drew HJ.out d) s ((pc + u : Nat) : Int) (z.ars.getD u 0) (by rw [scs_len]; omega) (by rw [funs_len]; omega) HWB.out
                  rw [funs_snoc z pc u s hs]
                  exact h
                have HAT : Hid (∀ d : Nat, Calls Try.prog 18 #[.slice ra rn rc, .int .i64 u] (wr.drewN d) fun e w' => e = .returned (.int .i64 (z.ars.getD u 0)) ∧ w' = wr.drewN d) := by
                  unfold Hid; intro d
                  refine atD wr _ z.ars ?_ u d
                  have := HRW.out.kept (HBW.out _ _ _ HJ.out)
                  exact this
                have hub : u ≤ 1048576 := by omega
                clear hbk hs c0 hs2 hs3 HJ
                go_wp2_with fail
                go_still_tail 11, (by kernel_rfl)
                still_call (HAT.out _)
                refine wpStill_nil ?_
                go_wp2_with fail
                go_at_call 49
                refine (HADD.out _).mono ?_
                rintro e w2 ⟨rfl, hN⟩
                have HN2 := Lib.hid hN
                clear hN HADD HAT
                have hwp : IntKind.i64.wrap (((pc + u : Nat) : Int) + 1) = ((pc + (u + 1) : Nat) : Int) := by rw [IntWalk.i64_in _ (by omega)]; omega
                go_wp2_with fail
                refine ⟨⟨u + 1, by omega, by go_num, by go_num, HN2⟩, ?_⟩
                simp [intOf] <;> omega
              · obtain rfl : u = fn := by omega
                have HNX : Hid (At base w0 col0 bb (scs D (k + 1)) (((k + 1 : Nat) : Int) + 1) wr) := by
                  have h := HLEAVE.out _ _ _ HJ.out
                  unfold Hid
                  rw [scs_snoc]
                  have e1 : sc D k = ⟨(k : Int) + 1, z.vars, funs z pc u⟩ := by
                    unfold sc; rw [zd_at HZ.out, ← HPV.out, ← HFN.out]
                  have e2 : (((k + 1 : Nat) : Int) + 1) = (k : Int) + 2 := by omega
                  rw [e1, e2]; exact h
                have HPN : Hid (pc + u = pcAt D (k + 1)) := by
                  unfold Hid; rw [pcAt, zd_at HZ.out, ← HPV.out, ← HFN.out]
                clear HJ hbk b2
                go_wp2_with fail
                refine ⟨⟨k + 1, by omega, by rw [HPN.out], by go_num, .inr ⟨by omega, HNX.out⟩⟩, ?_⟩
                simp [intOf] <;> omega
    · obtain rfl : k = n := by omega
      have HF : Hid ((∃ col bb sv bs, CompAt base wr col base (.slice none 0 0) bb sv bs ⟨0, [], []⟩ (scs D k) ((k : Int) + 1)) ∧ Below w.heap.size w wr) := by
        rcases HR.out with ⟨h, _⟩ | ⟨_, hA⟩
        · omega
        · have hb := HB0.out.trans (by have := now_below hA HW0.out; rwa [HBS.out] at this)
          obtain ⟨col, sv, bs, hN, hC⟩ := hA
          exact ⟨⟨col, bb, sv, bs, hC⟩, hb⟩
      clear HR HC HSH
      go_wp2_with fail
      go_ret
      rw [← HBS.out]
      exact ⟨rfl, HF.out.1, HBS.out ▸ HF.out.2⟩
end Go.Proofs.Ytmfpmpbilekbgaa.build
