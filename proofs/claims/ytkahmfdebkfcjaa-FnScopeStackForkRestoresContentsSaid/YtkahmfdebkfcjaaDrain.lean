/- What the statement's drain does: it returns true where the stack and the model are in step. -/
import Derived.Test.YtkahmfdebkfcjaaStep
namespace Go.Proofs.Ytkahmfdebkfcjaa.drain
open Go.ChangeShapes Go.WideShapes Go.ChangeAt Go.RowKit
open upd stack full plain step

/-- how far the model's head is from the end -/
def hd (mb : Nat) (w : World) : Nat := match w.cell? ⟨mb, 2, none⟩ with | some (.int _ h) => (h + 1).toNat | _ => 0
theorem hd_eq {mb : Nat} {w : World} {x : Int} (h : w.cell? ⟨mb, 2, none⟩ = some (.int .i64 x)) : hd mb w = (x + 1).toNat := by unfold hd; rw [h]

set_option maxHeartbeats 2000000 in
theorem drain (base b mb n : Nat) (w : World) (hst : State base b mb w n) (hbase : base ≤ w.heap.size) (_hn : n ≤ 1000000) :
    Calls Try.prog 11 #[.pointer (some ⟨b, 0, none⟩), .pointer (some ⟨mb, 0, none⟩)] w fun e w' => e = .returned (.bool true) ∧ Below base w w' := by
  have HS := Lib.hid hst
  clear hst
  go_enter Try.func11, Try.ntmps11
  go_wp2_with fail
  go_loopw [5] (fun _ wr => Hid (State base b mb wr n) ∧ Hid (Below base w wr)) (fun _ wr => hd mb wr)
  case atStart => exact ⟨HS, Below.refl _ _⟩
  case round =>
    obtain ⟨HT, HB⟩ := hrel
    clear HS
    obtain ⟨d, md, idx, lim, head, sv, col, dv, a1, a2, a3, a4, a5, k1, k2, k3, k4, k5, l1, l2, l3, l4, l5, hinv, htie, hd0, n1, n2, n3, n4, n5, hfull⟩ := HT.out
    obtain ⟨m0, m1, m2, m3, m4, m5, mf, mlt⟩ := hfull.cells
    have HI := Lib.hid hinv; have HTI := Lib.hid htie; have HF := Lib.hid hfull
    have hem := hinv.empty
    have HHD := Lib.hid (hd_eq m2)
    clear hinv hfull HT htie
    by_cases hh : 0 ≤ head
    · obtain ⟨kk, j, v, nx, nx', e1, e2, e3, e4, e5, hinv'⟩ := HI.out.pop hh
      obtain ⟨t1, t2, _, _, _⟩ := HTI.out
      have hl1 : l1[j]? = some v.1 := by rw [t1]; simp [e4]
      have hl2 : l2[j]? = some nx' := by rw [t2]; simp [e4]
      obtain ⟨g1, rfl, r1, j1⟩ := own_at HF.out.o1 hl1
      obtain ⟨g2, rfl, r2, j2⟩ := own_at HF.out.o2 hl2
      have HIN := Lib.hid hinv'; have HE3 := Lib.hid e3; have HL1 := Lib.hid hl1; have HL2 := Lib.hid hl2; have HE1 := Lib.hid e1; have HE5 := Lib.hid e5
      subst e2
      have hi0 : (decide (idx < 0)) = false := by simp; omega
      clear hinv' e3 e4 e5 t1 t2 hl1 hl2 r1 r2 e1
      have hbw : base ≤ wr.heap.size := Nat.le_trans hbase HB.out.size
      go_wp2_with (first | (go_at_call 20; refine (zempty _ _ _ _ _ _ _ HF.out.stk).mono ?_; rintro e w9 ⟨rfl, rfl⟩) | (go_at_call 21; refine (zpop _ _ _ _ _ _ _ _ _ _ HF.out.stk HE1.out HE3.out).mono ?_; rintro e wb ⟨rfl, hS2, hu2⟩; obtain ⟨col2, hF2⟩ := HF.out.stack hS2 (hu2.mono (fun _ _ h => .inl h)) (.inl rfl); have HF2 := Lib.hid hF2; have HBb := Lib.hid (below_stk HB.out HF.out.stk HF.out.hb (hu2.mono (fun _ _ h => .inl h)) hbw); clear hS2 hu2 hF2 m0 m1 m2 m3 m4 m5 mf))
      obtain ⟨m0, m1, m2, m3, m4, m5, mf, _⟩ := HF2.out.cells
      have r1 := own_cell HF2.out.o1 HL1.out
      have r2 := own_cell HF2.out.o2 HL2.out
      have ij : (0 : Int) ≤ j := by omega
      have ij1 : (j : Int) < l1.length := by omega
      have ij2 : (j : Int) < l2.length := by omega
      go_quiet (fail)
      have HFc := Lib.hid (HF2.out.still ((Upd.refl (fun _ => False) _).drewN nq))
      have HBc : Hid (Below base w (wb.drewN nq)) := HBb.out.trans ⟨rfl, rfl, rfl, Nat.le_refl _, fun _ _ => rfl⟩
      clear m0 m1 m2 m3 m4 m5 mf r1 r2
      generalize wb.drewN nq = wc at HFc HBc ⊢
      obtain ⟨m0, m1, m2, m3, m4, m5, mf, _⟩ := HFc.out.cells
      have r1 := own_cell HFc.out.o1 HL1.out
      have r2 := own_cell HFc.out.o2 HL2.out
      have HFd := Lib.hid ((HFc.out.setHead nx').still (Upd.refl (fun _ => False) _).drew)
      have HS : Hid (State base b mb (wc.setCell ⟨mb, 2, none⟩ (.int .i64 nx')).drew n) := ⟨d, md, _, _, _, sv, _, _, _, _, _, _, _, _, _, _, _, _, l1, l2, l3, l4, l5, HIN.out, HTI.out, hd0, n1, n2, n3, n4, n5, HFd.out⟩
      have HBd : Hid (Below base w (wc.setCell ⟨mb, 2, none⟩ (.int .i64 nx')).drew) := (HBc.out.setCell HFc.out.hm _).drew
      have HM : Hid (hd mb (wc.setCell ⟨mb, 2, none⟩ (.int .i64 nx')).drew < hd mb wr) := by
        unfold Hid; rw [hd_eq HFd.out.cells.2.2.1, HHD.out]; have := HE5.out; omega
      go_wp2_with fail
      go_region
      all_goals go_wp2_with fail
      all_goals
        go_roundw
        case rel => exact ⟨HS, HBd⟩
        case measure => exact HM.out
    · have hi0 : idx < 0 := by omega
      have hi1 : (decide (idx < 0)) = true := by simp [hi0]
      go_wp2_with (go_at_call 20; refine (zempty _ _ _ _ _ _ _ HF.out.stk).mono ?_; rintro e w9 ⟨rfl, rfl⟩)
      go_ret
      exact ⟨by simp, HB.out⟩
end Go.Proofs.Ytkahmfdebkfcjaa.drain
