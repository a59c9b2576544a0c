/- The walk of the law FnPopforkReturnsForksInReverseOrder: it returns true at every input. -/
import Derived.Test.YtemifkcgmfincaaSteps
namespace Go.Proofs.Ytemifkcgmfincaa.fnPopforkReturnsForksInReverseOrder
open Go.ChangeShapes Go.WideShapes Go.ChangeAt Go.RowKit
open upd env plain ops forks popf fill init steps

/-- the forks that have been taken -/
def FF (bs : Nat → Int) (n k : Nat) : List Fk := (List.range k).map fun i => ⟨bs i, -1, -1, -1, -1, i, (n : Int) - i⟩
theorem FF_len (bs : Nat → Int) (n k : Nat) : (FF bs n k).length = k := by simp [FF]
theorem FF_succ (bs : Nat → Int) (n k : Nat) : FF bs n (k + 1) = FF bs n k ++ [⟨bs k, -1, -1, -1, -1, k, (n : Int) - k⟩] := by simp [FF, List.range_succ]
/-- the environment behind k forks -/
def st (F : List Fk) (o x : Int) : St := ⟨[], -1, -1, [], -1, -1, F, o, x⟩
theorem p_off {base eb : Nat} {W w : World} {F : List Fk} {o x : Int} (h : At base eb W w (st F o x)) (v : Int) :
    Calls Try.prog 14 #[.pointer (some ⟨eb, 0, none⟩), .int .i64 v] w fun e w' => e = .returned (.tuple #[]) ∧ At base eb W w' (st F v x) := s_off h v
theorem p_exp {base eb : Nat} {W w : World} {F : List Fk} {o x : Int} (h : At base eb W w (st F o x)) (v : Int) :
    Calls Try.prog 15 #[.pointer (some ⟨eb, 0, none⟩), .int .i64 v] w fun e w' => e = .returned (.tuple #[]) ∧ At base eb W w' (st F o v) := s_exp h v
theorem p_push {base eb : Nat} {W w : World} {bs : Nat → Int} {n k : Nat} (h : At base eb W w (st (FF bs n k) k ((n : Int) - k))) (hk : k ≤ 4096) :
    Calls Try.prog 16 #[.pointer (some ⟨eb, 0, none⟩), .int .i64 (bs k)] w fun e w' => e = .returned (.tuple #[]) ∧ At base eb W w' (st (FF bs n (k + 1)) k ((n : Int) - k)) := by
  rw [FF_succ]
  exact s_fork h (bs k) (by simp [st, FF_len]; omega)
theorem p_pop {base eb : Nat} {W w : World} {bs : Nat → Int} {n k : Nat} {o x : Int} (h : At base eb W w (st (FF bs n (k + 1)) o x)) (hk : k ≤ 4096) :
    Calls Try.prog 19 #[.pointer (some ⟨eb, 0, none⟩)] w fun e w' => e = .returned (.int .i64 (bs k)) ∧ At base eb W w' (st (FF bs n k) k ((n : Int) - k)) :=
  s_popfork h (r := FF bs n k) (f := ⟨bs k, -1, -1, -1, -1, k, (n : Int) - k⟩) (by simp [st, FF_succ]) (by simp [FF_len]; omega)
theorem p_forks {base eb : Nat} {W w : World} {bs : Nat → Int} {n k : Nat} {o x : Int} (h : At base eb W w (st (FF bs n k) o x)) :
    Calls Try.prog 20 #[.pointer (some ⟨eb, 0, none⟩)] w fun e w' => e = .returned (.int .i64 k) ∧ w = w' := s_forks h (FF_len bs n k)

set_option maxHeartbeats 2000000 in
theorem walk (a0 : Option Addr) (len0 cap0 : Nat) (z0 : List Int) (w : World) (w0 : inp.IsRow .i64 w a0 len0 cap0 z0) :
    Calls Try.prog 6 #[.slice a0 len0 cap0] w fun e w' => e = .returned (.bool true) ∧ Below w.heap.size w w' := by
  obtain ⟨bs, hbs, hin, hnil, hm⟩ := open_ints a0 len0 cap0 z0 w w0
  clear w0
  have HZ := Lib.hid (zb33 a0 len0 cap0 w hm)
  by_cases hb : 4096 < len0
  · have hb' : (4096 : Int) < len0 := by omega
    clear hnil hin hbs
    go_enter Try.func6, Try.ntmps6
    go_wp2_with (go_at_call 33; refine HZ.out.mono ?_; rintro e w1 ⟨b, rfl, rfl⟩)
    all_goals (go_ret; exact ⟨rfl, Below.refl _ _⟩)
  · have hl : len0 ≤ 4096 := by omega
    have HC := Lib.hid (cloneI a0 cap0 len0 bs w hin hnil hl)
    clear hnil hin hbs hb
    go_enter Try.func6, Try.ntmps6
    go_wp2_with (first | (go_at_call 33; refine HZ.out.mono ?_; rintro e w1 ⟨b, rfl, rfl⟩) | (go_at_call 10; refine HC.out.mono ?_; rintro e w1 ⟨ac, cc, rfl, hin1, _, hb1⟩; have HIN := Lib.hid hin1; have HB1 := Lib.hid hb1; clear hin1 hb1) | (go_at_call 11; refine (s_new _).mono ?_; rintro e w2 ⟨eb, rfl, h2⟩; have HA2 := Lib.hid h2; clear h2))
    · go_ret
      exact ⟨rfl, Below.refl _ _⟩
    go_loopw [25] (fun i wr => ∃ k : Nat, k ≤ len0 ∧ i = .int .i64 k ∧ Hid (∃ o x, At w1.heap.size eb w1 wr (st (FF bs len0 k) o x))) (fun i _ => len0 - (intOf i).toNat)
    case atStart => exact ⟨0, Nat.zero_le _, rfl, _, _, HA2.out⟩
    case round =>
      obtain ⟨k, hk, rfl, HT⟩ := hrel
      clear HA2
      obtain ⟨o, x, hAt⟩ := HT.out
      have HA := Lib.hid hAt
      clear hAt HT
      by_cases hlt : k < len0
      · obtain ⟨xa, rfl, hxb, hxc⟩ := cp_cell HIN.out hlt
        have c0 : wr.cell? (xa.add k) = some (.int .i64 (bs k)) := HA.out.row hxb hxc
        clear hxc
        go_wp2_with (first | (go_at_call 14; refine (p_off HA.out _).mono ?_; rintro e w3 ⟨rfl, h3⟩; have H3 := Lib.hid h3; clear h3) | (go_at_call 15; refine (p_exp H3.out _).mono ?_; rintro e w4 ⟨rfl, h4⟩; have H4 := Lib.hid h4; clear h4) | (go_at_call 16; refine (p_push H4.out (by omega)).mono ?_; rintro e w5 ⟨rfl, h5⟩; have H5 := Lib.hid h5; clear h5) | (go_at_call 20; refine (p_forks H5.out).mono ?_; rintro e w6 ⟨rfl, rfl⟩))
        go_roundw
        case rel => exact ⟨k + 1, by omega, by go_num, _, _, H5.out⟩
        case measure => simp [intOf] <;> omega
      · obtain rfl : k = len0 := by omega
        clear hlt
        go_wp2_with (first | (go_at_call 14; refine (p_off HA.out _).mono ?_; rintro e w3 ⟨rfl, h3⟩; have H3 := Lib.hid h3; clear h3) | (go_at_call 15; refine (p_exp H3.out _).mono ?_; rintro e w4 ⟨rfl, h4⟩; have H4 := Lib.hid h4; clear h4))
        go_loopw [7] (fun i wr => ∃ j : Nat, j ≤ k ∧ i = .int .i64 ((j : Int) - 1) ∧ Hid (∃ o x, At w1.heap.size eb w1 wr (st (FF bs k j) o x))) (fun i _ => (intOf i + 1).toNat)
        case atStart => exact ⟨k, Nat.le_refl _, rfl, _, _, H4.out⟩
        case round =>
          obtain ⟨j, hj, rfl, HT⟩ := hrel
          clear HA H3 H4
          obtain ⟨o, x, hAt⟩ := HT.out
          have HA := Lib.hid hAt
          clear hAt HT
          by_cases hlt : 0 < j
          · obtain ⟨m, rfl⟩ : ∃ m, j = m + 1 := ⟨j - 1, by omega⟩
            obtain ⟨xa, rfl, hxb, hxc⟩ := cp_cell HIN.out (k := m) (by omega)
            have HCX := Lib.hid hxc
            have e1 : (((m + 1 : Nat) : Int) - 1) = m := by omega
            rw [e1]
            clear hxc e1 hlt
            have c0 : wr.cell? (xa.add m) = some (.int .i64 (bs m)) := HA.out.row hxb HCX.out
            have i0 : (0 : Int) ≤ m := by omega
            have i1 : (m : Int) < k := by omega
            go_wp2_with fail
            go_region_law (first | (go_simp; go_at_call 19; refine (p_pop (HA.out.still (by repeat (first | exact Upd.refl _ _ | apply Upd.drew | apply Upd.drewN))) (by omega)).mono ?_; rintro e w3 ⟨rfl, h3⟩; have H3 := Lib.hid h3; have c1 := h3.row hxb HCX.out; simp only [fI] at c1; clear h3))
            all_goals go_wp2_with (first | (go_at_call 21; refine (s_offset (H3.out.still (by repeat (first | exact Upd.refl _ _ | apply Upd.drew | apply Upd.drewN))) rfl).mono ?_; rintro e w4 ⟨rfl, rfl⟩) | (go_at_call 22; refine (s_expdepth (H3.out.still (by repeat (first | exact Upd.refl _ _ | apply Upd.drew | apply Upd.drewN))) rfl).mono ?_; rintro e w4 ⟨rfl, rfl⟩) | (go_at_call 20; refine (p_forks (H3.out.still (by repeat (first | exact Upd.refl _ _ | apply Upd.drew | apply Upd.drewN)))).mono ?_; rintro e w4 ⟨rfl, rfl⟩))
            all_goals
              go_roundw
              case rel => exact ⟨m, by omega, rfl, _, _, H3.out.still (by repeat (first | exact Upd.refl _ _ | apply Upd.drew | apply Upd.drewN))⟩
              case measure => simp [intOf] <;> omega
          · obtain rfl : j = 0 := by omega
            have e1 : (((0 : Nat) : Int) - 1) = -1 := rfl
            rw [e1]
            go_wp2_with fail
            go_ret
            exact ⟨rfl, HB1.out.trans (HA.out.2.1.mono HB1.out.size)⟩
end Go.Proofs.Ytemifkcgmfincaa.fnPopforkReturnsForksInReverseOrder
