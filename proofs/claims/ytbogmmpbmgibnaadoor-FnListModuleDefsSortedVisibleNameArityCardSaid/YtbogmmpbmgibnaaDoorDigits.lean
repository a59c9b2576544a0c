/- zzItoa (f12): the decimal digits, from the last to the first. -/
import Derived.Test.YtbogmmpbmgibnaaDoorAsk
import Derived.Laws.IdiomStrings
import Derived.Laws.Slices
set_option linter.unusedVariables false
namespace Go.Proofs.YtbogmmpbmgibnaaDoor.digits
open Go.ChangeShapes Go.WideShapes Go.ChangeAt Go.RowKit
open upd zs fill list13

/-- the digits still to come -/
def restD (v : Nat) : List UInt8 := if v = 0 then [] else Lib.decDigits v
theorem restD_step (v : Nat) (h : 0 < v) : restD v = restD (v / 10) ++ [UInt8.ofNat (48 + v % 10)] := by
  unfold restD
  rw [if_neg (by omega), Lib.decDigits]
  by_cases h10 : v < 10
  · rw [dif_pos h10, if_pos (by omega), Nat.mod_eq_of_lt h10]; rfl
  · rw [dif_neg h10, if_neg (by omega)]
def byteV (b : UInt8) : Value := .int .u8 (b.toNat : Int)
/-- the buffer: k digits at its end -/
def bufD (D : List UInt8) : List Value := List.replicate (24 - D.length) (.int .u8 0) ++ D.map byteV
theorem bufD_set (D : List UInt8) (b : UInt8) (h : D.length < 24) : (bufD D).set (24 - D.length - 1) (byteV b) = bufD (b :: D) := by
  unfold bufD
  obtain ⟨m, hm⟩ : ∃ m, 24 - D.length = m + 1 := ⟨24 - D.length - 1, by omega⟩
  have e : 24 - (b :: D).length = m := by simp; omega
  rw [hm, e, List.replicate_succ', List.append_assoc, List.set_append_right _ _ (by simp)]
  simp
theorem bufD_zero (D : List UInt8) (h : D.length < 24) : (bufD D)[24 - D.length - 1]? = some (.int .u8 0) := by
  unfold bufD
  rw [List.getElem?_append_left (by simp; omega), List.getElem?_replicate, if_pos (by omega)]
theorem bufD_get (D : List UInt8) (h : D.length ≤ 24) (j : Nat) (hj : j < D.length) : (bufD D)[24 - D.length + j]? = some (.int .u8 (D[j].toNat : Int)) := by
  unfold bufD
  rw [List.getElem?_append_right (by simp)]
  simp [hj, byteV]
set_option maxRecDepth 100000 in
set_option maxHeartbeats 4000000 in
theorem itoa12 (n : Nat) (hn : n ≤ 65536) (w : World) : Calls Tryd.prog 12 #[.int .i64 n] w fun e w' => e = .returned (.string ⟨(Lib.decDigits n).toArray⟩) ∧ Below w.heap.size w w' := by
  by_cases h0 : n = 0
  · subst h0
    have e : Lib.decDigits 0 = [48] := by rw [Lib.decDigits_one (by decide)]; rfl
    rw [e]
    go_enter Tryd.func12, Tryd.ntmps12
    go_wp2_with fail
    go_ret
    exact ⟨rfl, Below.refl _ _⟩
  · have hp : (0 : Int) < n := by omega
    have hne : ((n : Int) == 0) = false := by simp; omega
    have HL := Lib.hid (digits_le n hn)
    have HRD : Hid (restD n = Lib.decDigits n) := by unfold Hid restD; rw [if_neg h0]
    obtain ⟨B, hB⟩ : ∃ B, B = w.heap.size := ⟨_, rfl⟩
    go_enter Tryd.func12, Tryd.ntmps12
    go_wp2_with fail
    rw [← hB]
    obtain ⟨W1, hW1⟩ : ∃ W1, W1 = w.alloc (.cells (bufD []).toArray 48) := ⟨_, rfl⟩
    have HR0 : Hid (Row W1 B 48 (bufD [])) := by rw [hW1, hB]; exact Row.new w 48 (bufD [])
    have HB0 : Hid (Below w.heap.size w W1) := by rw [hW1]; exact (Below.refl _ _).alloc (Nat.le_refl _) _
    have hWf : w.alloc (.cells #[.int .u8 0, .int .u8 0, .int .u8 0, .int .u8 0, .int .u8 0, .int .u8 0, .int .u8 0, .int .u8 0, .int .u8 0, .int .u8 0, .int .u8 0, .int .u8 0, .int .u8 0, .int .u8 0, .int .u8 0, .int .u8 0, .int .u8 0, .int .u8 0, .int .u8 0, .int .u8 0, .int .u8 0, .int .u8 0, .int .u8 0, .int .u8 0] 48) = W1 := hW1.symm
    rw [hWf]
    have HBw : Hid (w.heap.size ≤ B) := by unfold Hid; omega
    clear hWf hW1 hB
    go_loopw [0, 4] (fun x i wr => ∃ (D : List UInt8) (v : Nat), D.length ≤ 21 ∧ v ≤ 65536 ∧ x = .int .i64 v ∧ i = .int .i64 (((24 - D.length : Nat)) : Int) ∧ Hid (restD v ++ D = Lib.decDigits n) ∧ Hid (Row wr B 48 (bufD D)) ∧ Hid (Below w.heap.size w wr)) (fun x _ _ => (intOf x).toNat)
    case atStart => exact ⟨[], n, by decide, hn, rfl, rfl, by unfold Hid; rw [HRD.out]; simp, HR0, HB0⟩
    case round =>
      obtain ⟨D, v, hD, hv, rfl, rfl, HE, HR, HB⟩ := hrel
      clear HR0 HB0
      have lB := HR.out.lt
      by_cases hv0 : 0 < v
      · have hlen : D.length < 21 := by
          have h1 := congrArg List.length HE.out
          rw [List.length_append, restD_step v hv0, List.length_append] at h1
          have := HL.out
          simp at h1; omega
        obtain ⟨i, hi⟩ : ∃ i, 24 - D.length = i + 1 := ⟨24 - D.length - 1, by omega⟩
        have z0 : wr.cell? ⟨B, i, none⟩ = some (.int .u8 0) := HR.out.cell (by have := bufD_zero D (by omega); rwa [hi] at this)
        have z1 := HR.out.free i
        have hj : ((24 - D.length : Nat) : Int) - 1 = i := by omega
        have i0 : (0 : Int) ≤ i := by omega
        have i1 : (i : Int) < 24 := by omega
        have p0 : (0 : Int) < v := by omega
        have hm : Int.tmod (v : Int) 10 = ((v % 10 : Nat) : Int) := by rfl
        have hq : Int.tdiv (v : Int) 10 = ((v / 10 : Nat) : Int) := by rfl
        have hbv : byteV (UInt8.ofNat (48 + v % 10)) = .int .u8 (48 + (v : Int) % 10) := by
          unfold byteV
          rw [UInt8.toNat_ofNat']
          congr 1
          omega
        have HRN : Hid (Row (wr.setCell ⟨B, i, none⟩ (.int .u8 (48 + (v : Int) % 10))) B 48 (bufD (UInt8.ofNat (48 + v % 10) :: D))) := by
          have h1 := HR.out.set i (byteV (UInt8.ofNat (48 + v % 10)))
          have h2 := bufD_set D (UInt8.ofNat (48 + v % 10)) (by omega)
          have e : 24 - D.length - 1 = i := by omega
          rw [e] at h2
          rw [h2, hbv] at h1
          exact h1
        have HBN : Hid (Below w.heap.size w (wr.setCell ⟨B, i, none⟩ (.int .u8 (48 + (v : Int) % 10)))) := HB.out.setCell (p := ⟨B, i, none⟩) HBw.out _
        have HEN : Hid (restD (v / 10) ++ (UInt8.ofNat (48 + v % 10) :: D) = Lib.decDigits n) := by
          unfold Hid; rw [← HE.out, restD_step v hv0]; simp
        have hl2 : 24 - (UInt8.ofNat (48 + v % 10) :: D).length = i := by simp; omega
        clear hD hbv HE HR HB
        go_wp2_with fail
        refine ⟨⟨UInt8.ofNat (48 + v % 10) :: D, v / 10, by simp; omega, by omega, by rw [Int.natCast_ediv]; rfl, by rw [hl2], HEN, HRN, HBN⟩, ?_⟩
        simp [intOf]; omega
      · obtain rfl : v = 0 := by omega
        have hD2 : D = Lib.decDigits n := by have h := HE.out; simpa [restD] using h
        have h24 : D.length ≤ 24 := by omega
        have hconv : (convert 49 9 (.slice (some ⟨B, 24 - D.length, none⟩) D.length D.length)).run Tryd.prog wr = .ok (.string ⟨(Lib.decDigits n).toArray⟩) wr := by
          rw [← hD2]
          exact run_convert_bytes_back wr 49 9 5 ⟨B, 24 - D.length, none⟩ D.length D Tryd.underlying49 Tryd.underlying5 Tryd.underlying9 (fun j hj => by
            rw [fill.add_none]; exact HR.out.cell (bufD_get D h24 j hj))
        have h0 : (0 : Int) ≤ ((24 - D.length : Nat) : Int) := by omega
        have h1 : ((24 - D.length : Nat) : Int) ≤ 24 := by omega
        have hd1 : 1 ≤ D.length := by rw [hD2, Lib.decDigits_length]; exact Lib.nDigits_pos n
        obtain ⟨q, hq⟩ : ∃ q, q = 24 - D.length := ⟨_, rfl⟩
        have hq24 : ¬ (24 = q) := by omega
        have hqD : 24 - q = D.length := by omega
        rw [← hq] at h0 h1 hconv ⊢
        rw [← hqD] at hconv
        have HBE := Lib.hid HB.out
        clear HB HR HE hq hqD hd1
        go_wp2_with fail
        go_ret
        exact ⟨rfl, HBE.out⟩
end Go.Proofs.YtbogmmpbmgibnaaDoor.digits
