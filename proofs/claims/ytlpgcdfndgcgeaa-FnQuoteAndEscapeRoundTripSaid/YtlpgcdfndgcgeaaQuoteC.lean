/- What unescapeModel returns on the escaped form of a text without backslashes: the text, and true. -/
import Derived.Test.YtlpgcdfndgcgeaaQuoteB
import Derived.Laws.IdiomStrings
import Derived.Deep.QuietTactic
import Derived.BigQuiet
import Derived.WalkSpells
namespace Go.Proofs.Ytlpgcdfndgcgeaa.quote
open Go.ChangeShapes Go.WideShapes Go.ChangeAt Go.RowKit
open plain

theorem hexv (m : Nat) (w : World) (hm : m < 16) : Calls Try.prog 29 #[.int .u8 ((hexd m : Nat) : Int)] w fun e w' => e = .returned (.tuple #[.int .i64 m, .bool true]) ∧ w = w' := by
  by_cases h : m < 10
  · have e : ((hexd m : Nat) : Int) = (m : Int) + 48 := by simp [hexd, h]
    rw [e]; clear e
    go_enter Try.func29, Try.ntmps29
    go_wp2
    go_ret2
    exact ⟨rfl, rfl⟩
  · have e : ((hexd m : Nat) : Int) = (m : Int) + 87 := by simp [hexd, h]
    rw [e]; clear e
    have h3 : decide ((m : Int) + 87 ≤ 57) = false := by simp; omega
    go_enter Try.func29, Try.ntmps29
    go_wp2
    go_ret2
    exact ⟨by simp; omega, rfl⟩

theorem hexd_lt (m : Nat) (hm : m < 16) : hexd m < 256 := by unfold hexd; split <;> omega

/-- bytes as cells -/
def cellsB (l : List UInt8) : List Value := l.map fun (c : UInt8) => Value.int .u8 (c.toNat : Int)

/-- the decoder's own buffer: the first t bytes of the text -/
def Dec (w wr : World) (m t : Nat) (l : List UInt8) : Prop :=
  wr.ownsRow w.heap.size 5 1 (.slice (some ⟨w.heap.size, 0, none⟩) t m) t (cellsB (l.take t)) ∧ Below w.heap.size w wr

theorem dec_push {w wr w1 : World} {m t : Nat} {l : List UInt8} (ht : t < l.length) (o : Obj) (h : Dec w wr m t l)
    (ho : w1.ownsRow w.heap.size 5 1 (.slice (some ⟨w.heap.size, 0, none⟩) (t + 1) m) (t + 1) (cellsB (l.take t) ++ [.int .u8 (l[t].toNat : Int)])) (hg : (wr.alloc o).grownBy w1 (some w.heap.size)) : Dec w w1 m (t + 1) l := by
  refine ⟨?_, ((h.2.alloc h.2.size o).grown hg (by have := h.2.size; simp; omega) (fun k hk => by cases hk; exact Nat.le_refl _))⟩
  have e : cellsB (l.take (t + 1)) = cellsB (l.take t) ++ [.int .u8 (l[t].toNat : Int)] := by rw [List.take_succ_eq_append_getElem ht, cellsB, List.map_append]; rfl
  rw [e]; exact ho

theorem add_none (b o j : Nat) : (⟨b, o, none⟩ : Addr).add j = ⟨b, o + j, none⟩ := by unfold Addr.add; split <;> simp_all

theorem dec_string {w wr : World} {m : Nat} (s : ByteArray) (h : Dec w wr m s.size s.data.toList) :
    (convert 33 9 (.slice (some ⟨w.heap.size, 0, none⟩) s.size m)).run Try.prog wr = .ok (.string s) wr := by
  have hl : s.data.toList.length = s.size := Array.length_toList
  have hr := run_convert_bytes_back (P := Try.prog) wr 33 9 5 ⟨w.heap.size, 0, none⟩ m s.data.toList Try.underlying33 Try.underlying5 Try.underlying9 (fun j hj => by
    have hc := h.1.cellAt j (by omega)
    have e : (cellsB (s.data.toList.take s.size))[j]? = some (.int .u8 (s.data.toList[j].toNat : Int)) := by
      rw [List.take_of_length_le (Nat.le_of_eq hl), cellsB, List.getElem?_map, List.getElem?_eq_getElem hj]; rfl
    rw [e] at hc
    rw [add_none, Nat.zero_add]; exact hc)
  rw [hl] at hr
  simpa using hr

/-- the cells of the escaped text from place o of block B on -/
def Src (w : World) (B o : Nat) (l : List UInt8) : Prop := B < w.heap.size ∧ ∀ t, t < (enc l).length → w.cell? ⟨B, o + t, none⟩ = some (.int .u8 (((enc l).getD t 0 : Nat) : Int))

theorem Src.at {w wr : World} {B o : Nat} {l : List UInt8} (h : Src w B o l) (hb : Below w.heap.size w wr) (t : Nat) (ht : t < (enc l).length) {y : Nat} (hy : (enc l).getD t 0 = y) (x : Int) (hx : (y : Int) = x) (k : Nat) (hk : o + t = k) : wr.cell? ⟨B, k, none⟩ = some (.int .u8 x) := by
  subst hk
  rw [hb.cell (p := ⟨B, o + t, none⟩) h.1, h.2 t ht, hy, hx]

set_option maxRecDepth 100000 in
set_option maxHeartbeats 1600000 in
theorem une_no (B m : Nat) (s : ByteArray) (w : World) (hm : m ≤ 7000000) (HM : Hid ((enc s.data.toList).length = m)) (_hsz : s.size ≤ 1048576) (HS : Hid (Src w B 0 s.data.toList)) (HN : Hid (hasBs s.data.toList = false)) :
    Calls Try.prog 21 #[.slice (some ⟨B, 0, none⟩) (m) (m), .bool false] w fun e w' => e = .returned (.tuple #[.string s, .bool true]) ∧ Below w.heap.size w w' := by
  obtain ⟨i0, hi, hz0, hz1, hz2⟩ := info_parts info5
  go_enter Try.func21, Try.ntmps21
  go_wp2_with (at_make; refine wpList_make_own _ rfl _ _ 33 rfl w.heap.size 5 i0 (.int .u8 0) 1 Try.underlying33 hi hz0 hz1 .i64 .i64 _ m rfl rfl (by omega) (by rw [hz2]; omega) (by unfold maxLen; omega) (Nat.le_refl _) ?_; intro w0 hown0 hgrow0)
  have hd0 : Dec w w0 m 0 s.data.toList := ⟨by simpa [cellsB] using hown0, (Below.refl _ _).grown hgrow0 (Nat.le_refl _) (fun k hk => by cases hk)⟩
  clear hown0 hgrow0
  go_loopw [7, 8] (fun vd vi wr => ∃ i t : Nat, t ≤ s.size ∧ t ≤ i ∧ i ≤ m ∧ Hid (i = (enc (s.data.toList.take t)).length) ∧ vi = .int .i64 i ∧ vd = .slice (some ⟨w.heap.size, 0, none⟩) t m ∧ Hid (Dec w wr m t s.data.toList)) (fun _ vi _ => m - (intOf vi).toNat)
  case atStart => exact ⟨0, 0, Nat.zero_le _, Nat.le_refl _, Nat.zero_le _, by unfold Hid; simp [enc], rfl, rfl, hd0⟩
  case round =>
    obtain ⟨i, t, ht, hti, him, HI, rfl, rfl, HD⟩ := hrel
    have hll : s.data.toList.length = s.size := Array.length_toList
    by_cases hlt : t < s.size
    · have htl : t < s.data.toList.length := by omega
      have hsn := enc_snoc (s.data.toList.take t) s.data.toList[t]
      rw [← List.take_succ_eq_append_getElem htl] at hsn
      have hbel := HD.out.2
      by_cases h32 : s.data.toList[t].toNat < 32
      · obtain ⟨p6, p0, p1, p2, p3, p4, p5⟩ := enc_small s.data.toList t htl h32
        rw [← HI.out] at p6 p0 p1 p2 p3 p4 p5
        have c0 := HS.out.at hbel i (by omega) p0 92 rfl i (by omega)
        have c1 := HS.out.at hbel (i + 1) (by omega) p1 117 rfl (i + 1) (by omega)
        have c2 := HS.out.at hbel (i + 2) (by omega) p2 48 rfl (i + 2) (by omega)
        have c3 := HS.out.at hbel (i + 3) (by omega) p3 48 rfl (i + 3) (by omega)
        have c4 := HS.out.at hbel (i + 4) (by omega) p4 _ rfl (i + 4) (by omega)
        have c5 := HS.out.at hbel (i + 5) (by omega) p5 _ rfl (i + 5) (by omega)
        have hnew : Hid (i + 6 = (enc (s.data.toList.take (t + 1))).length) := by
          unfold Hid; rw [hsn, List.length_append, ← HI.out, enc1_len, if_pos h32]
        rw [HM.out] at p6
        clear p0 p1 p2 p3 p4 p5 hsn hbel hll
        have hback := Lib.hid (hexd_back s.data.toList[t].toNat)
        have hcv : s.data.toList[t].toNat / 16 < 16 := by omega
        have hcv2 : s.data.toList[t].toNat % 16 < 16 := by omega
        have hcd : s.data.toList[t].toNat / 16 * 16 + s.data.toList[t].toNat % 16 < 32 := by omega
        have HEL : Hid ((((s.data.toList[t].toNat / 16 : Nat) : Int) * 16 + ((s.data.toList[t].toNat % 16 : Nat) : Int)) = (s.data.toList[t].toNat : Int)) := by unfold Hid; have := hback.out; omega
        have HP : Hid (∀ o w1, w1.ownsRow w.heap.size 5 1 (.slice (some ⟨w.heap.size, 0, none⟩) (t + 1) m) (t + 1) (cellsB (s.data.toList.take t) ++ [.int .u8 (((s.data.toList[t].toNat / 16 : Nat) : Int) * 16 + ((s.data.toList[t].toNat % 16 : Nat) : Int))]) → (wr.alloc o).grownBy w1 (some w.heap.size) → Dec w w1 m (t + 1) s.data.toList) := by
          intro o w1 h1 h2; rw [HEL.out] at h1; exact dec_push htl o HD.out h1 h2
        clear hback HEL
        have hown := HD.out.1
        generalize cellsB (s.data.toList.take t) = xs at hown HP
        generalize s.data.toList[t].toNat / 16 = ch at *
        generalize s.data.toList[t].toNat % 16 = cl at *
        clear htl h32
        go_wp2_with (first | (go_at_call 29; refine (hexv _ _ (by omega)).mono ?_; rintro e w' ⟨rfl, rfl⟩) | (at_builtin; refine wpList_append_fits _ rfl _ _ 33 rfl w.heap.size 5 i0 1 Try.underlying33 hi hz1 w.heap.size t m xs rfl (hown.alloc _) ⟨wr.heap.size, 0, none⟩ 1 1 [.int .u8 ((ch : Int) * 16 + (cl : Int))] rfl rfl (cell_one_new _ _ _) (by intro u hu; simp at hu; subst hu; rfl) (by omega) ?_; intro w1 hown1 hgrow1))
        have HD1 := HP.out _ _ hown1 hgrow1
        clear hown1 hgrow1 hown
        go_wp2_with fail
        go_roundw
        case rel => exact ⟨i + 6, t + 1, by omega, by omega, by omega, hnew, by go_num, rfl, HD1⟩
        case measure => simp [intOf]; omega
      · obtain ⟨p6, p0⟩ := enc_big s.data.toList t htl h32
        rw [← HI.out] at p6 p0
        have c0 := HS.out.at hbel i (by omega) p0 _ rfl i (by omega)
        have hnew : Hid (i + 1 = (enc (s.data.toList.take (t + 1))).length) := by
          unfold Hid; rw [hsn, List.length_append, ← HI.out, enc1_len, if_neg h32]
        rw [HM.out] at p6
        have h92 : (((s.data.toList[t].toNat : Nat) : Int) != 92) = true := by
          have hn := HN.out
          unfold hasBs at hn
          rw [List.any_eq_false] at hn
          have := hn _ (List.getElem_mem htl)
          simp at this ⊢
          omega
        have hlt256 : s.data.toList[t].toNat < 256 := UInt8.toNat_lt _
        have HP : Hid (∀ o w1, w1.ownsRow w.heap.size 5 1 (.slice (some ⟨w.heap.size, 0, none⟩) (t + 1) m) (t + 1) (cellsB (s.data.toList.take t) ++ [.int .u8 ((s.data.toList[t].toNat : Nat) : Int)]) → (wr.alloc o).grownBy w1 (some w.heap.size) → Dec w w1 m (t + 1) s.data.toList) := by
          intro o w1 h1 h2; exact dec_push htl o HD.out h1 h2
        have hown := HD.out.1
        clear p0 hsn hbel hll
        generalize cellsB (s.data.toList.take t) = xs at hown HP
        generalize s.data.toList[t].toNat = ch at *
        clear htl h32
        go_wp2_with (at_builtin; refine wpList_append_fits _ rfl _ _ 33 rfl w.heap.size 5 i0 1 Try.underlying33 hi hz1 w.heap.size t m xs rfl (hown.alloc _) ⟨wr.heap.size, 0, none⟩ 1 1 [.int .u8 (ch : Int)] rfl rfl (cell_one_new _ _ _) (by intro u hu; simp at hu; subst hu; rfl) (by omega) ?_; intro w1 hown1 hgrow1)
        have HD1 := HP.out _ _ hown1 hgrow1
        clear hown1 hgrow1 hown
        go_wp2_with fail
        go_roundw
        case rel => exact ⟨i + 1, t + 1, by omega, by omega, by omega, hnew, by go_num, rfl, HD1⟩
        case measure => simp [intOf]; omega
    · obtain rfl : t = s.size := by omega
      have hi2 := HI.out
      rw [List.take_of_length_le (Nat.le_of_eq hll), HM.out] at hi2
      have hdone : ¬ i < m := by omega
      have hcv := dec_string s HD.out
      have hbel := HD.out.2
      clear hi2 hll
      go_wp2_with fail
      go_ret2
      exact ⟨rfl, hbel⟩
set_option maxRecDepth 100000 in
set_option maxHeartbeats 1600000 in
theorem une_yes (B m n : Nat) (s : ByteArray) (w : World) (hm : m ≤ 7000000) (HM : Hid ((enc s.data.toList).length = m)) (_hsz : s.size ≤ 1048576) (HS : Hid (Src w B 1 s.data.toList)) (HN : Hid (hasBs s.data.toList = false)) (hn1 : n - 1 = m + 1) (hn2 : 2 ≤ n) (q1 : w.cell? ⟨B, 0, none⟩ = some (.int .u8 34)) (q2 : w.cell? ⟨B, m + 1, none⟩ = some (.int .u8 34)) :
    Calls Try.prog 21 #[.slice (some ⟨B, 0, none⟩) n n, .bool true] w fun e w' => e = .returned (.tuple #[.string s, .bool true]) ∧ Below w.heap.size w w' := by
  obtain ⟨i0, hi, hz0, hz1, hz2⟩ := info_parts info5
  have hd : decide ((n : Int) < 2) = false := by simp; omega
  have hnn : (0 : Int) ≤ (n : Int) - 1 := by omega
  go_enter Try.func21, Try.ntmps21
  go_wp2_with (at_make; refine wpList_make_own _ rfl _ _ 33 rfl w.heap.size 5 i0 (.int .u8 0) 1 Try.underlying33 hi hz0 hz1 .i64 .i64 _ m rfl rfl (by omega) (by rw [hz2]; omega) (by unfold maxLen; omega) (Nat.le_refl _) ?_; intro w0 hown0 hgrow0)
  have hd0 : Dec w w0 m 0 s.data.toList := ⟨by simpa [cellsB] using hown0, (Below.refl _ _).grown hgrow0 (Nat.le_refl _) (fun k hk => by cases hk)⟩
  clear hown0 hgrow0
  go_loopw [7, 8] (fun vd vi wr => ∃ i t : Nat, t ≤ s.size ∧ t ≤ i ∧ i ≤ m ∧ Hid (i = (enc (s.data.toList.take t)).length) ∧ vi = .int .i64 i ∧ vd = .slice (some ⟨w.heap.size, 0, none⟩) t m ∧ Hid (Dec w wr m t s.data.toList)) (fun _ vi _ => m - (intOf vi).toNat)
  case atStart => exact ⟨0, 0, Nat.zero_le _, Nat.le_refl _, Nat.zero_le _, by unfold Hid; simp [enc], rfl, rfl, hd0⟩
  case round =>
    obtain ⟨i, t, ht, hti, him, HI, rfl, rfl, HD⟩ := hrel
    have hll : s.data.toList.length = s.size := Array.length_toList
    by_cases hlt : t < s.size
    · have htl : t < s.data.toList.length := by omega
      have hsn := enc_snoc (s.data.toList.take t) s.data.toList[t]
      rw [← List.take_succ_eq_append_getElem htl] at hsn
      have hbel := HD.out.2
      by_cases h32 : s.data.toList[t].toNat < 32
      · obtain ⟨p6, p0, p1, p2, p3, p4, p5⟩ := enc_small s.data.toList t htl h32
        rw [← HI.out] at p6 p0 p1 p2 p3 p4 p5
        have c0 := HS.out.at hbel i (by omega) p0 92 rfl (1 + i) (by omega)
        have c1 := HS.out.at hbel (i + 1) (by omega) p1 117 rfl (1 + (i + 1)) (by omega)
        have c2 := HS.out.at hbel (i + 2) (by omega) p2 48 rfl (1 + (i + 2)) (by omega)
        have c3 := HS.out.at hbel (i + 3) (by omega) p3 48 rfl (1 + (i + 3)) (by omega)
        have c4 := HS.out.at hbel (i + 4) (by omega) p4 _ rfl (1 + (i + 4)) (by omega)
        have c5 := HS.out.at hbel (i + 5) (by omega) p5 _ rfl (1 + (i + 5)) (by omega)
        have hnew : Hid (i + 6 = (enc (s.data.toList.take (t + 1))).length) := by
          unfold Hid; rw [hsn, List.length_append, ← HI.out, enc1_len, if_pos h32]
        rw [HM.out] at p6
        clear p0 p1 p2 p3 p4 p5 hsn hbel hll
        have hback := Lib.hid (hexd_back s.data.toList[t].toNat)
        have hcv : s.data.toList[t].toNat / 16 < 16 := by omega
        have hcv2 : s.data.toList[t].toNat % 16 < 16 := by omega
        have hcd : s.data.toList[t].toNat / 16 * 16 + s.data.toList[t].toNat % 16 < 32 := by omega
        have HEL : Hid ((((s.data.toList[t].toNat / 16 : Nat) : Int) * 16 + ((s.data.toList[t].toNat % 16 : Nat) : Int)) = (s.data.toList[t].toNat : Int)) := by unfold Hid; have := hback.out; omega
        have HP : Hid (∀ o w1, w1.ownsRow w.heap.size 5 1 (.slice (some ⟨w.heap.size, 0, none⟩) (t + 1) m) (t + 1) (cellsB (s.data.toList.take t) ++ [.int .u8 (((s.data.toList[t].toNat / 16 : Nat) : Int) * 16 + ((s.data.toList[t].toNat % 16 : Nat) : Int))]) → (wr.alloc o).grownBy w1 (some w.heap.size) → Dec w w1 m (t + 1) s.data.toList) := by
          intro o w1 h1 h2; rw [HEL.out] at h1; exact dec_push htl o HD.out h1 h2
        clear hback HEL
        have hown := HD.out.1
        generalize cellsB (s.data.toList.take t) = xs at hown HP
        generalize s.data.toList[t].toNat / 16 = ch at *
        generalize s.data.toList[t].toNat % 16 = cl at *
        clear htl h32
        go_wp2_with (first | (go_at_call 29; refine (hexv _ _ (by omega)).mono ?_; rintro e w' ⟨rfl, rfl⟩) | (at_builtin; refine wpList_append_fits _ rfl _ _ 33 rfl w.heap.size 5 i0 1 Try.underlying33 hi hz1 w.heap.size t m xs rfl (hown.alloc _) ⟨wr.heap.size, 0, none⟩ 1 1 [.int .u8 ((ch : Int) * 16 + (cl : Int))] rfl rfl (cell_one_new _ _ _) (by intro u hu; simp at hu; subst hu; rfl) (by omega) ?_; intro w1 hown1 hgrow1))
        have HD1 := HP.out _ _ hown1 hgrow1
        clear hown1 hgrow1 hown
        go_wp2_with fail
        go_roundw
        case rel => exact ⟨i + 6, t + 1, by omega, by omega, by omega, hnew, by go_num, rfl, HD1⟩
        case measure => simp [intOf]; omega
      · obtain ⟨p6, p0⟩ := enc_big s.data.toList t htl h32
        rw [← HI.out] at p6 p0
        have c0 := HS.out.at hbel i (by omega) p0 _ rfl (1 + i) (by omega)
        have hnew : Hid (i + 1 = (enc (s.data.toList.take (t + 1))).length) := by
          unfold Hid; rw [hsn, List.length_append, ← HI.out, enc1_len, if_neg h32]
        rw [HM.out] at p6
        have h92 : (((s.data.toList[t].toNat : Nat) : Int) != 92) = true := by
          have hn := HN.out
          unfold hasBs at hn
          rw [List.any_eq_false] at hn
          have := hn _ (List.getElem_mem htl)
          simp at this ⊢
          omega
        have hlt256 : s.data.toList[t].toNat < 256 := UInt8.toNat_lt _
        have HP : Hid (∀ o w1, w1.ownsRow w.heap.size 5 1 (.slice (some ⟨w.heap.size, 0, none⟩) (t + 1) m) (t + 1) (cellsB (s.data.toList.take t) ++ [.int .u8 ((s.data.toList[t].toNat : Nat) : Int)]) → (wr.alloc o).grownBy w1 (some w.heap.size) → Dec w w1 m (t + 1) s.data.toList) := by
          intro o w1 h1 h2; exact dec_push htl o HD.out h1 h2
        have hown := HD.out.1
        clear p0 hsn hbel hll
        generalize cellsB (s.data.toList.take t) = xs at hown HP
        generalize s.data.toList[t].toNat = ch at *
        clear htl h32
        go_wp2_with (at_builtin; refine wpList_append_fits _ rfl _ _ 33 rfl w.heap.size 5 i0 1 Try.underlying33 hi hz1 w.heap.size t m xs rfl (hown.alloc _) ⟨wr.heap.size, 0, none⟩ 1 1 [.int .u8 (ch : Int)] rfl rfl (cell_one_new _ _ _) (by intro u hu; simp at hu; subst hu; rfl) (by omega) ?_; intro w1 hown1 hgrow1)
        have HD1 := HP.out _ _ hown1 hgrow1
        clear hown1 hgrow1 hown
        go_wp2_with fail
        go_roundw
        case rel => exact ⟨i + 1, t + 1, by omega, by omega, by omega, hnew, by go_num, rfl, HD1⟩
        case measure => simp [intOf]; omega
    · obtain rfl : t = s.size := by omega
      have hi2 := HI.out
      rw [List.take_of_length_le (Nat.le_of_eq hll), HM.out] at hi2
      have hdone : ¬ i < m := by omega
      have hcv := dec_string s HD.out
      have hbel := HD.out.2
      clear hi2 hll
      go_wp2_with fail
      go_ret2
      exact ⟨rfl, hbel⟩
end Go.Proofs.Ytlpgcdfndgcgeaa.quote
