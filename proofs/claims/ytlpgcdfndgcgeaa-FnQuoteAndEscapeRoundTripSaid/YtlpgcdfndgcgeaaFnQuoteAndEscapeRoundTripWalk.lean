/- The walk of the law FnQuoteAndEscapeRoundTrip: it returns true at every text, flag and count. -/
import Derived.Test.YtlpgcdfndgcgeaaQuoteC
namespace Go.Proofs.Ytlpgcdfndgcgeaa.fnQuoteAndEscapeRoundTrip
open Go.ChangeShapes Go.WideShapes Go.ChangeAt Go.RowKit
open plain quote

theorem buf_cell {w w' : World} {B n : Nat} {bytes : List Nat} (h : Buf w w' B n bytes) (k : Nat) (hk : k < n) : w'.cell? ⟨B, k, none⟩ = some (.int .u8 ((bytes.getD k 0 : Nat) : Int)) := by
  rw [h.1.cellAt k (by omega), cellsN, List.getElem?_map, List.getElem?_eq_getElem (by rw [h.2.1]; exact hk)]
  simp [List.getD, List.getElem?_eq_getElem (show k < bytes.length by rw [h.2.1]; exact hk)]
theorem buf_lt {w w' : World} {B n : Nat} {bytes : List Nat} (h : Buf w w' B n bytes) : B < w'.heap.size := by
  rcases h.1.2 with ⟨h', _⟩ | ⟨g', cap', cur, h', hb, hg, _⟩
  · simp at h'
  · simp only [Value.slice.injEq, Option.some.injEq, Addr.mk.injEq, and_true, true_and] at h'
    obtain ⟨rfl, rfl⟩ := h'
    exact (Array.getElem?_eq_some_iff.1 hg).1

theorem src_no {w w' : World} {B n : Nat} {l : List UInt8} (h : Buf w w' B n (enc l)) : Src w' B 0 l :=
  ⟨buf_lt h, fun t ht => by rw [Nat.zero_add]; exact buf_cell h t (by have := h.2.1; omega)⟩
theorem src_yes {w w' : World} {B n : Nat} {l : List UInt8} (h : Buf w w' B n (outB true l)) : Src w' B 1 l ∧ n = (enc l).length + 2 ∧ w'.cell? ⟨B, 0, none⟩ = some (.int .u8 34) ∧ w'.cell? ⟨B, (enc l).length + 1, none⟩ = some (.int .u8 34) := by
  have hn : n = (enc l).length + 2 := by have := h.2.1; simp [outB] at this; omega
  have ho : outB true l = 34 :: (enc l ++ [34]) := by simp [outB]
  refine ⟨⟨buf_lt h, fun t ht => ?_⟩, hn, ?_, ?_⟩
  · rw [buf_cell h (1 + t) (by omega), ho, Nat.add_comm 1 t]
    simp [List.getElem?_append_left ht]
  · rw [buf_cell h 0 (by omega), ho]; rfl
  · rw [buf_cell h _ (by omega), ho]; simp

theorem zq_no (s : ByteArray) (w : World) (h : s.size ≤ 1048576) :
    Calls Try.prog 20 #[.string s, .bool false, .int .i64 (ctl s.data.toList)] w fun e w' => e = .returned (.slice (some ⟨w.heap.size, 0, none⟩) (s.size + ctl s.data.toList * 5) (s.size + ctl s.data.toList * 5)) ∧ Buf w w' w.heap.size (s.size + ctl s.data.toList * 5) (enc s.data.toList) := by
  go_enter Try.func20, Try.ntmps20
  go_wp2_with (go_at_call 28; refine (quote_no _ _ h).mono ?_; rintro e w' ⟨rfl, hb⟩)
  go_ret
  exact ⟨rfl, hb⟩
theorem zq_yes (s : ByteArray) (w : World) (h : s.size ≤ 1048576) :
    Calls Try.prog 20 #[.string s, .bool true, .int .i64 (ctl s.data.toList)] w fun e w' => e = .returned (.slice (some ⟨w.heap.size, 0, none⟩) (s.size + ctl s.data.toList * 5 + 2) (s.size + ctl s.data.toList * 5 + 2)) ∧ Buf w w' w.heap.size (s.size + ctl s.data.toList * 5 + 2) (outB true s.data.toList) := by
  go_enter Try.func20, Try.ntmps20
  go_wp2_with (go_at_call 28; refine (quote_yes _ _ h).mono ?_; rintro e w' ⟨rfl, hb⟩)
  go_ret
  exact ⟨rfl, hb⟩

set_option maxHeartbeats 800000 in
theorem walk (a0 : ByteArray) (a1 : Bool) (a2 : Int) (w : World) (_ : a0.size ≤ maxLen) (_ : (Lit.int .i64 a2).wf = true) :
    Calls Try.prog 7 #[.string a0, .bool a1, .int .i64 a2] w fun e w' => e = .returned (.bool true) ∧ Below w.heap.size w w' := by
  by_cases hsz : a0.size ≤ 1048576
  · have hd : ¬ (1048576 : Int) < a0.size := by omega
    by_cases hc : a2 = ctl a0.data.toList
    · have hne : (a2 != ((ctl a0.data.toList : Nat) : Int)) = false := by simp [hc]
      cases hbs : hasBs a0.data.toList
      · have HB := Lib.hid hbs
        have hlen : (enc a0.data.toList).length = a0.size + ctl a0.data.toList * 5 := by
          rw [enc_len, Array.length_toList]; have : a0.data.size = a0.size := rfl; omega
        have hcl : ctl a0.data.toList ≤ a0.size := by have := ctl_le a0.data.toList; rw [Array.length_toList] at this; exact this
        have HL := Lib.hid hlen
        subst hc
        clear hlen hbs hne
        cases a1
        · go_enter Try.func7, Try.ntmps7
          go_wp2_with (first | (go_at_call 17; refine (zb_yes _ _ _ _ hsz).mono ?_; rintro e w1 ⟨rfl, rfl⟩) | (go_at_call 18; refine (count _ _ hsz).mono ?_; rintro e w1 ⟨rfl, rfl⟩) | (go_at_call 19; refine (back _ _ hsz).mono ?_; rintro e w1 ⟨rfl, rfl⟩; rw [HB.out]) | (go_at_call 20; refine (zq_no _ _ hsz).mono ?_; rintro e w1 ⟨rfl, hb1⟩) | (go_at_call 21; refine (une_no _ _ a0 _ (by omega) HL hsz (src_no hb1) HB).mono ?_; rintro e w2 ⟨rfl, hb2⟩))
          go_ret
          exact ⟨by simp, hb1.2.2.1.trans (hb2.mono hb1.2.2.1.size)⟩
        · go_enter Try.func7, Try.ntmps7
          go_wp2_with (first | (go_at_call 17; refine (zb_yes _ _ _ _ hsz).mono ?_; rintro e w1 ⟨rfl, rfl⟩) | (go_at_call 18; refine (count _ _ hsz).mono ?_; rintro e w1 ⟨rfl, rfl⟩) | (go_at_call 19; refine (back _ _ hsz).mono ?_; rintro e w1 ⟨rfl, rfl⟩; rw [HB.out]) | (go_at_call 20; refine (zq_yes _ _ hsz).mono ?_; rintro e w1 ⟨rfl, hb1⟩) | (go_at_call 21; refine (une_yes _ (a0.size + ctl a0.data.toList * 5) _ a0 _ (by omega) HL hsz (src_yes hb1).1 HB (by omega) (by omega) (src_yes hb1).2.2.1 (HL.out ▸ (src_yes hb1).2.2.2)).mono ?_; rintro e w2 ⟨rfl, hb2⟩))
          go_ret
          exact ⟨by simp, hb1.2.2.1.trans (hb2.mono hb1.2.2.1.size)⟩
      · have HB := Lib.hid hbs
        clear hbs
        go_enter Try.func7, Try.ntmps7
        go_wp2_with (first | (go_at_call 17; refine (zb_yes _ _ _ _ hsz).mono ?_; rintro e w1 ⟨rfl, rfl⟩) | (go_at_call 18; refine (count _ _ hsz).mono ?_; rintro e w1 ⟨rfl, rfl⟩) | (go_at_call 19; refine (back _ _ hsz).mono ?_; rintro e w1 ⟨rfl, rfl⟩; rw [HB.out]))
        go_ret
        exact ⟨rfl, Below.refl _ _⟩
    · have hne : (a2 != ((ctl a0.data.toList : Nat) : Int)) = true := by simp [hc]
      clear hc
      go_enter Try.func7, Try.ntmps7
      go_wp2_with (first | (go_at_call 17; refine (zb_yes _ _ _ _ hsz).mono ?_; rintro e w1 ⟨rfl, rfl⟩) | (go_at_call 18; refine (count _ _ hsz).mono ?_; rintro e w1 ⟨rfl, rfl⟩))
      go_ret
      exact ⟨rfl, Below.refl _ _⟩
  · go_enter Try.func7, Try.ntmps7
    go_wp2_with (go_at_call 17; refine (zb_no _ _ _ _ (by omega)).mono ?_; rintro e w1 ⟨rfl, rfl⟩)
    go_ret
    exact ⟨rfl, Below.refl _ _⟩
end Go.Proofs.Ytlpgcdfndgcgeaa.fnQuoteAndEscapeRoundTrip
