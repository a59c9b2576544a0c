/- What quoteAndEscape returns: a new slice of bytes, the source escaped, between quotes where asked. -/
import Derived.Test.YtlpgcdfndgcgeaaQuoteA
import Derived.OwnWalk
import Derived.Lib.SlBuf
import Derived.Lib.BufferWrite
namespace Go.Proofs.Ytlpgcdfndgcgeaa.quote
open Go.ChangeShapes Go.WideShapes Go.ChangeAt Go.RowKit
open plain

theorem info5 : (Try.prog.info? 5).map (fun i => (i.zero, i.size, i.bytes)) = some (some (.int .u8 0), 1, 1) := by kernel_rfl

/-- copy of a string into an owned row of one-cell elements -/
theorem own_copy {P : Program} {w : World} {base g n : Nat} {e : TypeId} {xs : List Value} (h : w.ownsRow base e 1 (.slice (some ⟨g, 0, none⟩) n n) n xs) (dT sT ty elem : TypeId) (o dLen dCap : Nat) (s : ByteArray)
    (hu : P.underlying dT = some (.slice elem)) (hs : (P.info? elem).map (·.size) = some 1) (hle : s.size ≤ dLen) (hfit : o + s.size ≤ n) :
    ∃ w', (Builtin.copy_ #[dT, sT] ty #[.slice (some ⟨g, o, none⟩) dLen dCap, .string s]).run P w = .ok (goInt s.size) w' ∧
      w'.ownsRow base e 1 (.slice (some ⟨g, 0, none⟩) n n) n (xs.take o ++ Lib.byteCells s.data.toList ++ xs.drop (o + s.size)) ∧ w.grownBy w' (some g) := by
  have hl := h.1
  rcases h.2 with ⟨h', _⟩ | ⟨g', cap', cur, h', hb, hg, hnc, hcm, hcs, htake⟩
  · simp at h'
  · simp only [Value.slice.injEq, Option.some.injEq, Addr.mk.injEq, and_true, true_and] at h'
    obtain ⟨rfl, rfl⟩ := h'
    have hcur : cur.toList = xs := by rw [← htake, List.take_of_length_le (by rw [Array.length_toList, hcs]; exact Nat.le_refl _)]
    have hbl : (Lib.byteCells s.data.toList).length = s.size := by rw [Lib.byteCells_length, Array.length_toList]; rfl
    have hr := Lib.run_copy_row_string (P := P) w dT sT ty elem g o dLen dCap s cur e hu hs hg hle (by omega)
    rw [hcur] at hr
    have hsz : (xs.take o ++ Lib.byteCells s.data.toList ++ xs.drop (o + s.size)).length = n * 1 := by
      simp only [List.length_append, List.length_take, List.length_drop, hbl, hl]; omega
    refine ⟨_, hr, ⟨hsz, .inr ⟨g, n, _, rfl, hb, setRow_heap w g cur _ e _ hg, hnc, hcm, by simpa using hsz, ?_⟩⟩, ⟨rfl, rfl, rfl, by simp, fun k _ hk => setRow_other w g k _ (fun e => hk (by simp [e]))⟩⟩
    rw [List.take_of_length_le (by simpa using Nat.le_of_eq hsz)]

theorem own_some {w : World} {base g n cap : Nat} {e : TypeId} {xs : List Value} (h : w.ownsRow base e 1 (.slice (some ⟨g, 0, none⟩) n cap) n xs) (j : Nat) (hj : j < n) :
    (∃ v, w.cell? ⟨g, j, none⟩ = some v) ∧ w.frozen? ⟨g, j, none⟩ = false := by
  refine ⟨?_, h.frozenAt j⟩
  rw [h.cellAt j (by omega)]
  exact ⟨_, List.getElem?_eq_getElem (by rw [h.1]; omega)⟩

/-- the escaped bytes as cells -/
def cellsN (l : List Nat) : List Value := l.map fun (c : Nat) => Value.int .u8 (c : Int)

/-- what holds at the head of each round: the buffer of n bytes at block B has the first j bytes done, and its last byte as 'last' says -/
def Rel (w wr : World) (B n j : Nat) (done : List Nat) (last : Option Value) : Prop :=
  ∃ xs, wr.ownsRow w.heap.size 5 1 (.slice (some ⟨B, 0, none⟩) n n) n xs ∧ done.length = j ∧ xs.take j = cellsN done ∧ (∀ v, last = some v → xs[n - 1]? = some v) ∧ Below w.heap.size w wr ∧ w.heap.size ≤ B

theorem rel_put {w wr : World} {B n j : Nat} {done : List Nat} {last : Option Value} (h : Rel w wr B n j done last) (c : Nat) (hj : j + (if last.isSome then 1 else 0) < n) :
    Rel w (wr.setCell ⟨B, j, none⟩ (.int .u8 c)) B n (j + 1) (done ++ [c]) last := by
  obtain ⟨xs, ho, hl, ht, hq, hb, hB⟩ := h
  obtain ⟨ho', hg⟩ := ho.stored j (.int .u8 c)
  have hx : xs.length = n := by have := ho.1; omega
  refine ⟨_, ho', by simp [hl], ?_, ?_, hb.setCell hB _, hB⟩
  · rw [List.take_succ_eq_append_getElem (by simp; split at hj <;> omega), List.take_set_of_le (Nat.le_refl _), ht]
    simp [cellsN]
  · intro v hv
    rw [List.getElem?_set_ne (by rw [hv] at hj; simp at hj; omega)]
    exact hq v hv

theorem rel_copy {w wr w1 : World} {B n j : Nat} {done : List Nat} {last : Option Value} (xs : List Value) (ho : wr.ownsRow w.heap.size 5 1 (.slice (some ⟨B, 0, none⟩) n n) n xs) (hl : done.length = j) (ht : xs.take j = cellsN done)
    (hq : ∀ v, last = some v → xs[n - 1]? = some v) (hb : Below w.heap.size w wr) (hB : w.heap.size ≤ B) (l : List UInt8) (hfit : j + l.length + (if last.isSome then 1 else 0) ≤ n)
    (ho1 : w1.ownsRow w.heap.size 5 1 (.slice (some ⟨B, 0, none⟩) n n) n (xs.take j ++ Lib.byteCells l ++ xs.drop (j + l.length))) (hg : wr.grownBy w1 (some B)) :
    Rel w w1 B n (j + l.length) (done ++ l.map (·.toNat)) last := by
  have hx : xs.length = n := by have := ho.1; omega
  have hbl := Lib.byteCells_length l
  refine ⟨_, ho1, by simp [hl], ?_, ?_, hb.grown hg (hb.size) (fun k hk => by cases hk; exact hB), hB⟩
  · rw [List.take_append_of_le_length (by simp [hbl]; omega), List.take_of_length_le (by simp [hbl]; omega), ht]
    simp [cellsN, Lib.byteCells]
  · intro v hv
    have h1 := hq v hv
    rw [hv] at hfit
    simp at hfit
    rw [List.getElem?_append_right (by simp [hbl]; omega), List.getElem?_drop]
    rw [← h1]; congr 1
    simp [hbl]; omega

def hexS : ByteArray := ⟨#[48, 49, 50, 51, 52, 53, 54, 55, 56, 57, 97, 98, 99, 100, 101, 102]⟩
theorem hex_at : ∀ (m : Fin 16), (hexS[m.val]'(m.isLt)).toNat = hexd m.val := by decide +kernel

theorem rel_hex {w w1 : World} {B n j : Nat} {D : List Nat} {last : Option Value} (h : Rel w w1 B n (j + 4) (D ++ [92, 117, 48, 48]) last) (hj : j + 6 + (if last.isSome then 1 else 0) ≤ n) (m a b : Nat) (hm : m < 32) (ha : a = hexd (m / 16)) (hb : b = hexd (m % 16)) :
    Rel w ((w1.setCell ⟨B, j + 4, none⟩ (.int .u8 a)).setCell ⟨B, j + 5, none⟩ (.int .u8 b)) B n (j + 6) (D ++ enc1 m) last := by
  have h1 := rel_put h a (by omega)
  have h2 := rel_put h1 b (by omega)
  have e : D ++ enc1 m = D ++ [92, 117, 48, 48] ++ [a] ++ [b] := by simp [enc1, hm, ha, hb]
  rw [e]; exact h2

/-- the bytes that the buffer ends up with -/
def outB (q : Bool) (l : List UInt8) : List Nat := (if q then [34] else []) ++ enc l ++ (if q then [34] else [])

/-- the buffer, whole -/
def Buf (w w' : World) (B n : Nat) (bytes : List Nat) : Prop :=
  w'.ownsRow w.heap.size 5 1 (.slice (some ⟨B, 0, none⟩) n n) n (cellsN bytes) ∧ bytes.length = n ∧ Below w.heap.size w w' ∧ w.heap.size ≤ B

theorem rel_end_no {w wr : World} {B n j : Nat} {D : List Nat} (h : Rel w wr B n j D none) (hj : j = n) : Buf w wr B n D := by
  obtain ⟨xs, ho, hl, ht, _, hb, hB⟩ := h
  have hx : xs.length = n := by have := ho.1; omega
  rw [List.take_of_length_le (by omega)] at ht
  rw [ht] at ho
  exact ⟨ho, by omega, hb, hB⟩

theorem rel_end_yes {w wr : World} {B n j : Nat} {D : List Nat} (h : Rel w wr B n j D (some (.int .u8 34))) (hj : j + 1 = n) : Buf w wr B n (D ++ [34]) := by
  obtain ⟨xs, ho, hl, ht, hq, hb, hB⟩ := h
  have hx : xs.length = n := by have := ho.1; omega
  have h1 := hq _ rfl
  have e : xs = cellsN (D ++ [34]) := by
    have : xs = xs.take j ++ [xs[j]'(by omega)] := by
      rw [← List.take_succ_eq_append_getElem (by omega), List.take_of_length_le (by omega)]
    rw [this, ht]
    have h2 : xs[j]? = some (.int .u8 34) := by rw [← h1]; congr 1; omega
    rw [List.getElem?_eq_getElem (by omega)] at h2
    simp only [Option.some.injEq] at h2
    rw [h2]; simp [cellsN]
  rw [e] at ho
  exact ⟨ho, by simp; omega, hb, hB⟩

theorem rel_start {w w0 : World} {n : Nat} {xs : List Value} (ho : w0.ownsRow w.heap.size 5 1 (.slice (some ⟨w.heap.size, 0, none⟩) (n + 2) (n + 2)) (n + 2) xs) (hg : w.grownBy w0 none) :
    Rel w ((w0.setCell ⟨w.heap.size, 0, none⟩ (.int .u8 34)).setCell ⟨w.heap.size, n + 1, none⟩ (.int .u8 34)) w.heap.size (n + 2) 1 ([34] ++ enc []) (some (.int .u8 34)) := by
  have hb : Below w.heap.size w w0 := (Below.refl _ _).grown hg (Nat.le_refl _) (fun k hk => by cases hk)
  have r0 : Rel w w0 w.heap.size (n + 2) 0 [] none := ⟨_, ho, rfl, by simp [cellsN], (fun v hv => by cases hv), hb, Nat.le_refl _⟩
  obtain ⟨xs1, o1, l1, t1, _, b1, _⟩ := rel_put r0 34 (by simp)
  obtain ⟨o2, g2⟩ := o1.stored (n + 1) (.int .u8 34)
  have hx : xs1.length = n + 2 := by have := o1.1; omega
  refine ⟨_, o2, by simp [enc], ?_, ?_, b1.setCell (Nat.le_refl _) _, Nat.le_refl _⟩
  · rw [List.take_set_of_le (by omega), t1]; simp [enc]
  · intro v hv
    simp only [Option.some.injEq] at hv
    rw [← hv, show n + 2 - 1 = n + 1 from by omega, List.getElem?_set_self (by omega)]

set_option maxHeartbeats 800000 in
theorem quote_no (s : ByteArray) (w : World) (h : s.size ≤ 1048576) :
    Calls Try.prog 28 #[.string s, .bool false, .int .i64 (ctl s.data.toList)] w fun e w' => e = .returned (.slice (some ⟨w.heap.size, 0, none⟩) (s.size + ctl s.data.toList * 5) (s.size + ctl s.data.toList * 5)) ∧ Buf w w' w.heap.size (s.size + ctl s.data.toList * 5) (enc s.data.toList) := by
  obtain ⟨i0, hi, hz0, hz1, hz2⟩ := info_parts info5
  have hu5 : (Try.prog.info? 5).map (·.size) = some 1 := by rw [hi]; simp [hz1]
  have hc2 : ctl s.data.toList ≤ s.size := by have := ctl_le s.data.toList; rw [Array.length_toList] at this; exact this
  generalize hcc : ctl s.data.toList = c at *
  have HC := Lib.hid hcc; clear hcc
  go_enter Try.func28, Try.ntmps28
  go_wp2_with (at_make; refine wpList_make_full _ rfl _ _ 33 rfl w.heap.size 5 i0 (.int .u8 0) 1 Try.underlying33 hi hz0 hz1 .i64 .i64 _ _ (s.size + c * 5) rfl rfl (by omega) (by omega) (by rw [hz2]; omega) (by unfold maxLen; omega) (Nat.le_refl _) ?_; intro w0 hown0 hgrow0)
  have hr0 : Rel w w0 w.heap.size (s.size + c * 5) 0 [] none := ⟨_, hown0, rfl, by simp [cellsN], (fun v hv => by cases hv), (Below.refl _ _).grown hgrow0 (Nat.le_refl _) (fun k hk => by cases hk), Nat.le_refl _⟩
  clear hown0 hgrow0
  go_loopw [9, 34] (fun vj vi wr => ∃ i j : Nat, i ≤ s.size ∧ vi = .int .i64 i ∧ vj = .int .i64 j ∧ Rel w wr w.heap.size (s.size + c * 5) j (enc (s.data.toList.take i)) none) (fun _ vi _ => s.size - (intOf vi).toNat)
  case atStart => exact ⟨0, 0, Nat.zero_le _, rfl, rfl, hr0⟩
  case round =>
    obtain ⟨i, j, hi1, rfl, rfl, hr⟩ := hrel
    have hlen : j = i + 5 * ctl (s.data.toList.take i) := by
      obtain ⟨xs, _, h2, _⟩ := hr
      rw [← h2, enc_len, List.length_take, Array.length_toList]
      have : s.data.size = s.size := rfl
      omega
    by_cases hlt : i < s.size
    · have hsn := enc_snoc (s.data.toList.take i) s[i]
      rw [← take_snoc s i hlt] at hsn
      have HSN := Lib.hid hsn; clear hsn
      have hcs := ctl_snoc (s.data.toList.take i) s[i]
      rw [← take_snoc s i hlt] at hcs
      have hcl := ctl_take_le s.data.toList (i + 1)
      rw [hcs, HC.out] at hcl
      generalize hk : ctl (s.data.toList.take i) = k at *
      clear hk hcs
      by_cases h32 : s[i].toNat < 32
      · rw [if_pos h32] at hcl
        have hj6 : j + 6 ≤ s.size + c * 5 := by omega
        obtain ⟨xs, hxo, hxl, hxt, hxq, hxb, hxB⟩ := hr
        obtain ⟨w1, hrun, ho1, hg1⟩ := own_copy (P := Try.prog) hxo 33 9 3 5 j (s.size + c * 5 - j) (s.size + c * 5 - j) ⟨#[92, 117, 48, 48]⟩ Try.underlying33 hu5 (by show 4 ≤ _; omega) (by show j + 4 ≤ _; omega)
        have R1 : Rel w w1 w.heap.size (s.size + c * 5) (j + 4) (enc (s.data.toList.take i) ++ [92, 117, 48, 48]) none := rel_copy xs hxo hxl hxt hxq hxb hxB [92, 117, 48, 48] (by simp; omega) ho1 hg1
        obtain ⟨⟨v4, c4⟩, f4⟩ := own_some ho1 (j + 4) (by omega)
        obtain ⟨⟨v5, c5⟩, f5⟩ := own_some ho1 (j + 5) (by omega)
        have HR1 := Lib.hid R1
        clear R1 ho1 hg1 hxo hxl hxt hxq hxb hlen
        go_wp2_with (with_reducible refine Lib.wpList_copy_run _ rfl (.tmp 44) _ 33 9 rfl _ _ rfl rfl hrun ?_)
        go_roundw
        case rel =>
          refine ⟨i + 1, j + 6, by omega, by go_num, by go_num, ?_⟩
          rw [HSN.out]
          exact rel_hex HR1.out (by simp; omega) s[i].toNat _ _ h32 (hex_at ⟨s[i].toNat / 16, by omega⟩) (hex_at ⟨s[i].toNat % 16, by omega⟩)
        case measure => simp [intOf]; omega
      · rw [if_neg h32] at hcl
        have hj1 : j + 1 ≤ s.size + c * 5 := by omega
        obtain ⟨⟨v4, c4⟩, f4⟩ : (∃ v, wr.cell? ⟨w.heap.size, j, none⟩ = some v) ∧ wr.frozen? ⟨w.heap.size, j, none⟩ = false := by
          obtain ⟨xs, hxo, _⟩ := hr
          exact own_some hxo j (by omega)
        have HR1 := Lib.hid hr
        clear hr hlen
        go_wp2_with fail
        go_roundw
        case rel =>
          refine ⟨i + 1, j + 1, by omega, by go_num, by go_num, ?_⟩
          rw [HSN.out]
          have e : enc1 s[i].toNat = [s[i].toNat] := by simp [enc1, h32]
          rw [e]
          exact rel_put HR1.out _ (by simp; omega)
        case measure => simp [intOf]; omega
    · obtain rfl : i = s.size := by omega
      have et : s.data.toList.take s.size = s.data.toList := List.take_of_length_le (by rw [Array.length_toList]; exact Nat.le_refl _)
      rw [et] at hr hlen
      rw [HC.out] at hlen
      have HE := Lib.hid (rel_end_no hr (by omega))
      clear hr hlen et
      go_wp2_with fail
      go_ret
      exact ⟨rfl, HE.out⟩
set_option maxHeartbeats 800000 in
theorem quote_yes (s : ByteArray) (w : World) (h : s.size ≤ 1048576) :
    Calls Try.prog 28 #[.string s, .bool true, .int .i64 (ctl s.data.toList)] w fun e w' => e = .returned (.slice (some ⟨w.heap.size, 0, none⟩) (s.size + ctl s.data.toList * 5 + 2) (s.size + ctl s.data.toList * 5 + 2)) ∧ Buf w w' w.heap.size (s.size + ctl s.data.toList * 5 + 2) (outB true s.data.toList) := by
  obtain ⟨i0, hi, hz0, hz1, hz2⟩ := info_parts info5
  have hu5 : (Try.prog.info? 5).map (·.size) = some 1 := by rw [hi]; simp [hz1]
  have hc2 : ctl s.data.toList ≤ s.size := by have := ctl_le s.data.toList; rw [Array.length_toList] at this; exact this
  generalize hcc : ctl s.data.toList = c at *
  have HC := Lib.hid hcc; clear hcc
  go_enter Try.func28, Try.ntmps28
  go_wp2_with (at_make; refine wpList_make_full _ rfl _ _ 33 rfl w.heap.size 5 i0 (.int .u8 0) 1 Try.underlying33 hi hz0 hz1 .i64 .i64 _ _ (s.size + c * 5 + 2) rfl rfl (by omega) (by omega) (by rw [hz2]; omega) (by unfold maxLen; omega) (Nat.le_refl _) ?_; intro w0 hown0 hgrow0; obtain ⟨⟨v0, c0⟩, f0⟩ := own_some hown0 0 (by omega); obtain ⟨⟨v1, c1⟩, f1⟩ := own_some hown0 (s.size + c * 5 + 1) (by omega))
  have hr0 := rel_start hown0 hgrow0
  clear hown0 hgrow0 c0 f0 c1 f1
  rw [show ((s.size : Int) + (c : Int) * 5 + 2 - 1) = (s.size : Int) + (c : Int) * 5 + 1 from by omega, show s.size + c * 5 + 2 - 1 = s.size + c * 5 + 1 from by omega]
  go_loopw [9, 34] (fun vj vi wr => ∃ i j : Nat, i ≤ s.size ∧ vi = .int .i64 i ∧ vj = .int .i64 j ∧ Rel w wr w.heap.size (s.size + c * 5 + 2) j ([34] ++ enc (s.data.toList.take i)) (some (.int .u8 34))) (fun _ vi _ => s.size - (intOf vi).toNat)
  case atStart => exact ⟨0, 1, Nat.zero_le _, rfl, rfl, hr0⟩
  case round =>
    obtain ⟨i, j, hi1, rfl, rfl, hr⟩ := hrel
    have hlen : j = 1 + i + 5 * ctl (s.data.toList.take i) := by
      obtain ⟨xs, _, h2, _⟩ := hr
      rw [← h2, List.length_append, enc_len, List.length_take, Array.length_toList]
      have : s.data.size = s.size := rfl
      simp; omega
    by_cases hlt : i < s.size
    · have hsn := enc_snoc (s.data.toList.take i) s[i]
      rw [← take_snoc s i hlt] at hsn
      have HSN := Lib.hid hsn; clear hsn
      have hcs := ctl_snoc (s.data.toList.take i) s[i]
      rw [← take_snoc s i hlt] at hcs
      have hcl := ctl_take_le s.data.toList (i + 1)
      rw [hcs, HC.out] at hcl
      generalize hk : ctl (s.data.toList.take i) = k at *
      clear hk hcs
      by_cases h32 : s[i].toNat < 32
      · rw [if_pos h32] at hcl
        have hj6 : j + 6 + 1 ≤ s.size + c * 5 + 2 := by omega
        obtain ⟨xs, hxo, hxl, hxt, hxq, hxb, hxB⟩ := hr
        obtain ⟨w1, hrun, ho1, hg1⟩ := own_copy (P := Try.prog) hxo 33 9 3 5 j (s.size + c * 5 + 2 - j) (s.size + c * 5 + 2 - j) ⟨#[92, 117, 48, 48]⟩ Try.underlying33 hu5 (by show 4 ≤ _; omega) (by show j + 4 ≤ _; omega)
        have R1 : Rel w w1 w.heap.size (s.size + c * 5 + 2) (j + 4) ([34] ++ enc (s.data.toList.take i) ++ [92, 117, 48, 48]) (some (.int .u8 34)) := rel_copy xs hxo hxl hxt hxq hxb hxB [92, 117, 48, 48] (by simp; omega) ho1 hg1
        obtain ⟨⟨v4, c4⟩, f4⟩ := own_some ho1 (j + 4) (by omega)
        obtain ⟨⟨v5, c5⟩, f5⟩ := own_some ho1 (j + 5) (by omega)
        have HR1 := Lib.hid R1
        clear R1 ho1 hg1 hxo hxl hxt hxq hxb hlen
        go_wp2_with (with_reducible refine Lib.wpList_copy_run _ rfl (.tmp 44) _ 33 9 rfl _ _ rfl rfl hrun ?_)
        go_roundw
        case rel =>
          refine ⟨i + 1, j + 6, by omega, by go_num, by go_num, ?_⟩
          rw [HSN.out, ← List.append_assoc]
          exact rel_hex HR1.out (by simp; omega) s[i].toNat _ _ h32 (hex_at ⟨s[i].toNat / 16, by omega⟩) (hex_at ⟨s[i].toNat % 16, by omega⟩)
        case measure => simp [intOf]; omega
      · rw [if_neg h32] at hcl
        have hj1 : j + 1 + 1 ≤ s.size + c * 5 + 2 := by omega
        obtain ⟨⟨v4, c4⟩, f4⟩ : (∃ v, wr.cell? ⟨w.heap.size, j, none⟩ = some v) ∧ wr.frozen? ⟨w.heap.size, j, none⟩ = false := by
          obtain ⟨xs, hxo, _⟩ := hr
          exact own_some hxo j (by omega)
        have HR1 := Lib.hid hr
        clear hr hlen
        go_wp2_with fail
        go_roundw
        case rel =>
          refine ⟨i + 1, j + 1, by omega, by go_num, by go_num, ?_⟩
          rw [HSN.out, ← List.append_assoc]
          have e : enc1 s[i].toNat = [s[i].toNat] := by simp [enc1, h32]
          rw [e]
          exact rel_put HR1.out _ (by simp; omega)
        case measure => simp [intOf]; omega
    · obtain rfl : i = s.size := by omega
      have et : s.data.toList.take s.size = s.data.toList := List.take_of_length_le (by rw [Array.length_toList]; exact Nat.le_refl _)
      rw [et] at hr hlen
      rw [HC.out] at hlen
      have HE := Lib.hid (rel_end_yes hr (by omega))
      clear hr hlen et
      go_wp2_with fail
      go_ret
      exact ⟨rfl, HE.out⟩
end Go.Proofs.Ytlpgcdfndgcgeaa.quote
