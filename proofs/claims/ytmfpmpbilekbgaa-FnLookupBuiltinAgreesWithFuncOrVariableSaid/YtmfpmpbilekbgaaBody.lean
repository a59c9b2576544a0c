/- The deferred closures of appendBuiltin (f55, f58, f57) and a builtin laid whole (f17). -/
import Derived.Test.YtmfpmpbilekbgaaBuiltin
import Derived.Deep.RegionHeldLaw
import Derived.Defers
import Derived.Recover
set_option linter.unusedVariables false
namespace Go.Proofs.Ytmfpmpbilekbgaa.body
open Go.ChangeShapes Go.WideShapes Go.ChangeAt Go.RowKit
open upd comp grow add lookv var newc push wrap pushv lookf doors codes lazy bi45

/-- the jump's code -/
def jump (n : Nat) : Int × Value := (15, .iface 3 (.int .i64 n))
theorem made55 (w : World) (c q n cc : Nat) (ca : Option Addr) (h3 : w.cell? ⟨q, 0, none⟩ = some (.pointer (some ⟨c, 0, none⟩))) (h5 : w.cell? ⟨c, 5, none⟩ = some (.slice ca n cc)) :
    Calls Try.prog 55 #[.pointer (some ⟨q, 0, none⟩)] w fun e w' => e = .returned (.pointer (some ⟨w.heap.size, 0, none⟩)) ∧ w.alloc (.cells #[.iface 3 (.int .i64 n), .int .i64 15] 102) = w' := by
  go_enter Try.func55, Try.ntmps55
  go_wp2_with fail
  go_ret
  exact ⟨rfl, rfl⟩

set_option maxRecDepth 100000 in
set_option maxHeartbeats 4000000 in
theorem set58 {base c bb q P n : Nat} {w : World} {col : Nat → Nat} {sv : Value} {bs : List Nat} {B : Sc} {L : List Sc} {cnt : Int} {ps : List (Option Nat)} {cs : List (Int × Value)} (h : CB base w col c bb sv bs B L cnt ps cs) (hL : Lazy w col c q n P) (hq : Blk w q #[.pointer (some ⟨c, 0, none⟩)] 29) (hqc : col q = 0) (hn : ps[n]? = some none) (hbase : base ≤ w.heap.size) :
    Calls Try.prog 58 #[.pointer (some ⟨P + 1, 0, none⟩), .pointer (some ⟨P, 0, none⟩), .pointer (some ⟨P + 1 + 1, 0, none⟩)] w fun e w' => e = .returned (.tuple #[]) ∧ ∃ p col', NB base w col w' col' ∧ CB base w' col' c bb sv bs B L cnt (ps.set n (some p)) (cs.set n (jump ps.length)) := by
  obtain ⟨cv, hC, hD⟩ := h
  obtain ⟨ca, cc, rfl⟩ := slice_form hD.row
  have hnl : n < ps.length := (List.getElem?_eq_some_iff.1 hn).1
  obtain ⟨m, hm⟩ : ∃ m, m = ps.length := ⟨_, rfl⟩
  have v1 : w.cell? ⟨P, 0, none⟩ = some (.pointer (some ⟨c, 0, none⟩)) := by rw [Blk.cell hL.1.1]; rfl
  have v2 : w.cell? ⟨P + 1, 0, none⟩ = some (.func (.func 55) #[] #[.pointer (some ⟨q, 0, none⟩)]) := by rw [Blk.cell hL.2.1.1]; rfl
  have v3 : w.cell? ⟨P + 1 + 1, 0, none⟩ = some (.int .i64 n) := by rw [Blk.cell hL.2.2.1]; rfl
  have vq : w.cell? ⟨q, 0, none⟩ = some (.pointer (some ⟨c, 0, none⟩)) := by rw [Blk.cell hq]; rfl
  have c5 : w.cell? ⟨c, 5, none⟩ = some (.slice ca m cc) := by rw [hC.blk.cell, hm]; rfl
  rcases own_form hD.row with ⟨_, h1, _⟩ | ⟨g, cap, h1, hgb, hcc, hgl⟩
  · omega
  simp only [Value.slice.injEq, true_and] at h1
  obtain ⟨rfl, rfl⟩ := h1
  have hg8 : col g = 8 := hD.clr g rfl
  have n1 : ¬ P = g := fun e => by have := hL.1.2; rw [e] at this; omega
  have n2 : ¬ P + 1 = g := fun e => by have := hL.2.1.2; rw [e] at this; omega
  have n3 : ¬ P + 1 + 1 = g := fun e => by have := hL.2.2.2; rw [e] at this; omega
  have n4 : ¬ c = g := fun e => by have := hC.clr; rw [e] at this; omega
  have n5 : ¬ q = g := fun e => by rw [e] at hqc; omega
  have HFIN : Hid ((w.alloc (.cells #[.iface 3 (.int .i64 m), .int .i64 15] 102)).drew.cell? ⟨g, n, none⟩ = some (.pointer none) ∧ (w.alloc (.cells #[.iface 3 (.int .i64 m), .int .i64 15] 102)).drew.frozen? ⟨g, n, none⟩ = false ∧ g < (w.alloc (.cells #[.iface 3 (.int .i64 m), .int .i64 15] 102)).drew.heap.size ∧ (((w.setCell ⟨g, n, none⟩ (.pointer (some ⟨w.heap.size, 0, none⟩))).alloc (.cells #[.iface 3 (.int .i64 m), .int .i64 15] 102)).drew.cell? ⟨P, 0, none⟩ = some (.pointer (some ⟨c, 0, none⟩)) ∧ ((w.setCell ⟨g, n, none⟩ (.pointer (some ⟨w.heap.size, 0, none⟩))).alloc (.cells #[.iface 3 (.int .i64 m), .int .i64 15] 102)).drew.cell? ⟨P + 1, 0, none⟩ = some (.func (.func 55) #[] #[.pointer (some ⟨q, 0, none⟩)]) ∧ ((w.setCell ⟨g, n, none⟩ (.pointer (some ⟨w.heap.size, 0, none⟩))).alloc (.cells #[.iface 3 (.int .i64 m), .int .i64 15] 102)).drew.cell? ⟨P + 1 + 1, 0, none⟩ = some (.int .i64 n) ∧ ((w.setCell ⟨g, n, none⟩ (.pointer (some ⟨w.heap.size, 0, none⟩))).alloc (.cells #[.iface 3 (.int .i64 m), .int .i64 15] 102)).drew.cell? ⟨c, 5, none⟩ = some (.slice (some ⟨g, 0, none⟩) m cc)) ∧ ∃ p col', NB base w col ((w.setCell ⟨g, n, none⟩ (.pointer (some ⟨w.heap.size, 0, none⟩))).alloc (.cells #[.iface 3 (.int .i64 m), .int .i64 15] 102)).drew col' ∧ CB base ((w.setCell ⟨g, n, none⟩ (.pointer (some ⟨w.heap.size, 0, none⟩))).alloc (.cells #[.iface 3 (.int .i64 m), .int .i64 15] 102)).drew col' c bb sv bs B L cnt (ps.set n (some p)) (cs.set n (jump ps.length))) := by
    unfold Hid
    obtain ⟨g', e, x1, x2, x3, x4, col', x5, x6, x7⟩ := fin_put (a := (w.alloc (.cells #[.iface 3 (.int .i64 m), .int .i64 15] 102)).drew) hC hD (Upd.drew (Upd.alloc (Upd.refl _ _) _)) hnl hn (jump ps.length) (Nat.le_refl _) (by rw [hm]; exact Blk.new w _ _) hbase
    simp only [Option.some.injEq, Addr.mk.injEq, and_true] at e
    subst e
    rw [World.setCell_drew, World.setCell_alloc_past _ g n _ hgl] at x6 x7
    have hold : ∀ (k : Nat) (cs : Array Value) (t : TypeId), Blk w k cs t → k ≠ g → Blk ((w.setCell ⟨g, n, none⟩ (.pointer (some ⟨w.heap.size, 0, none⟩))).alloc (.cells #[.iface 3 (.int .i64 m), .int .i64 15] 102)).drew k cs t := fun k cs t hb hne => (hb.other (p := ⟨g, n, none⟩) hne _).alloc _
    have y1 := hold _ _ _ hL.1.1 n1
    have y2 := hold _ _ _ hL.2.1.1 n2
    have y3 := hold _ _ _ hL.2.2.1 n3
    have y4 := hold _ _ _ hC.blk n4
    exact ⟨x2, x3, x4, ⟨by rw [y1.cell]; rfl, by rw [y2.cell]; rfl, by rw [y3.cell]; rfl, by rw [y4.cell, hm]; rfl⟩, _, col', x6, x7⟩
  have l1 := Blk.lt hL.1.1
  have l2 := Blk.lt hL.2.1.1
  have l3 := Blk.lt hL.2.2.1
  have l4 := hC.blk.lt
  have l5 := Blk.lt hq
  have i0 : (0 : Int) ≤ n := by omega
  have i1 : (n : Int) < m := by omega
  have i2 : m ≤ cc := by omega
  have HM := Lib.hid hm
  clear hC hD hL hq hqc hm hcc hnl hn hg8
  go_enter Try.func58, Try.ntmps58
  go_region_held_law (fun w' => w'.cell? ⟨P, 0, none⟩ = some (.pointer (some ⟨c, 0, none⟩)) ∧ w'.cell? ⟨P + 1, 0, none⟩ = some (.func (.func 55) #[] #[.pointer (some ⟨q, 0, none⟩)]) ∧ w'.cell? ⟨P + 1 + 1, 0, none⟩ = some (.int .i64 n) ∧ w'.cell? ⟨c, 5, none⟩ = some (.slice (some ⟨g, 0, none⟩) m cc)) (first | assumption | go_keep)
    ((go_at_call 55; refine (made55 w.drew c q m cc _ vq c5).mono ?_; rintro e w5 ⟨rfl, rfl⟩; obtain ⟨y1, y2, y3, y4, y5⟩ := HFIN.out; have HF := Lib.hid y5; clear y5))
  go_end0
  exact ⟨rfl, HF.out⟩

set_option maxHeartbeats 2000000 in
theorem end57 {base c bb q P n q7 : Nat} {w : World} {col : Nat → Nat} {sv : Value} {bs : List Nat} {B : Sc} {L : List Sc} {cnt : Int} {ps : List (Option Nat)} {cs : List (Int × Value)} {nm : ByteArray} (u : FrameMode) (h : CB base w col c bb sv bs B L cnt ps cs) (hT : Tok w col c n q7 q P nm) (hn : ps[n]? = some none) (hbase : base ≤ w.heap.size) (hs : nm.size ≤ 1048576) :
    CallsD Try.prog 57 #[.pointer (some ⟨q7, 0, none⟩), .pointer (some ⟨q, 0, none⟩), .pointer (some ⟨q + 1, 0, none⟩)] u w fun e u' w' => u' = u ∧ (e = .returned (.tuple #[]) ∧ ∃ p col', NB base w col w' col' ∧ CB base w' col' c bb sv bs B L cnt (ps.set n (some p)) (cs.set n (jump ps.length))) := by
  obtain ⟨hL, hq, hq1, hq7⟩ := hT
  have v0 : w.cell? ⟨q7, 0, none⟩ = some (.func (.func 58) #[] #[.pointer (some ⟨P + 1, 0, none⟩), .pointer (some ⟨P, 0, none⟩), .pointer (some ⟨P + 1 + 1, 0, none⟩)]) := by rw [Blk.cell hq7.1]; rfl
  have HC := Lib.hid (set58 h hL hq.1 hq.2 hn hbase)
  have HQ := Lib.hid hq
  have HQ1 := Lib.hid hq1
  clear h hL hq hq1 hq7 hn hbase
  go_enter_d Try.func57, Try.ntmps57
  go_wp2_with fail
  go_at_call 58
  refine HC.out.mono ?_
  rintro e w1 ⟨rfl, p, col1, hN, hB⟩
  have c1 : w1.cell? ⟨q, 0, none⟩ = some (.pointer (some ⟨c, 0, none⟩)) := by rw [Blk.cell (hN.keep HQ.out.1 HQ.out.2).1]; rfl
  have c2 : w1.cell? ⟨q + 1, 0, none⟩ = some (.string nm) := by rw [Blk.cell (hN.keep HQ1.out.1 HQ1.out.2).1]; rfl
  have HF := Lib.hid (And.intro hN hB)
  clear HC hN hB v0 HQ HQ1
  go_wp2_with fail
  go_at_call 56
  refine (noInfo _ _ _).mono ?_
  rintro e w2 ⟨rfl, rfl⟩
  go_wp2_with fail
  go_end0
  exact ⟨rfl, p, col1, HF.out⟩

def nop : Int × Value := (0, .nilIface)
/-- every code has its block -/
def AllSome (ps : List (Option Nat)) : Prop := ∀ o ∈ ps, ∃ p, o = some p
/-- ahead of round i of a body -/
def Mid (base : Nat) (w : World) (col : Nat → Nat) (c bb : Nat) (sv : Value) (bs : List Nat) (B : Sc) (L : List Sc) (cnt : Int) (ps : List (Option Nat)) (cs : List (Int × Value)) (q7 q P : Nat) (nm : ByteArray) (i : Nat) (wr : World) : Prop :=
  ∃ col' qs, NB base w col wr col' ∧ CB base wr col' c bb sv bs B L cnt (ps ++ [none] ++ qs) (cs ++ [nop] ++ List.replicate i nop) ∧ qs.length = i ∧ AllSome qs ∧ Tok wr col' c ps.length q7 q P nm
theorem Tok.keep {base : Nat} {w w' : World} {col col' : Nat → Nat} {c q n P q7 : Nat} {nm : ByteArray} (h : Tok w col c n q7 q P nm) (k : NB base w col w' col') : Tok w' col' c n q7 q P nm :=
  ⟨h.1.keep k, k.keep h.2.1.1 h.2.1.2, k.keep h.2.2.1.1 h.2.2.1.2, k.keep h.2.2.2.1 h.2.2.2.2⟩
theorem Mid.round {base c bb q P q7 i : Nat} {w wr : World} {col : Nat → Nat} {sv : Value} {bs : List Nat} {B : Sc} {L : List Sc} {cnt : Int} {ps : List (Option Nat)} {cs : List (Int × Value)} {nm : ByteArray} (h : Mid base w col c bb sv bs B L cnt ps cs q7 q P nm i wr) (hn : ps.length + i ≤ 2097150) (hbase : base ≤ w.heap.size) :
    Calls Try.prog 46 #[.pointer (some ⟨c, 0, none⟩), .pointer (some ⟨wr.heap.size, 0, none⟩)] (wr.alloc (.cells #[.nilIface, .int .i64 0] 102)) fun e w' => e = .returned (.tuple #[]) ∧ Mid base w col c bb sv bs B L cnt ps cs q7 q P nm (i + 1) w' := by
  obtain ⟨col', qs, hN, hB, hq, hA, hT⟩ := h
  have hu : Upd (fun _ => False) wr (wr.alloc (.cells #[.nilIface, .int .i64 0] 102)) := (Upd.refl _ _).alloc _
  have hk := re1_old (col := col') (w := wr) (g := wr.heap.size) (a := 7) (.inr (Nat.le_refl _))
  have hS := NB.step (base := base) hu _ hk
  have hbr := hN.2.size
  refine (addCode (hB.step hu hk) nop ⟨by omega, by simp, re1_at _ _ _ _⟩ (Blk.new wr _ _) (by simp; omega) (by simp; omega)).mono fun e w' ⟨h1, col2, h2, h3⟩ => ⟨h1, col2, qs ++ [some wr.heap.size], (hN.trans hS).trans h2, ?_, by simp [hq], (fun o ho => by rcases List.mem_append.1 ho with h | h; exact hA o h; exact ⟨_, by simpa using h⟩), Tok.keep (Tok.keep hT hS) h2⟩
  rw [List.replicate_succ', ← List.append_assoc, ← List.append_assoc]
  exact h3
theorem set_mid {ps qs : List (Option Nat)} {p : Nat} : (ps ++ [none] ++ qs).set ps.length (some p) = ps ++ [some p] ++ qs := by
  simp
theorem set_mid2 {cs ds : List (Int × Value)} {n : Nat} {x y : Int × Value} (h : cs.length = n) : (cs ++ [x] ++ ds).set n y = cs ++ [y] ++ ds := by
  subst h; simp

set_option maxHeartbeats 4000000 in
theorem addBuiltin {base c bb : Nat} {w : World} {col : Nat → Nat} {sv : Value} {bs : List Nat} {B : Sc} {L : List Sc} {cnt : Int} {ps : List (Option Nat)} {cs : List (Int × Value)} (h : CB base w col c bb sv bs B L cnt ps cs) (hB : B.id = 0) (nm : ByteArray) (ac : Int) (b : Nat) (hn : ps.length ≤ 1048576) (hb : b ≤ 65536) (hf : B.funcs.length ≤ 2097152) (hs : nm.size ≤ 1048576) (hbase : base ≤ w.heap.size) :
    Calls Try.prog 17 #[.pointer (some ⟨c, 0, none⟩), .string nm, .int .i64 ac, .int .i64 b] w fun e w' => e = .returned (.tuple #[]) ∧ ∃ ps' col', NB base w col w' col' ∧ (AllSome ps → AllSome ps') ∧ CB base w' col' c bb sv bs { B with funcs := B.funcs ++ [(nm, (ps.length : Int) + 1, ac)] } L cnt ps' (cs ++ [jump (ps.length + 1 + b)] ++ List.replicate b nop) := by
  have HC := Lib.hid (body45 h hB nm ac (by omega) hf hbase)
  have HW := Lib.hid hbase
  obtain ⟨q, hq⟩ : ∃ q, q = w.heap.size := ⟨_, rfl⟩
  have hlen : cs.length = ps.length := by obtain ⟨cv, _, hD⟩ := h; exact hD.len.symm
  have HLEN := Lib.hid hlen
  rw [← hq] at HC
  unfold fin57 at HC
  clear h hbase hq hlen
  go_enter_defers Try.func17, Try.ntmps17
  go_wp2_with fail
  go_at_call 45
  refine HC.out.mono ?_
  rintro e w1 ⟨q7, P, rfl, col1, hN, hC1, hT⟩
  have HM : Hid (Mid base w col c bb sv bs { B with funcs := B.funcs ++ [(nm, (ps.length : Int) + 1, ac)] } L cnt ps cs q7 q P nm 0 w1) := ⟨col1, [], hN, by simpa [nop] using hC1, rfl, (fun o ho => by cases ho), hT⟩
  have HNL := Lib.hid hn
  clear hN hC1 hT HC
  go_wp2_with fail
  go_loopw [8] (fun i wr => ∃ j : Nat, j ≤ b ∧ i = .int .i64 j ∧ Hid (Mid base w col c bb sv bs { B with funcs := B.funcs ++ [(nm, (ps.length : Int) + 1, ac)] } L cnt ps cs q7 q P nm j wr)) (fun i _ => b - (intOf i).toNat)
  case atStart => exact ⟨0, Nat.zero_le _, rfl, HM⟩
  case round =>
    obtain ⟨j, hj, rfl, HJ⟩ := hrel
    clear HM
    by_cases hlt : j < b
    · have HR := Lib.hid (Mid.round HJ.out (by omega) HW.out)
      clear HJ
      go_wp2_with fail
      go_at_call 46
      refine HR.out.mono ?_
      rintro e w2 ⟨rfl, hm⟩
      have HM2 := Lib.hid hm
      clear HR hm
      go_wp2_with fail
      refine ⟨⟨j + 1, by omega, by go_num, HM2⟩, ?_⟩
      simp [intOf] <;> omega
    · obtain rfl : j = b := by omega
      obtain ⟨col2, qs, hN, hC2, hq, hA, hT⟩ := HJ.out
      have HE := Lib.hid (end57 .returning hC2 hT (by simp) (by have := hN.2.size; have := HW.out; omega) hs)
      have HQL := Lib.hid hq
      have HA := Lib.hid hA
      have HN2 := Lib.hid hN
      clear HJ hN hC2 hq hA hT
      go_wp2_with fail
      refine leaves_cons (f := 57) (args := #[.pointer (some ⟨q7, 0, none⟩), .pointer (some ⟨q, 0, none⟩), .pointer (some ⟨q + 1, 0, none⟩)]) (by simp) (by simp [go_sem]) ?_
      refine HE.out.mono ?_
      rintro e u' w'' ⟨rfl, rfl, p, col3, hN3, hC3⟩
      simp only [Leaves, settle]
      have hN4 := HN2.out.trans hN3
      rw [set_mid2 HLEN.out] at hC3
      have hlen2 : (ps ++ [none] ++ qs).length = ps.length + 1 + j := by simp [HQL.out]; omega
      rw [hlen2] at hC3
      exact ⟨.tuple #[], by simp [results, Try.results17, go_sem], rfl, _, col3, hN4, (fun h => by rw [set_mid]; intro o ho; simp only [List.mem_append, List.mem_singleton] at ho; rcases ho with (ho | ho) | ho; exact h o ho; exact ⟨_, ho⟩; exact HA.out o ho), hC3⟩
end Go.Proofs.Ytmfpmpbilekbgaa.body
