/- The option applied to a compiler. -/
import Derived.Test.YtenkhaopiiokmaaFmtWf
set_option linter.unusedVariables false
namespace Go.Proofs.YtenkhaopiiokmaaFmt.ap
open Go.ChangeShapes Go.WideShapes Go.ChangeAt Go.RowKit
open upd mapr mask wf

/-- a registered function -/
def fn (mk : Nat) (it : Bool) (cb : Value) : Value := .agg #[.int .i64 mk, .bool it, cb]
/-- a callback: none, or a closure -/
def Cb (v : Value) : Prop := v = .nilFunc ∨ ∃ f ps, v = .func f #[] ps
theorem zero74 (w : World) : (zeroValue 74).run Tryf.prog w = .ok (.agg #[.int .i64 0, .bool false, .nilFunc]) w := by kernel_rfl
theorem eqm_nil (w : World) : (binOp .eql 42 (.map none) (.map none)).run Tryf.prog w = .ok (.bool true) w := by kernel_rfl
theorem eqm_some (B : Nat) (w : World) : (binOp .eql 42 (.map (some B)) (.map none)).run Tryf.prog w = .ok (.bool false) w := by kernel_rfl
theorem make42 (w : World) : (Instr.makeMap 42 none).run Tryf.prog w = .ok (.map (some w.heap.size)) (w.alloc (.map #[] 0)) := by kernel_rfl

/-- the compiler c holds, in the map block M of at most n entries, just what m says -/
structure Reg (w : World) (c M n : Nat) (m : mapr.M) : Prop where
  blk : Blk w c (comp (.map (some M))) 71
  map : HoldsM Tryf.prog 9 w M n m
theorem Reg.kept {w w' : World} {c M n : Nat} {m : mapr.M} {S : Nat → Prop} (h : Reg w c M n m) (hu : Upd S w w') (h1 : ¬ S c) (h2 : ¬ S M) : Reg w' c M n m :=
  ⟨h.blk.kept hu h1, h.map.same (hu.block M h.map.lt h2)⟩
theorem Reg.ne {w : World} {c M n : Nat} {m : mapr.M} (h : Reg w c M n m) : c ≠ M := by
  intro e
  obtain ⟨D, ⟨es, clock, hb, _⟩, _⟩ := h.map
  have := h.blk
  unfold Blk at this
  rw [e, hb] at this
  cases this

theorem new_block {a b w : World} {S : Nat → Prop} {M : Nat} (h : Upd S a b) (k : Upd (· = M) b w) (hM : a.heap.size ≤ M) : Upd S a w :=
  ⟨k.os.trans h.os, k.tape.trans h.tape, k.output.trans h.output, Nat.le_trans h.size k.size, fun i hi hs => (k.block i (Nat.lt_of_lt_of_le hi h.size) (fun e => by omega)).trans (h.block i hi hs)⟩
set_option maxRecDepth 100000 in
set_option maxHeartbeats 2000000 in
theorem clos_new (w : World) (c M n lo hi : Nat) (m : mapr.M) (p1 p2 p3 p4 : Nat) (nm : ByteArray) (it : Bool) (mk : Nat) (cb : Value) (b1 : Blk w p1 #[.string nm] 9) (b2 : Blk w p2 #[.bool it] 4) (b3 : Blk w p3 #[.int .i64 mk] 3) (b4 : Blk w p4 #[cb] 72) (hcb : Cb cb)
    (h : Reg w c M n m) (hl : nm.size ≤ maxLen) (hm : m nm.data.toList = none) (hn : n < maxLen) :
    Calls Tryf.prog 23 #[.pointer (some ⟨c, 0, none⟩), .pointer (some ⟨p1, 0, none⟩), .pointer (some ⟨p2, 0, none⟩), .pointer (some ⟨p3, 0, none⟩), .pointer (some ⟨p4, 0, none⟩)] w fun e w' => e = .returned (.tuple #[]) ∧ Reg w' c M (n + 1) (m.put nm.data.toList (fn mk it cb)) ∧ Upd (· = M) w w' := by
  have c3 : w.cell? ⟨c, 3, none⟩ = some (.map (some M)) := by rw [h.blk.cell]; rfl
  have d1 : w.cell? ⟨p1, 0, none⟩ = some (.string nm) := by rw [b1.cell]; rfl
  have d2 : w.cell? ⟨p2, 0, none⟩ = some (.bool it) := by rw [b2.cell]; rfl
  have d3 : w.cell? ⟨p3, 0, none⟩ = some (.int .i64 mk) := by rw [b3.cell]; rfl
  have d4 : w.cell? ⟨p4, 0, none⟩ = some cb := by rw [b4.cell]; rfl
  have l0 := h.blk.lt; have l1 := b1.lt; have l2 := b2.lt; have l3 := b3.lt; have l4 := b4.lt
  have q1 := eqm_some M
  have HL := Lib.hid hl
  have HK1 := HoldsM.run_no (t := 42) Tryf.underlying9 Tryf.underlying42 (zero74 _) h.map hl hm
  have HK2 : ∀ o, _ := fun o => HoldsM.run_no (t := 42) Tryf.underlying9 Tryf.underlying42 (zero74 _) (h.map.alloc o) hl hm
  have HK3 := HoldsM.run_no (t := 42) (w := w.drew) Tryf.underlying9 Tryf.underlying42 (zero74 _) (h.map.same rfl) hl hm
  have HK4 : ∀ o, _ := fun o => HoldsM.run_no (t := 42) (w := (w.alloc o).drew) Tryf.underlying9 Tryf.underlying42 (zero74 _) ((h.map.alloc o).same rfl) hl hm
  have H := Lib.hid h
  have HN := Lib.hid hn
  clear h hl hm hn b1 b2 b3 b4
  rcases hcb with rfl | ⟨f, ps, rfl⟩
  all_goals
    go_enter Tryf.func23, Tryf.ntmps23
    go_wp2_with fail
    go_region
    clear HK1 HK2 HK3 HK4
    obtain ⟨W1, hW1⟩ : ∃ W1, W1 = (w.alloc (.cells #[.int .i64 0, .bool false, .nilFunc] 74)).drew := ⟨_, rfl⟩
    rw [← hW1]
    have hu1 : Upd (fun _ => False) w W1 := by rw [hW1]; exact ((Upd.refl _ _).alloc _).drew
    have k3 := (hu1.cell (p := ⟨c, 3, none⟩) l0 id).trans c3
    have k1 := (hu1.cell (p := ⟨p1, 0, none⟩) l1 id).trans d1
    have k2 := (hu1.cell (p := ⟨p2, 0, none⟩) l2 id).trans d2
    have k4 := (hu1.cell (p := ⟨p3, 0, none⟩) l3 id).trans d3
    have k5 := (hu1.cell (p := ⟨p4, 0, none⟩) l4 id).trans d4
    have HM1 := Lib.hid (H.out.map.same (hu1.block M H.out.map.lt id))
    have HU1 := Lib.hid hu1
    clear hW1 hu1 c3 d1 d2 d3 d4
    go_wp2_with fail
    go_still_tail 9, (by kernel_rfl)
    go_wp2_with (at_mapUpdate; refine wpList_put _ rfl _ _ _ 42 rfl 9 74 Tryf.underlying9 Tryf.underlying42 M n _ rfl (HM1.out.same rfl) HN.out nm _ rfl rfl HL.out ?_; intro w3 hown hg3; have hu : Upd (· = M) w w3 := (by (refine Upd.grown ?_ hg3 (fun k hk => by cases hk; exact .inl rfl)); exact (HU1.out.mono (fun _ _ h => h.elim)).drew); have HU := Lib.hid hu; have HO := Lib.hid hown; clear hu hown hg3)
    go_end0
    exact ⟨rfl, ⟨H.out.blk.kept HU.out H.out.ne, HO.out⟩, HU.out⟩

set_option maxRecDepth 100000 in
set_option maxHeartbeats 2000000 in
theorem clos_first (w0 : World) (c : Nat) (p1 p2 p3 p4 : Nat) (nm : ByteArray) (it : Bool) (mk : Nat) (cb : Value) (b1 : Blk w0 p1 #[.string nm] 9) (b2 : Blk w0 p2 #[.bool it] 4) (b3 : Blk w0 p3 #[.int .i64 mk] 3) (b4 : Blk w0 p4 #[cb] 72) (hcb : Cb cb)
    (h : Blk w0 c (comp (.map none)) 71) (hl : nm.size ≤ maxLen) (e1 : p1 ≠ c) (e2 : p2 ≠ c) (e3 : p3 ≠ c) (e4 : p4 ≠ c) :
    Calls Tryf.prog 23 #[.pointer (some ⟨c, 0, none⟩), .pointer (some ⟨p1, 0, none⟩), .pointer (some ⟨p2, 0, none⟩), .pointer (some ⟨p3, 0, none⟩), .pointer (some ⟨p4, 0, none⟩)] w0 fun e w' => e = .returned (.tuple #[]) ∧ ∃ M, Reg w' c M 1 (mapr.M.put (fun _ => none) nm.data.toList (fn mk it cb)) ∧ w0.heap.size ≤ M ∧ Upd (· = c) w0 w' := by
  have c3 : w0.cell? ⟨c, 3, none⟩ = some (.map none) := by rw [h.cell]; rfl
  have f3 := h.free 3
  have q0 := eqm_nil
  have l9 := h.lt
  have hmk := make42
  have HH := Lib.hid h
  have HB1 := Lib.hid b1; have HB2 := Lib.hid b2; have HB3 := Lib.hid b3; have HB4 := Lib.hid b4
  have HL := Lib.hid hl
  clear h b1 b2 b3 b4
  go_enter Tryf.func23, Tryf.ntmps23
  go_wp2_with fail
  obtain ⟨w, hw⟩ : ∃ w, w = (w0.setCell ⟨c, 3, none⟩ (.map (some w0.heap.size))).alloc (.map #[] 0) := ⟨_, rfl⟩
  rw [← hw]
  obtain ⟨M, hM⟩ : ∃ M, M = w0.heap.size := ⟨_, rfl⟩
  have hu0 : Upd (· = c) w0 w := by rw [hw]; exact Upd.alloc (Upd.setCell (S := (· = c)) (Upd.refl _ w0) (p := ⟨c, 3, none⟩) (.inl rfl) _) _
  have HU0 := Lib.hid hu0
  have h : Reg w c M 0 (fun _ => none) := by
    rw [hw, hM]
    exact ⟨(HH.out.set 3 _).alloc _, by have := HoldsM.made Tryf.prog 9 (w0.setCell ⟨c, 3, none⟩ (.map (some w0.heap.size))); simpa using this⟩
  have b1 : Blk w p1 #[.string nm] 9 := HB1.out.kept hu0 e1
  have b2 : Blk w p2 #[.bool it] 4 := HB2.out.kept hu0 e2
  have b3 : Blk w p3 #[.int .i64 mk] 3 := HB3.out.kept hu0 e3
  have b4 : Blk w p4 #[cb] 72 := HB4.out.kept hu0 e4
  have HMM : Hid (w0.heap.size ≤ M) := by unfold Hid; omega
  rw [← hM]
  clear hw hu0 hM c3 f3 q0 l9 HH HB1 HB2 HB3 HB4 hl
  have c3 : w.cell? ⟨c, 3, none⟩ = some (.map (some M)) := by rw [h.blk.cell]; rfl
  have d1 : w.cell? ⟨p1, 0, none⟩ = some (.string nm) := by rw [b1.cell]; rfl
  have d2 : w.cell? ⟨p2, 0, none⟩ = some (.bool it) := by rw [b2.cell]; rfl
  have d3 : w.cell? ⟨p3, 0, none⟩ = some (.int .i64 mk) := by rw [b3.cell]; rfl
  have d4 : w.cell? ⟨p4, 0, none⟩ = some cb := by rw [b4.cell]; rfl
  have l0 := h.blk.lt; have l1 := b1.lt; have l2 := b2.lt; have l3 := b3.lt; have l4 := b4.lt
  have HK1 := HoldsM.run_no (t := 42) Tryf.underlying9 Tryf.underlying42 (zero74 _) h.map HL.out rfl
  have HK2 : ∀ o, _ := fun o => HoldsM.run_no (t := 42) Tryf.underlying9 Tryf.underlying42 (zero74 _) (h.map.alloc o) HL.out rfl
  have HK3 := HoldsM.run_no (t := 42) (w := w.drew) Tryf.underlying9 Tryf.underlying42 (zero74 _) (h.map.same rfl) HL.out rfl
  have HK4 : ∀ o, _ := fun o => HoldsM.run_no (t := 42) (w := (w.alloc o).drew) Tryf.underlying9 Tryf.underlying42 (zero74 _) ((h.map.alloc o).same rfl) HL.out rfl
  have H := Lib.hid h
  have HN : Hid (0 < maxLen) := by unfold Hid maxLen; omega
  clear h b1 b2 b3 b4
  rcases hcb with rfl | ⟨f, ps, rfl⟩
  all_goals
    go_region
    clear HK1 HK2 HK3 HK4
    obtain ⟨W1, hW1⟩ : ∃ W1, W1 = (w.alloc (.cells #[.int .i64 0, .bool false, .nilFunc] 74)).drew := ⟨_, rfl⟩
    rw [← hW1]
    have hu1 : Upd (fun _ => False) w W1 := by rw [hW1]; exact ((Upd.refl _ _).alloc _).drew
    have k3 := (hu1.cell (p := ⟨c, 3, none⟩) l0 id).trans c3
    have k1 := (hu1.cell (p := ⟨p1, 0, none⟩) l1 id).trans d1
    have k2 := (hu1.cell (p := ⟨p2, 0, none⟩) l2 id).trans d2
    have k4 := (hu1.cell (p := ⟨p3, 0, none⟩) l3 id).trans d3
    have k5 := (hu1.cell (p := ⟨p4, 0, none⟩) l4 id).trans d4
    have HM1 := Lib.hid (H.out.map.same (hu1.block M H.out.map.lt id))
    have HU1 := Lib.hid hu1
    clear hW1 hu1 c3 d1 d2 d3 d4
    go_wp2_with fail
    go_still_tail 9, (by kernel_rfl)
    go_wp2_with (at_mapUpdate; refine wpList_put _ rfl _ _ _ 42 rfl 9 74 Tryf.underlying9 Tryf.underlying42 M 0 _ rfl (HM1.out.same rfl) HN.out nm _ rfl rfl HL.out ?_; intro w3 hown hg3; have hu : Upd (· = M) w w3 := (by (refine Upd.grown ?_ hg3 (fun k hk => by cases hk; exact .inl rfl)); exact (HU1.out.mono (fun _ _ h => h.elim)).drew); have HU := Lib.hid hu; have HO := Lib.hid hown; clear hu hown hg3)
    go_end0
    exact ⟨rfl, M, ⟨H.out.blk.kept HU.out H.out.ne, HO.out⟩, HMM.out, new_block HU0.out HU.out HMM.out⟩
/-- the name was there: now the two masks in one, and a closure for both -/
def Merged (w : World) (c M n : Nat) (m : mapr.M) (key : List UInt8) (mk : Nat) (it : Bool) (e : Ending) (w' : World) : Prop :=
  e = .returned (.tuple #[]) ∧ ∃ cb, (∃ f ps, cb = .func f #[] ps) ∧ Reg w' c M (n + 1) (m.put key (fn mk it cb)) ∧ Upd (· = M) w w'
set_option maxRecDepth 100000 in
set_option maxHeartbeats 2000000 in
theorem clos_merge (w : World) (c M n lo hi : Nat) (m : mapr.M) (p1 p2 p3 p4 : Nat) (nm : ByteArray) (it : Bool) (mk mk0 : Nat) (cb cb0 : Value) (b1 : Blk w p1 #[.string nm] 9) (b2 : Blk w p2 #[.bool it] 4) (b3 : Blk w p3 #[.int .i64 mk] 3) (b4 : Blk w p4 #[cb] 72) (hcb : Cb cb)
    (h : Reg w c M n m) (hl : nm.size ≤ maxLen) (hm : m nm.data.toList = some (fn mk0 it cb0)) (hcb0 : Cb cb0) (hor : bits .or .i64 (mk : Int) (mk0 : Int) = ((mk ||| mk0 : Nat) : Int)) (hn : n < maxLen) :
    Calls Tryf.prog 23 #[.pointer (some ⟨c, 0, none⟩), .pointer (some ⟨p1, 0, none⟩), .pointer (some ⟨p2, 0, none⟩), .pointer (some ⟨p3, 0, none⟩), .pointer (some ⟨p4, 0, none⟩)] w (Merged w c M n m nm.data.toList (mk ||| mk0) it) := by
  have c3 : w.cell? ⟨c, 3, none⟩ = some (.map (some M)) := by rw [h.blk.cell]; rfl
  have d1 : w.cell? ⟨p1, 0, none⟩ = some (.string nm) := by rw [b1.cell]; rfl
  have d2 : w.cell? ⟨p2, 0, none⟩ = some (.bool it) := by rw [b2.cell]; rfl
  have d3 : w.cell? ⟨p3, 0, none⟩ = some (.int .i64 mk) := by rw [b3.cell]; rfl
  have d4 : w.cell? ⟨p4, 0, none⟩ = some cb := by rw [b4.cell]; rfl
  have l0 := h.blk.lt; have l1 := b1.lt; have l2 := b2.lt; have l3 := b3.lt; have l4 := b4.lt
  have q1 := eqm_some M
  have HL := Lib.hid hl
  have HK1 := HoldsM.run_yes (t := 42) Tryf.underlying9 Tryf.underlying42 (zero74 _) h.map hl hm
  have HK2 : ∀ o, _ := fun o => HoldsM.run_yes (t := 42) Tryf.underlying9 Tryf.underlying42 (zero74 _) (h.map.alloc o) hl hm
  have HK3 := HoldsM.run_yes (t := 42) (w := w.drew) Tryf.underlying9 Tryf.underlying42 (zero74 _) (h.map.same rfl) hl hm
  have HK4 : ∀ o, _ := fun o => HoldsM.run_yes (t := 42) (w := (w.alloc o).drew) Tryf.underlying9 Tryf.underlying42 (zero74 _) ((h.map.alloc o).same rfl) hl hm
  have H := Lib.hid h
  have HN := Lib.hid hn
  have hq : (it != it) = false := by simp
  unfold fn at HK1 HK2 HK3 HK4
  clear h hl hm hn b1 b2 b3 b4
  obtain ⟨cs, hcs⟩ : ∃ cs : Array Value, cs = #[.int .i64 mk0, .bool it, cb0] := ⟨_, rfl⟩
  have HCS := Lib.hid hcs
  clear hcs
  rcases hcb with rfl | ⟨f, ps, rfl⟩ <;> rcases hcb0 with rfl | ⟨f0, ps0, rfl⟩
  all_goals
    go_enter Tryf.func23, Tryf.ntmps23
    go_wp2_with fail
    go_region
    clear HK1 HK2 HK3 HK4
    obtain ⟨W1, hW1⟩ : ∃ W1, W1 = (w.alloc (.cells cs 74)).drew := ⟨_, rfl⟩
    have hu1 : Upd (fun _ => False) w W1 := by rw [hW1]; exact ((Upd.refl _ _).alloc _).drew
    obtain ⟨q, hqn⟩ : ∃ q, q = w.heap.size := ⟨_, rfl⟩
    have hbq : Blk W1 q cs 74 := by rw [hW1, hqn]; exact Blk.new w cs 74
    have m0 : W1.cell? ⟨q, 0, none⟩ = some (.int .i64 mk0) := by rw [hbq.cell, HCS.out]; rfl
    have m1 : W1.cell? ⟨q, 1, none⟩ = some (.bool it) := by rw [hbq.cell, HCS.out]; rfl
    rw [HCS.out] at hW1
    rw [← hW1, ← hqn]
    have k3 := (hu1.cell (p := ⟨c, 3, none⟩) l0 id).trans c3
    have k1 := (hu1.cell (p := ⟨p1, 0, none⟩) l1 id).trans d1
    have k2 := (hu1.cell (p := ⟨p2, 0, none⟩) l2 id).trans d2
    have k4 := (hu1.cell (p := ⟨p3, 0, none⟩) l3 id).trans d3
    have k5 := (hu1.cell (p := ⟨p4, 0, none⟩) l4 id).trans d4
    have HM1 := Lib.hid (H.out.map.same (hu1.block M H.out.map.lt id))
    have HU1 := Lib.hid hu1
    clear hW1 hu1 hqn hbq c3 d1 d2 d3 d4
    go_wp2_with fail
    go_still_tail 12, (by kernel_rfl)
    go_wp2_with (at_mapUpdate; refine wpList_put _ rfl _ _ _ 42 rfl 9 74 Tryf.underlying9 Tryf.underlying42 M n _ rfl (HM1.out.same rfl) HN.out nm _ rfl rfl HL.out ?_; intro w3 hown hg3; have hu : Upd (· = M) w w3 := (by (refine Upd.grown ?_ hg3 (fun k hk => by cases hk; exact .inl rfl)); exact (HU1.out.mono (fun _ _ h => h.elim)).drew); have HU := Lib.hid hu; have HO := Lib.hid hown; clear hu hown hg3)
    go_end0
    exact ⟨rfl, _, ⟨_, _, rfl⟩, ⟨H.out.blk.kept HU.out H.out.ne, HO.out⟩, HU.out⟩

end Go.Proofs.YtenkhaopiiokmaaFmt.ap
