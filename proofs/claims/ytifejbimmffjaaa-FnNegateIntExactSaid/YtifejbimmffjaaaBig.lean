/- What negate does at the least int: a new big integer of magnitude 2^63, not negative; and what negating that gives. -/
import Derived.Test.YtifejbimmffjaaaTypes
import Derived.Test.YtifejbimmffjaaaBase
import Derived.ProofKit
import Derived.OpenShut
import Derived.Lib.Hide
import Derived.WalkLawsBesides
import Derived.WalkSpells
import Derived.Deep.QuietTactic
import Derived.BigQuiet
import Derived.Deep.WholeRow
import Derived.Laws.CopyRow
import Derived.LaidEqlPtr
import Derived.Deep.RegionHeld3
import Derived.Deep.RegionLaw
import Derived.Deep.DrawnRows
namespace Go.Proofs.Ytifejbimmffjaaa.big
open Go.ChangeShapes Go.WideShapes Go.ChangeAt Go.RowKit
open types
attribute [local go_sem ↓] Go.wp_at_zero Go.wp_at_succ

theorem mk1 (w : World) : (Instr.makeSlice 50 (.int .i64 1) (.int .i64 1)).run Try.prog w = .ok (.slice (some ⟨w.heap.size, 0, none⟩) 1 1) (w.alloc (.cells #[.int .u64 0] 45)) := by kernel_rfl

theorem natmake (w : World) : Calls Try.prog 33 #[.slice none 0 0, .int .i64 1] w fun e w' => e = .returned (.slice (some ⟨w.heap.size, 0, none⟩) 1 1) ∧ w' = w.alloc (.cells #[.int .u64 0] 45) := by
  have h1 := mk1
  go_enter Try.func33, Try.ntmps33
  go_wp2_with fail
  go_ret
  exact ⟨rfl, rfl⟩

theorem copy1 (b : Nat) (x : Int) (w : World) (hb : b < w.heap.size) (hc : w.cell? ⟨b, 0, none⟩ = some (.int .u64 x)) :
    (Builtin.copy_ #[50, 50] 3 #[.slice (some ⟨w.heap.size, 0, none⟩) 1 1, .slice (some ⟨b, 0, none⟩) 1 1]).run Try.prog (w.alloc (.cells #[.int .u64 0] 45)) = .ok (goInt 1) (w.alloc (.cells #[.int .u64 x] 45)) := by
  have hr := run_copy_row (P := Try.prog) (w.alloc (.cells #[.int .u64 0] 45)) 50 50 3 45 w.heap.size 0 1 1 ⟨b, 0, none⟩ 1 1 #[.int .u64 0] 45 [.int .u64 x] Try.underlying50 (by kernel_rfl) (heap_alloc_new w _) rfl
    (fun j v hj => by
      match j, hj with
      | 0, hj =>
        simp at hj; subst hj
        show (w.alloc _).cell? ⟨b, 0, none⟩ = _
        rw [World.cell?_of_block (w := w) (Below.heap_alloc w _ b hb)]
        exact hc)
    (Nat.le_refl 1) (by intro u hu; simp at hu; subst hu; rfl)
  rw [World.setRow_alloc_new] at hr
  simpa using hr

theorem natset (b : Nat) (x : Int) (w : World) (hb : b < w.heap.size) (hc : w.cell? ⟨b, 0, none⟩ = some (.int .u64 x)) : Calls Try.prog 32 #[.slice none 0 0, .slice (some ⟨b, 0, none⟩) 1 1] w fun e w' => e = .returned (.slice (some ⟨w.heap.size, 0, none⟩) 1 1) ∧ w' = w.alloc (.cells #[.int .u64 x] 45) := by
  have hcp := copy1 b x w hb hc
  go_enter Try.func32, Try.ntmps32
  go_wp2_with (go_at_call 33; refine (natmake _).mono ?_; rintro e w1 ⟨rfl, rfl⟩)
  go_ret
  exact ⟨rfl, rfl⟩

theorem run_neq_ptr_other {P : Program} (w : World) {tp te : TypeId} {j : TypeInfo} {a b : Addr} {ca cb : Array Value} {ta tb : TypeId} (hp : P.underlying tp = some (.pointer te)) (hte : P.info? te = some j) (hsz : j.size ≠ 0)
    (hne : a ≠ b) (ha : w.heap[a.block]? = some (.cells ca ta (0, 0))) (hb : w.heap[b.block]? = some (.cells cb tb (0, 0))) :
    (binOp .neq tp (.pointer (some a)) (.pointer (some b))).run P w = .ok (.bool true) w := by
  have h : ∀ d : Nat, (Op.equalIn (d + 1) tp (.pointer (some a)) (.pointer (some b))).run P w = .ok false w := fun d => by
    simp [Op.equalIn, run_underlying hp, sizeOf, typeInfo, hte, hsz, run_sameAddr_other w hne ha hb]
  simp only [binOp]
  simp [Op.equal, Op.maxDepth, h 9999]

theorem info52 : (Try.prog.info? 52).map (fun i => i.size) = some 2 := by kernel_rfl

theorem lt_blk {w : World} {g : Nat} {o : Obj} (h : w.heap[g]? = some o) : g < w.heap.size := (Array.getElem?_eq_some_iff.1 h).1

/-- a big integer of one word: block z holds its sign and its slice of one word in block b -/
def IsBig (w : World) (z b : Nat) (n : Bool) (v : Int) : Prop :=
  w.heap[z]? = some (.cells #[.bool n, .slice (some ⟨b, 0, none⟩) 1 1] 52 (0, 0)) ∧ w.heap[b]? = some (.cells #[.int .u64 v] 45 (0, 0)) ∧ z ≠ b

theorem after_set (w : World) (z : Nat) (c0 c1 a b : Value) (o : Obj) (hz : w.heap[z]? = some (.cells #[c0, c1] 52 (0, 0))) :
    (((w.setCell ⟨z, 1, none⟩ a).setCell ⟨z, 0, none⟩ b).alloc o).heap[z]? = some (.cells #[b, a] 52 (0, 0)) ∧ (((w.setCell ⟨z, 1, none⟩ a).setCell ⟨z, 0, none⟩ b).alloc o).heap[w.heap.size]? = some o ∧
    w.grownBy (((w.setCell ⟨z, 1, none⟩ a).setCell ⟨z, 0, none⟩ b).alloc o) (some z) := by
  have lz := lt_blk hz
  have h1 := heap_setCell_same w z 1 _ 52 a hz
  have h2 := heap_setCell_same (w.setCell ⟨z, 1, none⟩ a) z 0 _ 52 b h1
  have hs : ((w.setCell ⟨z, 1, none⟩ a).setCell ⟨z, 0, none⟩ b).heap.size = w.heap.size := by simp
  refine ⟨?_, ?_, rfl, rfl, rfl, by simp, fun k hk hne => ?_⟩
  · rw [Below.heap_alloc _ _ _ (by omega), h2]; rfl
  · rw [← hs]; exact heap_alloc_new _ _
  · have hkz : k ≠ z := fun e => hne (by rw [e])
    rw [Below.heap_alloc _ _ _ (by omega), heap_setCell_other _ _ _ _ hkz, heap_setCell_other _ _ _ _ hkz]

theorem grown_drew {w w' : World} {r : Option Nat} (h : w.grownBy w' r) : w.grownBy w'.drew r := ⟨h.1, h.2, h.3, h.4, h.5⟩
theorem grown_setCell {w w' : World} {z i : Nat} {v : Value} (h : w.grownBy w' (some z)) : w.grownBy (w'.setCell ⟨z, i, none⟩ v) (some z) :=
  ⟨h.1, h.2, h.3, by have := h.4; simpa using this, fun k hk hne => by rw [heap_setCell_other _ _ _ _ (fun e => hne (by rw [e]))]; exact h.5 k hk hne⟩

/-- z.Set(x), z fresh, x of one word -/
theorem intset (z x b : Nat) (n : Bool) (v : Int) (w : World) (hzx : z ≠ x) 
    (hz : w.heap[z]? = some (.cells #[.bool false, .slice none 0 0] 52 (0, 0))) (hx : w.heap[x]? = some (.cells #[.bool n, .slice (some ⟨b, 0, none⟩) 1 1] 52 (0, 0))) (hb : w.heap[b]? = some (.cells #[.int .u64 v] 45 (0, 0))) :
    Calls Try.prog 30 #[.pointer (some ⟨z, 0, none⟩), .pointer (some ⟨x, 0, none⟩)] w fun e w' => e = .returned (.pointer (some ⟨z, 0, none⟩)) ∧ IsBig w' z w.heap.size n v ∧ w.grownBy w' (some z) := by
  have HF := Lib.hid (fun o => after_set w z _ _ (.slice (some ⟨w.heap.size, 0, none⟩) 1 1) (.bool n) o hz)
  obtain ⟨j, hj, hj2⟩ : ∃ j, Try.prog.info? 52 = some j ∧ j.size ≠ 0 := by
    have h := info52
    cases hq : Try.prog.info? 52 with
    | none => rw [hq] at h; simp at h
    | some j => rw [hq] at h; simp at h; exact ⟨j, rfl, by omega⟩
  have hq := run_neq_ptr_other (P := Try.prog) w (tp := 42) (te := 52) (a := ⟨z, 0, none⟩) (b := ⟨x, 0, none⟩) Try.underlying42 hj hj2 (by simp) hz hx
  have lz := lt_blk hz; have lx := lt_blk hx; have lb := lt_blk hb
  have z0 : w.cell? ⟨z, 0, none⟩ = some (.bool false) := by rw [cell_of_row w z 0 _ _ _ hz]; rfl
  have z1 : w.cell? ⟨z, 1, none⟩ = some (.slice none 0 0) := by rw [cell_of_row w z 1 _ _ _ hz]; rfl
  have f0 : w.frozen? ⟨z, 0, none⟩ = false := frozen_of_row w z 0 _ _ hz
  have f1 : w.frozen? ⟨z, 1, none⟩ = false := frozen_of_row w z 1 _ _ hz
  have x0 : w.cell? ⟨x, 0, none⟩ = some (.bool n) := by rw [cell_of_row w x 0 _ _ _ hx]; rfl
  have x1 : w.cell? ⟨x, 1, none⟩ = some (.slice (some ⟨b, 0, none⟩) 1 1) := by rw [cell_of_row w x 1 _ _ _ hx]; rfl
  have b0 : w.cell? ⟨b, 0, none⟩ = some (.int .u64 v) := by rw [cell_of_row w b 0 _ _ _ hb]; rfl
  have nz : z ≠ w.heap.size := by omega
  have nx : x ≠ w.heap.size := by omega
  have hxz : x ≠ z := fun e => hzx e.symm
  clear hz hx hb hj hj2
  have z1n := World.new_ne w ⟨z, 1, none⟩ z1
  have x1n := World.new_ne w ⟨x, 1, none⟩ x1
  go_enter Try.func30, Try.ntmps30
  go_wp2_with fail
  go_region_law (first | (go_simp; go_at_call 32; refine (natset b v _ ?_ ?_).mono ?_; (simp; omega); (simp [b0]); rintro e w1 ⟨rfl, rfl⟩))
  all_goals go_wp2_with fail
  all_goals go_ret
  all_goals exact ⟨rfl, ⟨(HF.out _).1, (HF.out _).2.1, nz⟩, grown_drew (HF.out _).2.2⟩

/-- z.Neg(x), z fresh, x of one word -/
theorem intneg (z x b : Nat) (n : Bool) (v : Int) (w : World) (hzx : z ≠ x) 
    (hz : w.heap[z]? = some (.cells #[.bool false, .slice none 0 0] 52 (0, 0))) (hx : w.heap[x]? = some (.cells #[.bool n, .slice (some ⟨b, 0, none⟩) 1 1] 52 (0, 0))) (hb : w.heap[b]? = some (.cells #[.int .u64 v] 45 (0, 0))) :
    Calls Try.prog 20 #[.pointer (some ⟨z, 0, none⟩), .pointer (some ⟨x, 0, none⟩)] w fun e w' => e = .returned (.pointer (some ⟨z, 0, none⟩)) ∧ IsBig w' z w.heap.size (!n) v ∧ w.grownBy w' (some z) := by
  go_enter Try.func20, Try.ntmps20
  go_wp2_with fail
  refine (intset z x b n v _ hzx hz hx hb).mono ?_; rintro e w1 ⟨rfl, hbig, hgr⟩
  have z0 : w1.cell? ⟨z, 0, none⟩ = some (.bool n) := by rw [cell_of_row w1 z 0 _ _ _ hbig.1]; rfl
  have z1 : w1.cell? ⟨z, 1, none⟩ = some (.slice (some ⟨w.heap.size, 0, none⟩) 1 1) := by rw [cell_of_row w1 z 1 _ _ _ hbig.1]; rfl
  have f0 : w1.frozen? ⟨z, 0, none⟩ = false := frozen_of_row w1 z 0 _ _ hbig.1
  have HB := Lib.hid hbig
  have HG := Lib.hid hgr
  clear hbig hgr hz hx hb
  cases n
  all_goals
    go_wp2_with fail
    go_ret
    exact ⟨rfl, ⟨heap_setCell_same _ _ _ _ _ _ HB.out.1, (by rw [heap_setCell_other _ _ _ _ (fun e => HB.out.2.2 e.symm)]; exact HB.out.2.1), HB.out.2.2⟩, grown_setCell HG.out⟩

theorem wrapmin : IntKind.u64.wrap (-9223372036854775808) = 9223372036854775808 := by decide

theorem newint (w : World) : Calls Try.prog 29 #[.int .i64 (-9223372036854775808)] w fun e w' => e = .returned (.pointer (some ⟨w.heap.size + 1, 0, none⟩)) ∧ w' = (w.alloc (.cells #[.int .u64 9223372036854775808] 45)).alloc (.cells #[.bool true, .slice (some ⟨w.heap.size, 0, none⟩) 1 1] 52) := by
  have hw := wrapmin
  go_enter Try.func29, Try.ntmps29
  go_wp2_with fail
  go_ret
  exact ⟨rfl, rfl⟩

theorem three (w : World) (o1 o2 o3 : Obj) : (((w.alloc o1).alloc o2).alloc o3).heap[w.heap.size]? = some o1 ∧ (((w.alloc o1).alloc o2).alloc o3).heap[w.heap.size + 1]? = some o2 ∧ (((w.alloc o1).alloc o2).alloc o3).heap[w.heap.size + 1 + 1]? = some o3 ∧ (((w.alloc o1).alloc o2).alloc o3).heap.size = w.heap.size + 3 := by
  have s1 : (w.alloc o1).heap.size = w.heap.size + 1 := by simp
  have s2 : ((w.alloc o1).alloc o2).heap.size = w.heap.size + 1 + 1 := by simp
  refine ⟨?_, ?_, ?_, by simp⟩
  · rw [Below.heap_alloc _ _ _ (by omega), Below.heap_alloc _ _ _ (by omega)]; exact heap_alloc_new _ _
  · rw [Below.heap_alloc _ _ _ (by omega), ← s1]; exact heap_alloc_new _ _
  · rw [← s2]; exact heap_alloc_new _ _

/-- negate at the least int -/
theorem negmin (w : World) : Calls Try.prog 19 #[.int .i64 (-9223372036854775808)] w fun e w' => e = .returned (.iface 42 (.pointer (some ⟨w.heap.size, 0, none⟩))) ∧ IsBig w' w.heap.size (w.heap.size + 3) false 9223372036854775808 ∧ Below w.heap.size w w' := by
  go_enter Try.func19, Try.ntmps19
  go_wp2_with fail
  refine (newint _).mono ?_; rintro e w1 ⟨rfl, rfl⟩
  go_wp2_with fail
  obtain ⟨t1, t2, t3, t4⟩ := three w (.cells #[.bool false, .slice none 0 0] 52) (.cells #[.int .u64 9223372036854775808] 45) (.cells #[.bool true, .slice (some ⟨w.heap.size + 1, 0, none⟩) 1 1] 52)
  refine (intneg w.heap.size (w.heap.size + 1 + 1) (w.heap.size + 1) true _ _ (by omega) t1 t3 t2).mono ?_; rintro e w2 ⟨rfl, hbig, hgr⟩
  have hb0 : Below w.heap.size w (((w.alloc (.cells #[.bool false, .slice none 0 0] 52)).alloc (.cells #[.int .u64 9223372036854775808] 45)).alloc (.cells #[.bool true, .slice (some ⟨w.heap.size + 1, 0, none⟩) 1 1] 52)) :=
    (((Below.refl _ _).alloc (Nat.le_refl _) _).alloc (by simp) _).alloc (by simp; omega) _
  have HB := Lib.hid (hb0.grown hgr hb0.size (fun k hk => by cases hk; exact Nat.le_refl _))
  rw [t4] at hbig
  have HG := Lib.hid hbig
  clear t1 t2 t3 t4 hb0 hgr hbig
  go_wp2_with fail
  go_ret
  exact ⟨rfl, HG.out, HB.out⟩

/-- negate elsewhere -/
theorem negint (v : Int) (w : World) (h0 : -9223372036854775808 < v) (h1 : v ≤ 9223372036854775807) : Calls Try.prog 19 #[.int .i64 v] w fun e w' => e = .returned (.iface 3 (.int .i64 (-v))) ∧ w = w' := by
  have hne : (v == -9223372036854775808) = false := by simp; omega
  go_enter Try.func19, Try.ntmps19
  go_wp2_with fail
  go_ret
  exact ⟨rfl, rfl⟩
end Go.Proofs.Ytifejbimmffjaaa.big
