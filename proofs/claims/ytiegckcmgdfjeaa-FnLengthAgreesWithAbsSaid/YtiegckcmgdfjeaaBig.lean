/- What negate does at the least int: a new big integer of magnitude 2^63, not negative; and what negating that gives. -/
import Derived.Test.YtiegckcmgdfjeaaTypes
import Derived.Test.YtiegckcmgdfjeaaBase
import Derived.ProofKit
import Derived.OpenShut
import Derived.Lib.Hide
import Derived.WalkLawsBesides
import Derived.WalkSpells
import Derived.Deep.QuietTactic
import Derived.BigQuiet
import Derived.Deep.WholeRow
import Derived.Laws.CopyRow
import Derived.LaidEqlPtr
import Derived.Deep.RegionHeld3
import Derived.Deep.RegionLaw
import Derived.Deep.DrawnRows
namespace Go.Proofs.Ytiegckcmgdfjeaa.big
open Go.ChangeShapes Go.WideShapes Go.ChangeAt Go.RowKit
open types
attribute [local go_sem ↓] Go.wp_at_zero Go.wp_at_succ

theorem mk1 (w : World) : (Instr.makeSlice 72 (.int .i64 1) (.int .i64 1)).run Try.prog w = .ok (.slice (some ⟨w.heap.size, 0, none⟩) 1 1) (w.alloc (.cells #[.int .u64 0] 89)) := by kernel_rfl

theorem natmake (w : World) : Calls Try.prog 74 #[.slice none 0 0, .int .i64 1] w fun e w' => e = .returned (.slice (some ⟨w.heap.size, 0, none⟩) 1 1) ∧ w' = w.alloc (.cells #[.int .u64 0] 89) := by
  have h1 := mk1
  go_enter Try.func74, Try.ntmps74
  go_wp2_with fail
  go_ret
  exact ⟨rfl, rfl⟩

theorem copy1 (b : Nat) (x : Int) (w : World) (hb : b < w.heap.size) (hc : w.cell? ⟨b, 0, none⟩ = some (.int .u64 x)) :
    (Builtin.copy_ #[72, 72] 3 #[.slice (some ⟨w.heap.size, 0, none⟩) 1 1, .slice (some ⟨b, 0, none⟩) 1 1]).run Try.prog (w.alloc (.cells #[.int .u64 0] 89)) = .ok (goInt 1) (w.alloc (.cells #[.int .u64 x] 89)) := by
  have hr := run_copy_row (P := Try.prog) (w.alloc (.cells #[.int .u64 0] 89)) 72 72 3 89 w.heap.size 0 1 1 ⟨b, 0, none⟩ 1 1 #[.int .u64 0] 89 [.int .u64 x] Try.underlying72 (by kernel_rfl) (heap_alloc_new w _) rfl
    (fun j v hj => by
      match j, hj with
      | 0, hj =>
        simp at hj; subst hj
        show (w.alloc _).cell? ⟨b, 0, none⟩ = _
        rw [World.cell?_of_block (w := w) (Below.heap_alloc w _ b hb)]
        exact hc)
    (Nat.le_refl 1) (by intro u hu; simp at hu; subst hu; rfl)
  rw [World.setRow_alloc_new] at hr
  simpa using hr

theorem natset (b : Nat) (x : Int) (w : World) (hb : b < w.heap.size) (hc : w.cell? ⟨b, 0, none⟩ = some (.int .u64 x)) : Calls Try.prog 72 #[.slice none 0 0, .slice (some ⟨b, 0, none⟩) 1 1] w fun e w' => e = .returned (.slice (some ⟨w.heap.size, 0, none⟩) 1 1) ∧ w' = w.alloc (.cells #[.int .u64 x] 89) := by
  have hcp := copy1 b x w hb hc
  go_enter Try.func72, Try.ntmps72
  go_wp2_with (go_at_call 74; refine (natmake _).mono ?_; rintro e w1 ⟨rfl, rfl⟩)
  go_ret
  exact ⟨rfl, rfl⟩

theorem run_neq_ptr_other {P : Program} (w : World) {tp te : TypeId} {j : TypeInfo} {a b : Addr} {ca cb : Array Value} {ta tb : TypeId} (hp : P.underlying tp = some (.pointer te)) (hte : P.info? te = some j) (hsz : j.size ≠ 0)
    (hne : a ≠ b) (ha : w.heap[a.block]? = some (.cells ca ta (0, 0))) (hb : w.heap[b.block]? = some (.cells cb tb (0, 0))) :
    (binOp .neq tp (.pointer (some a)) (.pointer (some b))).run P w = .ok (.bool true) w := by
  have h : ∀ d : Nat, (Op.equalIn (d + 1) tp (.pointer (some a)) (.pointer (some b))).run P w = .ok false w := fun d => by
    simp [Op.equalIn, run_underlying hp, sizeOf, typeInfo, hte, hsz, run_sameAddr_other w hne ha hb]
  simp only [binOp]
  simp [Op.equal, Op.maxDepth, h 9999]

theorem info74 : (Try.prog.info? 74).map (fun i => i.size) = some 2 := by kernel_rfl

theorem lt_blk {w : World} {g : Nat} {o : Obj} (h : w.heap[g]? = some o) : g < w.heap.size := (Array.getElem?_eq_some_iff.1 h).1

/-- a big integer of one word: block z holds its sign and its slice of one word in block b -/
def IsBig (w : World) (z b : Nat) (n : Bool) (v : Int) : Prop :=
  w.heap[z]? = some (.cells #[.bool n, .slice (some ⟨b, 0, none⟩) 1 1] 74 (0, 0)) ∧ w.heap[b]? = some (.cells #[.int .u64 v] 89 (0, 0)) ∧ z ≠ b

theorem after_set (w : World) (z : Nat) (c0 c1 a b : Value) (o : Obj) (hz : w.heap[z]? = some (.cells #[c0, c1] 74 (0, 0))) :
    (((w.setCell ⟨z, 1, none⟩ a).setCell ⟨z, 0, none⟩ b).alloc o).heap[z]? = some (.cells #[b, a] 74 (0, 0)) ∧ (((w.setCell ⟨z, 1, none⟩ a).setCell ⟨z, 0, none⟩ b).alloc o).heap[w.heap.size]? = some o ∧
    w.grownBy (((w.setCell ⟨z, 1, none⟩ a).setCell ⟨z, 0, none⟩ b).alloc o) (some z) := by
  have lz := lt_blk hz
  have h1 := heap_setCell_same w z 1 _ 74 a hz
  have h2 := heap_setCell_same (w.setCell ⟨z, 1, none⟩ a) z 0 _ 74 b h1
  have hs : ((w.setCell ⟨z, 1, none⟩ a).setCell ⟨z, 0, none⟩ b).heap.size = w.heap.size := by simp
  refine ⟨?_, ?_, rfl, rfl, rfl, by simp, fun k hk hne => ?_⟩
  · rw [Below.heap_alloc _ _ _ (by omega), h2]; rfl
  · rw [← hs]; exact heap_alloc_new _ _
  · have hkz : k ≠ z := fun e => hne (by rw [e])
    rw [Below.heap_alloc _ _ _ (by omega), heap_setCell_other _ _ _ _ hkz, heap_setCell_other _ _ _ _ hkz]

theorem grown_drew {w w' : World} {r : Option Nat} (h : w.grownBy w' r) : w.grownBy w'.drew r := ⟨h.1, h.2, h.3, h.4, h.5⟩
theorem grown_setCell {w w' : World} {z i : Nat} {v : Value} (h : w.grownBy w' (some z)) : w.grownBy (w'.setCell ⟨z, i, none⟩ v) (some z) :=
  ⟨h.1, h.2, h.3, by have := h.4; simpa using this, fun k hk hne => by rw [heap_setCell_other _ _ _ _ (fun e => hne (by rw [e]))]; exact h.5 k hk hne⟩

/-- z.Set(x), z fresh, x of one word -/
theorem intset (z x b : Nat) (n : Bool) (v : Int) (w : World) (hzx : z ≠ x) 
    (hz : w.heap[z]? = some (.cells #[.bool false, .slice none 0 0] 74 (0, 0))) (hx : w.heap[x]? = some (.cells #[.bool n, .slice (some ⟨b, 0, none⟩) 1 1] 74 (0, 0))) (hb : w.heap[b]? = some (.cells #[.int .u64 v] 89 (0, 0))) :
    Calls Try.prog 69 #[.pointer (some ⟨z, 0, none⟩), .pointer (some ⟨x, 0, none⟩)] w fun e w' => e = .returned (.pointer (some ⟨z, 0, none⟩)) ∧ IsBig w' z w.heap.size n v ∧ w.grownBy w' (some z) := by
  have HF := Lib.hid (fun o => after_set w z _ _ (.slice (some ⟨w.heap.size, 0, none⟩) 1 1) (.bool n) o hz)
  obtain ⟨j, hj, hj2⟩ : ∃ j, Try.prog.info? 74 = some j ∧ j.size ≠ 0 := by
    have h := info74
    cases hq : Try.prog.info? 74 with
    | none => rw [hq] at h; simp at h
    | some j => rw [hq] at h; simp at h; exact ⟨j, rfl, by omega⟩
  have hq := run_neq_ptr_other (P := Try.prog) w (tp := 66) (te := 74) (a := ⟨z, 0, none⟩) (b := ⟨x, 0, none⟩) Try.underlying66 hj hj2 (by simp) hz hx
  have lz := lt_blk hz; have lx := lt_blk hx; have lb := lt_blk hb
  have z0 : w.cell? ⟨z, 0, none⟩ = some (.bool false) := by rw [cell_of_row w z 0 _ _ _ hz]; rfl
  have z1 : w.cell? ⟨z, 1, none⟩ = some (.slice none 0 0) := by rw [cell_of_row w z 1 _ _ _ hz]; rfl
  have f0 : w.frozen? ⟨z, 0, none⟩ = false := frozen_of_row w z 0 _ _ hz
  have f1 : w.frozen? ⟨z, 1, none⟩ = false := frozen_of_row w z 1 _ _ hz
  have x0 : w.cell? ⟨x, 0, none⟩ = some (.bool n) := by rw [cell_of_row w x 0 _ _ _ hx]; rfl
  have x1 : w.cell? ⟨x, 1, none⟩ = some (.slice (some ⟨b, 0, none⟩) 1 1) := by rw [cell_of_row w x 1 _ _ _ hx]; rfl
  have b0 : w.cell? ⟨b, 0, none⟩ = some (.int .u64 v) := by rw [cell_of_row w b 0 _ _ _ hb]; rfl
  have nz : z ≠ w.heap.size := by omega
  have nx : x ≠ w.heap.size := by omega
  have hxz : x ≠ z := fun e => hzx e.symm
  clear hz hx hb hj hj2
  have z1n := World.new_ne w ⟨z, 1, none⟩ z1
  have x1n := World.new_ne w ⟨x, 1, none⟩ x1
  go_enter Try.func69, Try.ntmps69
  go_wp2_with fail
  go_region_law (first | (go_simp; go_at_call 72; refine (natset b v _ ?_ ?_).mono ?_; (simp; omega); (simp [b0]); rintro e w1 ⟨rfl, rfl⟩))
  all_goals go_wp2_with fail
  all_goals go_ret
  all_goals exact ⟨rfl, ⟨(HF.out _).1, (HF.out _).2.1, nz⟩, grown_drew (HF.out _).2.2⟩

/-- z.Neg(x), z fresh, x of one word -/
theorem intneg (z x b : Nat) (n : Bool) (v : Int) (w : World) (hzx : z ≠ x) 
    (hz : w.heap[z]? = some (.cells #[.bool false, .slice none 0 0] 74 (0, 0))) (hx : w.heap[x]? = some (.cells #[.bool n, .slice (some ⟨b, 0, none⟩) 1 1] 74 (0, 0))) (hb : w.heap[b]? = some (.cells #[.int .u64 v] 89 (0, 0))) :
    Calls Try.prog 65 #[.pointer (some ⟨z, 0, none⟩), .pointer (some ⟨x, 0, none⟩)] w fun e w' => e = .returned (.pointer (some ⟨z, 0, none⟩)) ∧ IsBig w' z w.heap.size (!n) v ∧ w.grownBy w' (some z) := by
  go_enter Try.func65, Try.ntmps65
  go_wp2_with fail
  refine (intset z x b n v _ hzx hz hx hb).mono ?_; rintro e w1 ⟨rfl, hbig, hgr⟩
  have z0 : w1.cell? ⟨z, 0, none⟩ = some (.bool n) := by rw [cell_of_row w1 z 0 _ _ _ hbig.1]; rfl
  have z1 : w1.cell? ⟨z, 1, none⟩ = some (.slice (some ⟨w.heap.size, 0, none⟩) 1 1) := by rw [cell_of_row w1 z 1 _ _ _ hbig.1]; rfl
  have f0 : w1.frozen? ⟨z, 0, none⟩ = false := frozen_of_row w1 z 0 _ _ hbig.1
  have HB := Lib.hid hbig
  have HG := Lib.hid hgr
  clear hbig hgr hz hx hb
  cases n
  all_goals
    go_wp2_with fail
    go_ret
    exact ⟨rfl, ⟨heap_setCell_same _ _ _ _ _ _ HB.out.1, (by rw [heap_setCell_other _ _ _ _ (fun e => HB.out.2.2 e.symm)]; exact HB.out.2.1), HB.out.2.2⟩, grown_setCell HG.out⟩

theorem wrapmin : IntKind.u64.wrap (-9223372036854775808) = 9223372036854775808 := by decide

theorem newint (w : World) : Calls Try.prog 66 #[.int .i64 (-9223372036854775808)] w fun e w' => e = .returned (.pointer (some ⟨w.heap.size + 1, 0, none⟩)) ∧ w' = (w.alloc (.cells #[.int .u64 9223372036854775808] 89)).alloc (.cells #[.bool true, .slice (some ⟨w.heap.size, 0, none⟩) 1 1] 74) := by
  have hw := wrapmin
  go_enter Try.func66, Try.ntmps66
  go_wp2_with fail
  go_ret
  exact ⟨rfl, rfl⟩

theorem three (w : World) (o1 o2 o3 : Obj) : (((w.alloc o1).alloc o2).alloc o3).heap[w.heap.size]? = some o1 ∧ (((w.alloc o1).alloc o2).alloc o3).heap[w.heap.size + 1]? = some o2 ∧ (((w.alloc o1).alloc o2).alloc o3).heap[w.heap.size + 1 + 1]? = some o3 ∧ (((w.alloc o1).alloc o2).alloc o3).heap.size = w.heap.size + 3 := by
  have s1 : (w.alloc o1).heap.size = w.heap.size + 1 := by simp
  have s2 : ((w.alloc o1).alloc o2).heap.size = w.heap.size + 1 + 1 := by simp
  refine ⟨?_, ?_, ?_, by simp⟩
  · rw [Below.heap_alloc _ _ _ (by omega), Below.heap_alloc _ _ _ (by omega)]; exact heap_alloc_new _ _
  · rw [Below.heap_alloc _ _ _ (by omega), ← s1]; exact heap_alloc_new _ _
  · rw [← s2]; exact heap_alloc_new _ _

/-- negate at the least int -/
theorem negmin (w : World) : Calls Try.prog 52 #[.int .i64 (-9223372036854775808)] w fun e w' => e = .returned (.iface 66 (.pointer (some ⟨w.heap.size, 0, none⟩))) ∧ IsBig w' w.heap.size (w.heap.size + 3) false 9223372036854775808 ∧ Below w.heap.size w w' := by
  go_enter Try.func52, Try.ntmps52
  go_wp2_with fail
  refine (newint _).mono ?_; rintro e w1 ⟨rfl, rfl⟩
  go_wp2_with fail
  obtain ⟨t1, t2, t3, t4⟩ := three w (.cells #[.bool false, .slice none 0 0] 74) (.cells #[.int .u64 9223372036854775808] 89) (.cells #[.bool true, .slice (some ⟨w.heap.size + 1, 0, none⟩) 1 1] 74)
  refine (intneg w.heap.size (w.heap.size + 1 + 1) (w.heap.size + 1) true _ _ (by omega) t1 t3 t2).mono ?_; rintro e w2 ⟨rfl, hbig, hgr⟩
  have hb0 : Below w.heap.size w (((w.alloc (.cells #[.bool false, .slice none 0 0] 74)).alloc (.cells #[.int .u64 9223372036854775808] 89)).alloc (.cells #[.bool true, .slice (some ⟨w.heap.size + 1, 0, none⟩) 1 1] 74)) :=
    (((Below.refl _ _).alloc (Nat.le_refl _) _).alloc (by simp) _).alloc (by simp; omega) _
  have HB := Lib.hid (hb0.grown hgr hb0.size (fun k hk => by cases hk; exact Nat.le_refl _))
  rw [t4] at hbig
  have HG := Lib.hid hbig
  clear t1 t2 t3 t4 hb0 hgr hbig
  go_wp2_with fail
  go_ret
  exact ⟨rfl, HG.out, HB.out⟩

/-- negate elsewhere -/
theorem negint (v : Int) (w : World) (h0 : -9223372036854775808 < v) (h1 : v ≤ 9223372036854775807) : Calls Try.prog 52 #[.int .i64 v] w fun e w' => e = .returned (.iface 3 (.int .i64 (-v))) ∧ w = w' := by
  have hne : (v == -9223372036854775808) = false := by simp; omega
  go_enter Try.func52, Try.ntmps52
  go_wp2_with fail
  go_ret
  exact ⟨rfl, rfl⟩
end Go.Proofs.Ytiegckcmgdfjeaa.big
