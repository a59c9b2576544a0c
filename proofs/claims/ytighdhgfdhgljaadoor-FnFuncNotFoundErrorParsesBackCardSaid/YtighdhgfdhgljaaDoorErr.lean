/- What the error's text is. -/
import Derived.Test.YtighdhgfdhgljaaDoorPlain
import Derived.Test.YtighdhgfdhgljaaDoorShelf
import Derived.Test.YtighdhgfdhgljaaDoorBase
import Derived.WalkKit
import Derived.KernelRfl
import Derived.ProofKit
import Derived.OpenShut
import Derived.LoopTactic
import Derived.Lib.Hide
import Derived.WalkLawsBesides
import Derived.WalkSpells
import Derived.Laws.EntriesVeiled
import Derived.OwnWalk
import Derived.RegionTactic
import Derived.ChangeAlike
import Derived.BigRegion
import Derived.Deep.RegionLaw
import Derived.Deep.WholeRow
import Derived.Deep.DrawnRows
import Derived.Lib.AppendIntMem
import Derived.IntWalk
import Derived.Lib.ItoaLen
set_option linter.unusedVariables false
namespace Go.Proofs.YtighdhgfdhgljaaDoor.err
open Go.ChangeShapes Go.WideShapes Go.ChangeAt Go.RowKit
open plain

/-- the table of the library's -/
abbrev Tab (B : Nat) (w : World) : Prop := Lib.TabBelow Tryd.prog B w "internal/strconv.uint64pow10" .u64 Lib.pow10Tab
theorem itoa8 (n : Nat) (hn : n ≤ 65536) (B : Nat) (w : World) (hT : Tab B w) (hB : B ≤ w.heap.size) :
    Calls Tryd.prog 8 #[.int .i64 n] w fun e w' => e = .returned (.string ⟨(Lib.decDigits n).toArray⟩) ∧ Below w.heap.size w w' := by
  refine (Tryd.strconv_Itoa (n : Int) (by omega) (by omega) w hT.here).mono ?_
  rintro e w' ⟨rfl, k, os, rfl⟩
  exact ⟨by rw [Lib.itoa_nonneg], Lib.below_grow _ w (Nat.le_refl _) k os⟩
theorem Tab.drew {B : Nat} {w : World} (h : Tab B w) : Tab B w.drew := h.on ⟨rfl, rfl, rfl, Nat.le_refl _, fun _ _ => rfl⟩
theorem Tab.drewN {B : Nat} {w : World} (h : Tab B w) (n : Nat) : Tab B (w.drewN n) := h.on ⟨rfl, rfl, rfl, Nat.le_refl _, fun _ _ => rfl⟩

theorem keep3 {w w1 : World} {fb q : Nat} {x y z : Value} (hb : Below w.drew.heap.size w.drew w1) (hfl : fb < w.heap.size) (hql : q < w.heap.size) (hf : w.cell? ⟨fb, 0, none⟩ = some x) (h0 : w.cell? ⟨q, 0, none⟩ = some y) (h1 : w.cell? ⟨q, 1, none⟩ = some z) :
    w1.cell? ⟨fb, 0, none⟩ = some x ∧ w1.cell? ⟨q, 0, none⟩ = some y ∧ w1.cell? ⟨q, 1, none⟩ = some z :=
  ⟨(hb.cell (p := ⟨fb, 0, none⟩) hfl).trans hf, (hb.cell (p := ⟨q, 0, none⟩) hql).trans h0, (hb.cell (p := ⟨q, 1, none⟩) hql).trans h1⟩
theorem Upd2 {w w1 : World} (h : Below w.drew.heap.size w.drew w1) : Below w.heap.size w w1 := ⟨h.os, h.tape, h.output, h.size, h.block⟩
set_option maxHeartbeats 2000000 in
theorem error7 (fb q n cap : Nat) (a : Option Addr) (name : ByteArray) (B : Nat) (w : World) (hT : Tab B w) (hB : B ≤ w.heap.size) (hf : w.cell? ⟨fb, 0, none⟩ = some (.pointer (some ⟨q, 0, none⟩))) (h0 : w.cell? ⟨q, 0, none⟩ = some (.string name)) (h1 : w.cell? ⟨q, 1, none⟩ = some (.slice a n cap))
    (hfl : fb < w.heap.size) (hql : q < w.heap.size) (hn : n ≤ 65536) (hz : name.size ≤ 524288) :
    Calls Tryd.prog 7 #[.pointer (some ⟨fb, 0, none⟩)] w fun e w' => e = .returned (.string (M name (Lib.decDigits n))) ∧ Below w.heap.size w w' := by
  have HT := Lib.hid hT
  have HF := Lib.hid hf; have H0 := Lib.hid h0; have H1 := Lib.hid h1
  clear hT
  have hdl : (Lib.decDigits n).length ≤ 21 := by have := Lib.itoa_length_le (n : Int) (by omega) (by omega); rwa [Lib.itoa_nonneg] at this
  have s1 : ¬ 9223372036854775807 < 22 + name.size := by omega
  have s2 : ¬ 9223372036854775807 < 22 + name.size + 1 := by omega
  have s3 : ¬ 9223372036854775807 < 22 + name.size + 1 + (Lib.decDigits n).length := by omega
  go_enter Tryd.func7, Tryd.ntmps7
  go_wp2_with fail
  go_region_law (first | (go_simp; go_at_call 8; refine (itoa8 n hn B _ (by first | exact HT.out.drew | exact HT.out) (by simpa using hB)).mono ?_; rintro e w1 ⟨rfl, hb1⟩; obtain ⟨k0, k1, k2⟩ := keep3 hb1 hfl hql HF.out H0.out H1.out; have HB1 := Lib.hid hb1; clear hb1))
  all_goals
    as_aux_lemma =>
      go_wp2_with fail
      go_ret
      exact ⟨rfl, by first | exact (Upd2 HB1.out) | exact HB1.out⟩
end Go.Proofs.YtighdhgfdhgljaaDoor.err
