/- New scopes, a new compiler. -/
import Derived.Test.YtmfpmpbilekbgaaVar
set_option linter.unusedVariables false
namespace Go.Proofs.Ytmfpmpbilekbgaa.newc
open Go.ChangeShapes Go.WideShapes Go.ChangeAt Go.RowKit
open upd comp grow add lookv var

/-- a new scope's cells -/
def fresh (i : Int) : Array Value := #[.slice none 0 0, .slice none 0 0, .int .i64 i, .int .i64 0, .int .i64 0]
theorem newScope (w : World) (c : Nat) (i : Int) (h9 : w.cell? ⟨c, 9, none⟩ = some (.int .i64 i)) (f9 : w.frozen? ⟨c, 9, none⟩ = false) (l : c < w.heap.size) (h0 : 0 ≤ i) (h1 : i ≤ 2097152) :
    Calls Try.prog 44 #[.pointer (some ⟨c, 0, none⟩)] w fun e w' => e = .returned (.pointer (some ⟨w.heap.size, 0, none⟩)) ∧ w' = (w.setCell ⟨c, 9, none⟩ (.int .i64 (i + 1))).alloc (.cells (fresh i) 114) := by
  go_enter Try.func44, Try.ntmps44
  go_wp2_with fail
  go_ret
  exact ⟨rfl, rfl⟩

def comp0 : Array Value := #[.nilIface, .nilFunc, .slice none 0 0, .map none, .nilIface, .slice none 0 0, .slice none 0 0, .pointer none, .slice none 0 0, .int .i64 0, .int .u32 0, .int .i32 0, .int .u32 0, .pointer none, .nilFunc, .nilFunc, .int .u64 0]
theorem fresh_in {base : Nat} {w : World} {col : Nat → Nat} {q b : Nat} {i : Int} (h : Blk w b (fresh i) 114) (hc : col b = q) (hb : base ≤ b) : ScIn base w col q b ⟨i, [], []⟩ :=
  ⟨_, _, [], [], h, hc, hb, ⟨World.ownsRow_nil _ _ _ _, Col.nil _ _, fun j p h => by simp at h⟩, ⟨World.ownsRow_nil _ _ _ _, Col.nil _ _, fun j p h => by simp at h⟩, rfl, rfl⟩
theorem row_one {base : Nat} {w : World} {g p : Nat} {e : TypeId} (h : Blk w g #[ptr p] e) (hb : base ≤ g) : w.ownsRow base e 1 (.slice (some ⟨g, 0, none⟩) 1 1) 1 (ptrs [p]) :=
  ⟨rfl, .inr ⟨g, 1, _, rfl, hb, h, Nat.le_refl _, by unfold maxLen; omega, rfl, rfl⟩⟩
theorem made {base : Nat} {w : World} {c b0 b1 g : Nat} (hc : Blk w c (comp (.slice none 0 0) b0 (.slice (some ⟨g, 0, none⟩) 1 1) 2) 95) (h0 : Blk w b0 (fresh 0) 114) (h1 : Blk w b1 (fresh 1) 114) (hg : Blk w g #[ptr b1] 71) (l : base ≤ c) (l0 : c < b0) (l1 : b0 < b1) (l2 : b1 < g) :
    ∃ col, CompAt base w col c (.slice none 0 0) b0 (.slice (some ⟨g, 0, none⟩) 1 1) [b1] ⟨0, [], []⟩ [⟨1, [], []⟩] 2 := by
  refine ⟨fun k => if k = c then 1 else if k = b0 then 3 else if k = b1 then 10 else if k = g then 2 else 0, hc, by simp, l, fun _ => fresh_in h0 (by simp; omega) (by omega), fun e => (by simp at e), row_one hg (by omega), fun k hk => ?_, rfl, fun k s hk => ?_⟩
  · have : g = k := by simpa [Value.ownBlock] using hk
    subst this
    simp only []
    rw [if_neg (by omega), if_neg (by omega), if_neg (by omega)]; exact if_pos trivial
  · have hk0 : k = 0 := by have := (List.getElem?_eq_some_iff.1 hk).1; simp at this; omega
    subst hk0
    simp at hk
    subst hk
    refine ⟨b1, rfl, fresh_in h1 ?_ (by omega)⟩
    simp only []
    rw [if_neg (by omega), if_neg (by omega)]; exact if_pos trivial

/-- a compiler as the statements build it: one scope, number 1 -/
def Born (base c : Nat) (w' : World) : Prop := ∃ col bb sv bs, CompAt base w' col c (.slice none 0 0) bb sv bs ⟨0, [], []⟩ [⟨1, [], []⟩] 2
set_option maxHeartbeats 1000000 in
theorem newComp (w : World) : Calls Try.prog 16 #[] w fun e w' => e = .returned (.pointer (some ⟨w.heap.size, 0, none⟩)) ∧ Born w.heap.size w.heap.size w' ∧ Below w.heap.size w w' := by
  obtain ⟨c, hc⟩ : ∃ c, c = w.heap.size := ⟨_, rfl⟩
  obtain ⟨W0, hW0⟩ : ∃ W0, W0 = w.alloc (.cells comp0 95) := ⟨_, rfl⟩
  have hB0 : Blk W0 c comp0 95 := by rw [hW0, hc]; exact Blk.new _ _ _
  have hu0 : Upd (fun k => w.heap.size ≤ k) w W0 := by rw [hW0]; exact (Upd.refl _ _).alloc _
  have HB0 := Lib.hid hB0
  have HU0 := Lib.hid hu0
  have HC := Lib.hid hc
  have c9 : W0.cell? ⟨c, 9, none⟩ = some (.int .i64 0) := by rw [hB0.cell]; rfl
  have f9 := hB0.free 9
  have l0 := hB0.lt
  have HW := Lib.hid hW0
  clear hW0 hB0 hu0
  unfold comp0 at HW
  go_enter Try.func16, Try.ntmps16
  go_wp2_with fail
  rw [← HW.out, ← hc]
  clear hc HW
  go_at_call 44
  refine (newScope W0 c 0 c9 f9 l0 (by omega) (by omega)).mono ?_
  rintro e w1 ⟨rfl, hw1⟩
  obtain ⟨b0, hb0⟩ : ∃ b0, b0 = W0.heap.size := ⟨_, rfl⟩
  have hC1 : Blk w1 c (comp0.setIfInBounds 9 (.int .i64 1)) 95 := by rw [hw1]; exact (HB0.out.set 9 _).alloc _
  have hD1 : Blk w1 b0 (fresh 0) 114 := by rw [hw1, hb0]; have := Blk.new (W0.setCell ⟨c, 9, none⟩ (.int .i64 (0 + 1))) (fresh 0) 114; simpa using this
  have HU1 : Hid (Upd (fun k => w.heap.size ≤ k) w w1) := by unfold Hid; rw [hw1]; exact (HU0.out.setCell (.inr (by have := HC.out; simp; omega)) _).alloc _
  rw [← hb0]
  have g7 := hC1.free 7
  have g0 : w1.cell? ⟨c, 7, none⟩ = some (.pointer none) := by rw [hC1.cell]; rfl
  have l1 := hC1.lt
  have l2 := hD1.lt
  have l3 : c < b0 := by omega
  have HC1 := Lib.hid hC1
  have HD1 := Lib.hid hD1
  clear hw1 hb0 hC1 hD1 c9 f9 l0 HB0 HU0
  go_wp2_with fail
  obtain ⟨w2, hw2⟩ : ∃ w2, w2 = w1.setCell ⟨c, 7, none⟩ (.pointer (some ⟨b0, 0, none⟩)) := ⟨_, rfl⟩
  rw [← hw2]
  have hC2 : Blk w2 c ((comp0.setIfInBounds 9 (.int .i64 1)).setIfInBounds 7 (ptr b0)) 95 := by rw [hw2]; exact HC1.out.set 7 _
  have hD2 : Blk w2 b0 (fresh 0) 114 := by rw [hw2]; exact HD1.out.other (show b0 ≠ c by omega) _
  have HU2 : Hid (Upd (fun k => w.heap.size ≤ k) w w2) := by unfold Hid; rw [hw2]; exact HU1.out.setCell (.inl (by have := HC.out; simp; omega)) _
  have c9 : w2.cell? ⟨c, 9, none⟩ = some (.int .i64 1) := by rw [hC2.cell]; rfl
  have f9 := hC2.free 9
  have l4 := hC2.lt
  have l5 := hD2.lt
  have HC2 := Lib.hid hC2
  have HD2 := Lib.hid hD2
  clear hw2 hC2 hD2 g7 g0 l1 l2 HC1 HD1 HU1
  go_at_call 44
  refine (newScope w2 c 1 c9 f9 l4 (by omega) (by omega)).mono ?_
  rintro e w3 ⟨rfl, hw3⟩
  obtain ⟨b1, hb1⟩ : ∃ b1, b1 = w2.heap.size := ⟨_, rfl⟩
  have hC3 : Blk w3 c (((comp0.setIfInBounds 9 (.int .i64 1)).setIfInBounds 7 (ptr b0)).setIfInBounds 9 (.int .i64 2)) 95 := by rw [hw3]; exact (HC2.out.set 9 _).alloc _
  have hD3 : Blk w3 b0 (fresh 0) 114 := by rw [hw3]; exact (HD2.out.other (show b0 ≠ c by omega) _).alloc _
  have hE3 : Blk w3 b1 (fresh 1) 114 := by rw [hw3, hb1]; have := Blk.new (w2.setCell ⟨c, 9, none⟩ (.int .i64 (1 + 1))) (fresh 1) 114; simpa using this
  have HU3 : Hid (Upd (fun k => w.heap.size ≤ k) w w3) := by unfold Hid; rw [hw3]; exact (HU2.out.setCell (.inl (by have := HC.out; simp; omega)) _).alloc _
  rw [← hb1]
  have g8 := hC3.free 8
  have g0 : w3.cell? ⟨c, 8, none⟩ = some (.slice none 0 0) := by rw [hC3.cell]; rfl
  have l6 := hC3.lt
  have l7 := hE3.lt
  have l8 : b0 < b1 := by omega
  have HC3 := Lib.hid hC3
  have HD3 := Lib.hid hD3
  have HE3 := Lib.hid hE3
  clear hw3 hb1 hC3 hD3 hE3 c9 f9 l4 l5 HC2 HD2 HU2
  go_wp2_with fail
  go_ret
  have k1 := (HC3.out.set 8 (.slice (some ⟨w3.heap.size, 0, none⟩) 1 1)).alloc (.cells #[ptr b1] 71)
  have k2 := (HD3.out.other (p := ⟨c, 8, none⟩) (show b0 ≠ c by omega) (.slice (some ⟨w3.heap.size, 0, none⟩) 1 1)).alloc (.cells #[ptr b1] 71)
  have k3 := (HE3.out.other (p := ⟨c, 8, none⟩) (show b1 ≠ c by omega) (.slice (some ⟨w3.heap.size, 0, none⟩) 1 1)).alloc (.cells #[ptr b1] 71)
  have k4 : Blk ((w3.setCell ⟨c, 8, none⟩ (.slice (some ⟨w3.heap.size, 0, none⟩) 1 1)).alloc (.cells #[ptr b1] 71)) w3.heap.size #[ptr b1] 71 := by
    have := Blk.new (w3.setCell ⟨c, 8, none⟩ (.slice (some ⟨w3.heap.size, 0, none⟩) 1 1)) #[ptr b1] 71
    simpa using this
  obtain ⟨col, hm⟩ := made (base := w.heap.size) (by simpa [comp0, comp] using k1) k2 k3 k4 (by have := HC.out; omega) l3 l8 l7
  have hu := ((HU3.out.setCell (p := ⟨c, 8, none⟩) (.inl (show w.heap.size ≤ c by have := HC.out; omega)) (.slice (some ⟨w3.heap.size, 0, none⟩) 1 1)).alloc (.cells #[ptr b1] 71)).below (B := w.heap.size) (Nat.le_refl _) (fun _ h => h)
  have hcc := HC.out
  exact ⟨by rw [← hcc]; rfl, ⟨col, _, _, _, by rw [← hcc] at hm ⊢; exact hm⟩, hu⟩
end Go.Proofs.Ytmfpmpbilekbgaa.newc
