/- What an iterator of n numbers holds, and what its next call hands over: three forms. -/
import Derived.Test.YtenkhaopiiokmaaIter
namespace Go.Proofs.Ytenkhaopiiokmaa.next
open Go.ChangeShapes Go.WideShapes Go.ChangeAt Go.RowKit
open upd fill iter

theorem m72 (w : World) : (method 231 72 (.agg #[]) "Next").run Try.prog w = .ok (33, .agg #[]) w := by kernel_rfl
theorem m73 (p : Addr) (w : World) : (method 231 73 (.pointer (some p)) "Next").run Try.prog w = .ok (34, .pointer (some p)) w := by kernel_rfl
theorem m77 (p : Addr) (w : World) : (method 231 77 (.pointer (some p)) "Next").run Try.prog w = .ok (35, .pointer (some p)) w := by kernel_rfl

/-- k of n numbers have been handed over; n is 0, 1, more -/
def It0 (_w : World) (_p _g n : Nat) (_bs : Nat → Int) (k : Nat) : Prop := n = 0 ∧ k = 0
def It1 (w : World) (p g n : Nat) (bs : Nat → Int) (k : Nat) : Prop := n = 1 ∧ k ≤ 1 ∧ p ≠ g ∧ Row w g 3 ((List.range n).map (fB bs)) ∧ Blk w p #[.iface 3 (.int .i64 (bs 0)), .bool (decide (1 ≤ k))] 75
def It2 (w : World) (p g n : Nat) (bs : Nat → Int) (k : Nat) : Prop := 2 ≤ n ∧ n ≤ 131072 ∧ k ≤ n ∧ p ≠ g ∧ Row w g 3 ((List.range n).map (fB bs)) ∧ ((k < n ∧ Blk w p #[.slice (some ⟨g, k, none⟩) (n - k) (n - k)] 76) ∨ (k = n ∧ ∃ a, Blk w p #[.slice a 0 0] 76))

theorem rcell {w : World} {g n : Nat} {bs : Nat → Int} (h : Row w g 3 ((List.range n).map (fB bs))) {k : Nat} (hk : k < n) : w.cell? ⟨g, k, none⟩ = some (.int .i64 (bs k)) := h.cell (by simp [hk, fB])
theorem row_upd {S : Nat → Prop} {w w' : World} {g : Nat} {e : TypeId} {xs : List Value} (h : Row w g e xs) (hu : Upd S w w') (hs : ¬ S g) : Row w' g e xs := (hu.block g h.lt hs).trans h

theorem It0.kept {S : Nat → Prop} {w w' : World} {p g n k : Nat} {bs : Nat → Int} (h : It0 w p g n bs k) (_hu : Upd S w w') (_hp : ¬ S p) (_hg : ¬ S g) : It0 w' p g n bs k := h
theorem It1.kept {S : Nat → Prop} {w w' : World} {p g n k : Nat} {bs : Nat → Int} (h : It1 w p g n bs k) (hu : Upd S w w') (hp : ¬ S p) (hg : ¬ S g) : It1 w' p g n bs k := by
  obtain ⟨h1, h2, h3, h4, h5⟩ := h
  exact ⟨h1, h2, h3, row_upd h4 hu hg, h5.kept hu hp⟩
theorem It2.kept {S : Nat → Prop} {w w' : World} {p g n k : Nat} {bs : Nat → Int} (h : It2 w p g n bs k) (hu : Upd S w w') (hp : ¬ S p) (hg : ¬ S g) : It2 w' p g n bs k := by
  obtain ⟨h1, h2, h3, h4, h5, h6⟩ := h
  refine ⟨h1, h2, h3, h4, row_upd h5 hu hg, ?_⟩
  rcases h6 with ⟨a, b⟩ | ⟨a, s, b⟩
  · exact .inl ⟨a, b.kept hu hp⟩
  · exact .inr ⟨a, s, b.kept hu hp⟩
theorem It0.cell {w : World} {p g n k j : Nat} {bs : Nat → Int} (h : It0 w p g n bs k) (hk : j < n) : w.cell? ⟨g, j, none⟩ = some (.int .i64 (bs j)) := by obtain ⟨h1, _⟩ := h; omega
theorem It1.cell {w : World} {p g n k j : Nat} {bs : Nat → Int} (h : It1 w p g n bs k) (hk : j < n) : w.cell? ⟨g, j, none⟩ = some (.int .i64 (bs j)) := rcell h.2.2.2.1 hk
theorem It2.cell {w : World} {p g n k j : Nat} {bs : Nat → Int} (h : It2 w p g n bs k) (hk : j < n) : w.cell? ⟨g, j, none⟩ = some (.int .i64 (bs j)) := rcell h.2.2.2.2.1 hk

theorem newI0 (a : Option Addr) (cap : Nat) (g : Nat) (bs : Nat → Int) (w : World) : Calls Try.prog 10 #[.slice a 0 cap] w fun e w' => e = .returned (.iface 72 (.agg #[])) ∧ It0 w' w.heap.size g 0 bs 0 ∧ Below w.heap.size w w' :=
  (new0 a cap w).mono fun _ _ ⟨h1, h2⟩ => by subst h2; exact ⟨h1, ⟨rfl, rfl⟩, Below.refl _ _⟩
theorem newI1 (g : Nat) (bs : Nat → Int) (w : World) (h : Row w g 3 ((List.range 1).map (fB bs))) : Calls Try.prog 10 #[.slice (some ⟨g, 0, none⟩) 1 1] w fun e w' => e = .returned (.iface 73 (.pointer (some ⟨w.heap.size, 0, none⟩))) ∧ It1 w' w.heap.size g 1 bs 0 ∧ Below w.heap.size w w' :=
  (new1 g 1 (bs 0) w (rcell h (by omega))).mono fun _ _ ⟨h1, h2⟩ => by
    subst h2
    exact ⟨h1, ⟨rfl, by omega, by have := h.lt; omega, h.alloc _, Blk.new _ _ _⟩, (Below.refl _ _).alloc (Nat.le_refl _) _⟩
theorem newI2 (g n : Nat) (bs : Nat → Int) (w : World) (h : Row w g 3 ((List.range n).map (fB bs))) (h2 : 2 ≤ n) (hn : n ≤ 131072) : Calls Try.prog 10 #[.slice (some ⟨g, 0, none⟩) n n] w fun e w' => e = .returned (.iface 77 (.pointer (some ⟨w.heap.size, 0, none⟩))) ∧ It2 w' w.heap.size g n bs 0 ∧ Below w.heap.size w w' :=
  (new2 g n n w h2).mono fun _ _ ⟨h1, h3⟩ => by
    subst h3
    exact ⟨h1, ⟨h2, hn, by omega, by have := h.lt; omega, h.alloc _, .inl ⟨by omega, Blk.new _ _ _⟩⟩, (Below.refl _ _).alloc (Nat.le_refl _) _⟩
theorem newI1' (g n : Nat) (bs : Nat → Int) (w : World) (h : Row w g 3 ((List.range n).map (fB bs))) (hn : n = 1) : Calls Try.prog 10 #[.slice (some ⟨g, 0, none⟩) n n] w fun e w' => e = .returned (.iface 73 (.pointer (some ⟨w.heap.size, 0, none⟩))) ∧ It1 w' w.heap.size g n bs 0 ∧ Below w.heap.size w w' := by
  subst hn; exact newI1 g bs w h
/-- of whatever list: some iterator -/
theorem newAny (a : Option Addr) (n cap : Nat) (bs : Nat → Int) (w : World) (h : n = 0 ∨ ∃ g, a = some ⟨g, 0, none⟩ ∧ cap = n ∧ Row w g 3 ((List.range n).map (fB bs))) (hn : n ≤ 131072) : Calls Try.prog 10 #[.slice a n cap] w fun e w' => ∃ t p, e = .returned (.iface t p) ∧ Below w.heap.size w w' := by
  rcases h with rfl | ⟨g, rfl, rfl, h⟩
  · exact (newI0 a cap 0 bs w).mono fun _ _ ⟨h1, _, h3⟩ => ⟨_, _, h1, h3⟩
  · rcases (show cap = 0 ∨ cap = 1 ∨ 2 ≤ cap by omega) with rfl | rfl | h2
    · exact (newI0 _ _ 0 bs w).mono fun _ _ ⟨h1, _, h3⟩ => ⟨_, _, h1, h3⟩
    · exact (newI1 g bs w h).mono fun _ _ ⟨h1, _, h3⟩ => ⟨_, _, h1, h3⟩
    · exact (newI2 g cap bs w h h2 hn).mono fun _ _ ⟨h1, _, h3⟩ => ⟨_, _, h1, h3⟩

theorem nextI0 (w : World) (p g n k : Nat) (bs : Nat → Int) (h : It0 w p g n bs k) (hk : k < n) : Calls Try.prog 33 #[.agg #[]] w fun e w' => e = .returned (some_ (bs k)) ∧ It0 w' p g n bs (k + 1) ∧ Upd (· = p) w w' := by
  obtain ⟨h1, _⟩ := h; omega
theorem endI0 (w : World) (p g n k : Nat) (bs : Nat → Int) (h : It0 w p g n bs k) (_hk : k = n) : Calls Try.prog 33 #[.agg #[]] w fun e w' => e = .returned none_ ∧ It0 w' p g n bs k ∧ Upd (· = p) w w' :=
  (next0 w).mono fun _ _ ⟨h1, h2⟩ => ⟨h1, h, Upd.of_below h2⟩
theorem nextI1 (w : World) (p g n k : Nat) (bs : Nat → Int) (h : It1 w p g n bs k) (hk : k < n) : Calls Try.prog 34 #[.pointer (some ⟨p, 0, none⟩)] w fun e w' => e = .returned (some_ (bs k)) ∧ It1 w' p g n bs (k + 1) ∧ Upd (· = p) w w' := by
  obtain ⟨rfl, _, h3, h4, h5⟩ := h
  obtain rfl : k = 0 := by omega
  refine (next1 w p (bs 0) h5).mono fun _ w' ⟨h1, h2⟩ => ?_
  subst h2
  exact ⟨h1, ⟨rfl, by omega, h3, h4.other (fun e => h3 e.symm) _, h5.set 1 _⟩, Upd.setCell (S := (· = p)) (Upd.refl _ _) (p := ⟨p, 1, none⟩) (.inl rfl) _⟩
theorem endI1 (w : World) (p g n k : Nat) (bs : Nat → Int) (h : It1 w p g n bs k) (hk : k = n) : Calls Try.prog 34 #[.pointer (some ⟨p, 0, none⟩)] w fun e w' => e = .returned none_ ∧ It1 w' p g n bs k ∧ Upd (· = p) w w' := by
  have h' := h
  obtain ⟨rfl, _, h3, h4, h5⟩ := h
  subst hk
  exact (next1e w p _ h5).mono fun _ w' ⟨h1, h2⟩ => by subst h2; exact ⟨h1, h', Upd.refl _ _⟩
theorem nextI2 (w : World) (p g n k : Nat) (bs : Nat → Int) (h : It2 w p g n bs k) (hk : k < n) : Calls Try.prog 35 #[.pointer (some ⟨p, 0, none⟩)] w fun e w' => e = .returned (some_ (bs k)) ∧ It2 w' p g n bs (k + 1) ∧ Upd (· = p) w w' := by
  have hc := h.cell hk
  obtain ⟨h1, h2, h3, h4, h5, h6⟩ := h
  rcases h6 with ⟨_, b⟩ | ⟨a, _⟩
  · by_cases hl : k + 1 < n
    · obtain ⟨m, hm⟩ : ∃ m, n - k = m + 2 := ⟨n - k - 2, by omega⟩
      rw [hm] at b
      refine (next2 w p g k m (bs k) b hc (by omega)).mono fun _ w' ⟨e1, e2⟩ => ?_
      subst e2
      refine ⟨e1, ⟨h1, h2, by omega, h4, h5.other (fun e => h4 e.symm) _, .inl ⟨hl, ?_⟩⟩, Upd.setCell (S := (· = p)) (Upd.refl _ _) (p := ⟨p, 0, none⟩) (.inl rfl) _⟩
      rw [show n - (k + 1) = m + 1 by omega]
      exact b.set 0 _
    · rw [show n - k = 1 by omega] at b
      refine (next2l w p g k (bs k) b hc).mono fun _ w' ⟨e1, e2⟩ => ?_
      subst e2
      exact ⟨e1, ⟨h1, h2, by omega, h4, h5.other (fun e => h4 e.symm) _, .inr ⟨by omega, _, b.set 0 _⟩⟩, Upd.setCell (S := (· = p)) (Upd.refl _ _) (p := ⟨p, 0, none⟩) (.inl rfl) _⟩
  · omega
theorem endI2 (w : World) (p g n k : Nat) (bs : Nat → Int) (h : It2 w p g n bs k) (hk : k = n) : Calls Try.prog 35 #[.pointer (some ⟨p, 0, none⟩)] w fun e w' => e = .returned none_ ∧ It2 w' p g n bs k ∧ Upd (· = p) w w' := by
  have h' := h
  obtain ⟨h1, h2, h3, h4, h5, h6⟩ := h
  rcases h6 with ⟨a, _⟩ | ⟨_, a, b⟩
  · omega
  · exact (next2e w p a b).mono fun _ w' ⟨e1, e2⟩ => by subst e2; exact ⟨e1, h', Upd.refl _ _⟩
theorem copied_some {bs : Nat → Int} {n : Nat} {w : World} {e : Ending} {w' : World} (h : Copied bs n w e w') (hn : 0 < n) : ∃ g, e = .returned (.slice (some ⟨g, 0, none⟩) n n) ∧ Row w' g 3 ((List.range n).map (fB bs)) ∧ w.heap.size ≤ w'.heap.size ∧ Below w.heap.size w w' := by
  obtain ⟨a, cap, rfl, h | ⟨g, rfl, rfl, h⟩, hb⟩ := h
  · omega
  · exact ⟨g, rfl, h, hb.size, hb⟩
end Go.Proofs.Ytenkhaopiiokmaa.next
