/- A row of one-cell elements in a block of its own, filled from its head on; no function of the program in sight. -/
import Derived.Test.YtbogmmpbmgibnaaDoorBase
import Derived.OwnWalk
import Derived.Deep.WholeRow
import Derived.Deep.DrawnRows
import Derived.Lib.Hide
namespace Go.Proofs.YtbogmmpbmgibnaaDoor.fill
open Go.RowKit

/-- block B holds just these cells, none frozen -/
def Row (w : World) (B : Nat) (e : TypeId) (xs : List Value) : Prop := w.heap[B]? = some (.cells xs.toArray e (0, 0))

theorem Row.lt {w : World} {B : Nat} {e : TypeId} {xs : List Value} (h : Row w B e xs) : B < w.heap.size := (Array.getElem?_eq_some_iff.1 h).1
theorem Row.cell {w : World} {B : Nat} {e : TypeId} {xs : List Value} (h : Row w B e xs) {j : Nat} {v : Value} (hj : xs[j]? = some v) : w.cell? ⟨B, j, none⟩ = some v := by
  rw [cell_of_row w B j _ _ _ h]; simpa using hj
theorem Row.free {w : World} {B : Nat} {e : TypeId} {xs : List Value} (h : Row w B e xs) (j : Nat) : w.frozen? ⟨B, j, none⟩ = false := frozen_of_row w B j _ _ h
theorem Row.set {w : World} {B : Nat} {e : TypeId} {xs : List Value} (h : Row w B e xs) (j : Nat) (v : Value) : Row (w.setCell ⟨B, j, none⟩ v) B e (xs.set j v) := by
  have := heap_setCell_same w B j _ e v h
  unfold Row; rw [this]; simp
theorem Row.kept {w w' : World} {B : Nat} {e : TypeId} {xs : List Value} (h : Row w B e xs) (hb : Below w.heap.size w w') : Row w' B e xs := (hb.block B h.lt).trans h
theorem Row.keptBut {w w' : World} {B : Nat} {e : TypeId} {xs : List Value} {r : Option Nat} (h : Row w B e xs) (hg : w.grownBy w' r) (hne : some B ≠ r) : Row w' B e xs := (hg.block B h.lt hne).trans h
theorem Row.other {w : World} {B : Nat} {e : TypeId} {xs : List Value} (h : Row w B e xs) {a : Addr} (hne : B ≠ a.block) (v : Value) : Row (w.setCell a v) B e xs := (Below.heap_setCell w a v B hne).trans h
theorem Row.alloc {w : World} {B : Nat} {e : TypeId} {xs : List Value} (h : Row w B e xs) (o : Obj) : Row (w.alloc o) B e xs := (Below.heap_alloc w o B h.lt).trans h
theorem Row.new (w : World) (e : TypeId) (xs : List Value) : Row (w.alloc (.cells xs.toArray e)) w.heap.size e xs := heap_alloc_last w _
theorem Row.drew {w : World} {B : Nat} {e : TypeId} {xs : List Value} (h : Row w B e xs) : Row w.drew B e xs := h
theorem Row.of_own {w : World} {base g n : Nat} {e : TypeId} {xs : List Value} (h : w.ownsRow base e 1 (.slice (some ⟨g, 0, none⟩) n n) n xs) : Row w g e xs := by
  rcases h.2 with ⟨h', _⟩ | ⟨g', cap', cur, h', hb, hg, hnc, hcm, hcs, htake⟩
  · simp at h'
  · simp only [Value.slice.injEq, Option.some.injEq, Addr.mk.injEq, and_true, true_and] at h'
    obtain ⟨rfl, rfl⟩ := h'
    rw [List.take_of_length_le (by rw [Array.length_toList, hcs]; exact Nat.le_refl _)] at htake
    unfold Row; rw [hg, ← htake]
/-- what 'make' with a computed size leaves -/
theorem Row.of_made {w : World} {base g n : Nat} {e : TypeId} {z : Value} (hz : z.cells = #[z]) (h : w.ownsRow base e 1 (.slice (some ⟨g, 0, none⟩) n n) n (madeCells z.cells (n * 1)).toList) : Row w g e (List.replicate n z) := by
  have := Row.of_own h
  rwa [hz, Nat.mul_one, toList_madeCells_one] at this

/-- the first j of n places hold f, the others z -/
def fpart (n j : Nat) (f : Nat → Value) (z : Value) : List Value := (List.range j).map f ++ List.replicate (n - j) z
theorem fpart_zero (n : Nat) (f : Nat → Value) (z : Value) : fpart n 0 f z = List.replicate n z := by simp [fpart]
theorem fpart_all (n : Nat) (f : Nat → Value) (z : Value) : fpart n n f z = (List.range n).map f := by simp [fpart]
theorem fpart_at (n j : Nat) (f : Nat → Value) (z : Value) (i : Nat) (h : i < n) (_hj : j ≤ n) : (fpart n j f z)[i]? = some (if i < j then f i else z) := by
  unfold fpart
  split
  · rename_i hlt
    rw [List.getElem?_append_left (by simpa using hlt)]; simp [hlt]
  · rename_i hge
    rw [List.getElem?_append_right (by simpa using hge), List.getElem?_replicate, if_pos (by simp; omega)]
theorem fpart_set (n j : Nat) (f : Nat → Value) (z : Value) (h : j < n) : (fpart n j f z).set j (f j) = fpart n (j + 1) f z := by
  apply List.ext_getElem?
  intro i
  by_cases hi : i < n
  · rw [List.getElem?_set, fpart_at n (j + 1) f z i hi (by omega), fpart_at n j f z i hi (by omega)]
    by_cases e : j = i
    · subst e; simp [fpart, List.length_append]; omega
    · rw [if_neg e]; congr 1
      by_cases c : i < j
      · rw [if_pos c, if_pos (by omega)]
      · rw [if_neg c, if_neg (by omega)]
  · rw [List.getElem?_eq_none (by simp [fpart]; omega), List.getElem?_eq_none (by simp [fpart]; omega)]

/-- a slice of one-cell elements as it came in: nil, or a row of which the first 'len' cells hold f -/
def In (w : World) (a : Option Addr) (len : Nat) (f : Nat → Value) : Prop :=
  (a = none ∧ len = 0) ∨ ∃ x, a = some x ∧ (0 < len → x.block < w.heap.size) ∧ ∀ i, i < len → w.cell? (x.add i) = some (f i)
theorem add_block (x : Addr) (i : Nat) : (x.add i).block = x.block := by unfold Addr.add; split <;> rfl
theorem In.kept {w w' : World} {a : Option Addr} {len : Nat} {f : Nat → Value} (h : In w a len f) (hb : Below w.heap.size w w') : In w' a len f := by
  rcases h with h | ⟨x, rfl, hx, hc⟩
  · exact .inl h
  · exact .inr ⟨x, rfl, fun h => Nat.lt_of_lt_of_le (hx h) hb.size, fun i hi => by
      rw [hb.cell (p := x.add i) (by rw [add_block]; exact hx (by omega))]; exact hc i hi⟩
/-- a cell of it, in a later world -/
theorem later {w w' : World} {x : Addr} {len : Nat} {f : Nat → Value} (hx : 0 < len → x.block < w.heap.size) (hc : ∀ i, i < len → w.cell? (x.add i) = some (f i)) (hb : Below w.heap.size w w') (i : Nat) (hi : i < len) : w'.cell? (x.add i) = some (f i) := by
  rw [hb.cell (p := x.add i) (by rw [add_block]; exact hx (by omega))]; exact hc i hi
theorem add_none (b o j : Nat) : (⟨b, o, none⟩ : Addr).add j = ⟨b, o + j, none⟩ := by unfold Addr.add; split <;> simp_all
theorem In.of_row {w : World} {B n : Nat} {e : TypeId} {f : Nat → Value} (h : Row w B e ((List.range n).map f)) : In w (some ⟨B, 0, none⟩) n f :=
  .inr ⟨_, rfl, fun _ => h.lt, fun i hi => by
    rw [add_none, Nat.zero_add]; exact h.cell (by simp [hi])⟩
theorem addr_lt {w : World} {x : Addr} {i : Nat} {v : Value} (h : w.cell? (x.add i) = some v) : x.block < w.heap.size := by
  unfold World.cell? at h
  rw [add_block] at h
  by_cases hx : x.block < w.heap.size
  · exact hx
  · rw [Array.getElem?_eq_none (by omega)] at h; simp at h
/-- a slice of strings that came in -/
theorem In.of_strs {w : World} {a : Option Addr} {len cap : Nat} {zs : List ByteArray} (h : inp.IsStrs w a len cap zs) : In w a len (fun i => .string (zs.getD i ByteArray.empty)) := by
  rcases h with ⟨rfl, rfl, _, _⟩ | ⟨x, rfl, h1, _, h3, h4, _⟩
  · exact .inl ⟨rfl, rfl⟩
  · exact .inr ⟨x, rfl, fun h0 => addr_lt (h4 0 (by omega)), fun i hi => h4 i (by omega)⟩
theorem In.of_ints {k : IntKind} {w : World} {a : Option Addr} {len cap : Nat} {zs : List Int} (h : inp.IsRow k w a len cap zs) : In w a len (fun i => .int k (zs.getD i 0)) := by
  rcases h with ⟨rfl, rfl, _, _⟩ | ⟨x, rfl, h1, _, h3, h4, _⟩
  · exact .inl ⟨rfl, rfl⟩
  · exact .inr ⟨x, rfl, fun h0 => addr_lt (h4 0 (by omega)), fun i hi => h4 i (by omega)⟩
/-- the same row, another spelling of what it holds -/
theorem In.congr {w : World} {a : Option Addr} {len : Nat} {f g : Nat → Value} (h : In w a len f) (e : ∀ i, i < len → f i = g i) : In w a len g := by
  rcases h with h | ⟨x, rfl, hx, hc⟩
  · exact .inl h
  · exact .inr ⟨x, rfl, hx, fun i hi => by rw [hc i hi, e i hi]⟩
end Go.Proofs.YtbogmmpbmgibnaaDoor.fill
