/- Plain facts on a stack whose entries lie in one list and point down to each other, beside a list that only grows; no program in sight. -/
import Derived.RowKit
namespace Go.Proofs.Ytemifkcgmfincaa.plain

/- one entry: what it holds, the place of the next one (-1: none) -/
variable {α : Type}

/-- the chain from place i on holds the list l -/
inductive Ch (d : List (α × Int)) : Int → List α → Prop
  | nil : Ch d (-1) []
  | cons {i : Nat} {v : α} {n : Int} {l : List α} : d[i]? = some (v, n) → n < i → Ch d n l → Ch d i (v :: l)

theorem Ch.ge {d : List (α × Int)} {i : Int} {l : List α} (h : Ch d i l) : -1 ≤ i ∧ i < d.length := by
  cases h with
  | nil => omega
  | cons h1 _ _ => have := (List.getElem?_eq_some_iff.1 h1).1; omega

theorem Ch.keep {d d' : List (α × Int)} {i : Int} {l : List α} (h : Ch d i l) : (∀ j : Nat, (j : Int) ≤ i → d'[j]? = d[j]?) → Ch d' i l := by
  induction h with
  | nil => intro _; exact .nil
  | cons h1 h2 _ ih => intro hk; exact .cons ((hk _ (Int.le_refl _)).trans h1) h2 (ih fun j hj => hk j (by omega))

theorem Ch.neg {d : List (α × Int)} {i : Int} {l : List α} (h : Ch d i l) (hi : i < 0) : i = -1 ∧ l = [] := by
  cases h with
  | nil => exact ⟨rfl, rfl⟩
  | cons h1 _ _ => omega
theorem Ch.pos {d : List (α × Int)} {i : Int} {l : List α} (h : Ch d i l) (hi : 0 ≤ i) : ∃ (k : Nat) (v : α) (n : Int) (r : List α), i = k ∧ d[k]? = some (v, n) ∧ n < i ∧ l = v :: r ∧ Ch d n r := by
  cases h with
  | nil => omega
  | cons h1 h2 h3 => exact ⟨_, _, _, _, rfl, h1, h2, rfl, h3⟩
theorem Ch.nil_iff {d : List (α × Int)} {i : Int} {l : List α} (h : Ch d i l) : i < 0 ↔ l = [] := by
  cases h with
  | nil => simp
  | cons h1 h2 h3 => simp

/-- an entry laid at place i: over the old one, or behind the last -/
def put (d : List (α × Int)) (i : Nat) (b : α × Int) : List (α × Int) := if i < d.length then d.set i b else d ++ [b]
theorem put_at (d : List (α × Int)) (i : Nat) (b : α × Int) (h : i ≤ d.length) : (put d i b)[i]? = some b := by
  unfold put
  split
  · rw [List.getElem?_set_self (by omega)]
  · rw [List.getElem?_append_right (by omega)]; simp [show i - d.length = 0 by omega]
theorem put_other (d : List (α × Int)) (i j : Nat) (b : α × Int) (h : j < i) (hi : i ≤ d.length) : (put d i b)[j]? = d[j]? := by
  unfold put
  split
  · rw [List.getElem?_set_ne (by omega)]
  · rw [List.getElem?_append_left (by omega)]
theorem put_len (d : List (α × Int)) (i : Nat) (b : α × Int) (_h : i ≤ d.length) : (put d i b).length = if i < d.length then d.length else d.length + 1 := by
  unfold put; split <;> simp
theorem put_len_ge (d : List (α × Int)) (i : Nat) (b : α × Int) (h : i ≤ d.length) : d.length ≤ (put d i b).length ∧ i < (put d i b).length ∧ (put d i b).length ≤ d.length + 1 := by
  rw [put_len d i b h]; split <;> omega

/-- a stack in order: its index and limit lie within the entries, a chain goes down from the index -/
structure Wf (d : List (α × Int)) (idx lim : Int) : Prop where
  l1 : -1 ≤ lim
  l2 : lim < d.length
  ch : ∃ l, Ch d idx l

/-- what was saved: the model's head, the index, the limit; the last one first -/
def Saves (d m : List (α × Int)) : Int → List (Int × Int × Int) → Prop
  | _, [] => True
  | L, (h, i, k) :: rest => i ≤ L ∧ k ≤ L ∧ -1 ≤ k ∧ (∃ l, Ch d i l ∧ Ch m h l) ∧ Saves d m k rest

theorem Saves.keep {d d' m m' : List (α × Int)} : ∀ {sv : List (Int × Int × Int)} {L : Int}, Saves d m L sv → (∀ j : Nat, (j : Int) ≤ L → d'[j]? = d[j]?) → (∀ j : Nat, j < m.length → m'[j]? = m[j]?) → Saves d' m' L sv
  | [], _, _, _, _ => trivial
  | (h, i, k) :: rest, L, hs, hd, hm => by
    obtain ⟨a, b, c, ⟨l, c1, c2⟩, hr⟩ := hs
    exact ⟨a, b, c, ⟨l, c1.keep fun j hj => hd j (by omega), c2.keep fun j hj => hm j (by have := c2.ge; omega)⟩, hr.keep (fun j hj => hd j (by omega)) hm⟩
theorem Saves.up {d m : List (α × Int)} {sv : List (Int × Int × Int)} {L L' : Int} (h : Saves d m L sv) (hl : L ≤ L') : Saves d m L' sv := by
  cases sv with
  | nil => trivial
  | cons x r => obtain ⟨h', i, k⟩ := x; obtain ⟨a, b, c, e, f⟩ := h; exact ⟨by omega, by omega, c, e, f⟩

/-- the stack and the model hold the same, now and at every save -/
structure Inv (d : List (α × Int)) (idx lim : Int) (m : List (α × Int)) (head : Int) (sv : List (Int × Int × Int)) : Prop where
  l1 : -1 ≤ lim
  l2 : lim < d.length
  ch : ∃ l, Ch d idx l ∧ Ch m head l
  sv : Saves d m lim sv

theorem Inv.wf {d m : List (α × Int)} {idx lim head : Int} {sv : List (Int × Int × Int)} (h : Inv d idx lim m head sv) : Wf d idx lim := by
  obtain ⟨l, a, _⟩ := h.ch; exact ⟨h.l1, h.l2, l, a⟩

theorem inv_start : Inv (α := α) [] (-1) (-1) [] (-1) [] := ⟨by omega, by simp, ⟨[], .nil, .nil⟩, trivial⟩

theorem Inv.empty {d m : List (α × Int)} {idx lim head : Int} {sv : List (Int × Int × Int)} (h : Inv d idx lim m head sv) : (idx < 0 ↔ head < 0) ∧ -1 ≤ idx ∧ idx < d.length ∧ -1 ≤ head ∧ head < m.length := by
  obtain ⟨l, a, b⟩ := h.ch
  have := a.ge; have := b.ge
  exact ⟨a.nil_iff.trans b.nil_iff.symm, by omega, by omega, by omega, by omega⟩

/-- where the next entry goes -/
def top (idx lim : Int) : Nat := (max idx lim + 1).toNat
theorem top_eq (idx lim : Int) (h : -1 ≤ lim) : ((top idx lim : Nat) : Int) = max idx lim + 1 := by unfold top; omega

theorem Wf.top_le {d : List (α × Int)} {idx lim : Int} (h : Wf d idx lim) : top idx lim ≤ d.length := by
  obtain ⟨l, a⟩ := h.ch
  have := a.ge; have := h.l2; unfold top; omega

theorem Wf.push {d : List (α × Int)} {idx lim : Int} (h : Wf d idx lim) (v : α) : Wf (put d (top idx lim) (v, idx)) (top idx lim) lim := by
  have ht := h.top_le
  have hp := put_len_ge d (top idx lim) (v, idx) ht
  obtain ⟨l, a⟩ := h.ch
  have e := top_eq idx lim h.l1
  refine ⟨h.l1, by have := h.l2; omega, v :: l, .cons (put_at _ _ _ ht) (by omega) (a.keep fun j hj => put_other _ _ _ _ (by omega) ht)⟩
theorem Wf.pop {d : List (α × Int)} {idx lim : Int} (h : Wf d idx lim) (hi : 0 ≤ idx) : ∃ (k : Nat) (v : α) (n : Int), idx = k ∧ d[k]? = some (v, n) ∧ -1 ≤ n ∧ n < idx ∧ Wf d n lim := by
  obtain ⟨l, a⟩ := h.ch
  obtain ⟨k, v, n, r, e1, e2, e3, _, e5⟩ := a.pos hi
  exact ⟨k, v, n, e1, e2, e5.ge.1, e3, h.l1, h.l2, r, e5⟩

theorem Inv.push {d m : List (α × Int)} {idx lim head : Int} {sv : List (Int × Int × Int)} (h : Inv d idx lim m head sv) (v : α) :
    Inv (put d (top idx lim) (v, idx)) (top idx lim) lim (m ++ [(v, head)]) m.length sv := by
  have ht := h.wf.top_le
  have hp := put_len_ge d (top idx lim) (v, idx) ht
  have e := top_eq idx lim h.l1
  have hm : ∀ j : Nat, j < m.length → (m ++ [(v, head)])[j]? = m[j]? := fun j hj => List.getElem?_append_left hj
  obtain ⟨l, a, b⟩ := h.ch
  have hb := b.ge
  refine ⟨h.l1, by have := h.l2; omega, ⟨v :: l, .cons (put_at _ _ _ ht) (by omega) (a.keep fun j hj => put_other _ _ _ _ (by omega) ht), .cons (by simp) (by omega) (b.keep fun j hj => hm j (by omega))⟩, ?_⟩
  exact h.sv.keep (fun j hj => put_other _ _ _ _ (by omega) ht) hm

theorem Inv.pop {d m : List (α × Int)} {idx lim head : Int} {sv : List (Int × Int × Int)} (h : Inv d idx lim m head sv) (hi : 0 ≤ head) :
    ∃ (k j : Nat) (v : α) (n n' : Int), idx = k ∧ head = j ∧ d[k]? = some (v, n) ∧ m[j]? = some (v, n') ∧ n' < head ∧ Inv d n lim m n' sv := by
  obtain ⟨l, a, b⟩ := h.ch
  have he := h.empty.1
  obtain ⟨k, v, n, r, e1, e2, e3, e4, e5⟩ := a.pos (by omega)
  obtain ⟨j, v', n', r', f1, f2, f3, f4, f5⟩ := b.pos hi
  rw [e4] at f4
  simp only [List.cons.injEq] at f4
  obtain ⟨rfl, rfl⟩ := f4
  exact ⟨k, j, v, n, n', e1, f1, e2, f2, f3, h.l1, h.l2, ⟨_, e5, f5⟩, h.sv⟩

theorem Inv.save {d m : List (α × Int)} {idx lim head : Int} {sv : List (Int × Int × Int)} (h : Inv d idx lim m head sv) : Inv d idx (max idx lim) m head ((head, idx, lim) :: sv) := by
  obtain ⟨l, a, b⟩ := h.ch
  have := a.ge; have := h.l1; have := h.l2
  exact ⟨by omega, by omega, ⟨l, a, b⟩, by omega, by omega, h.l1, ⟨l, a, b⟩, h.sv⟩
theorem Inv.restore {d m : List (α × Int)} {idx lim head h' i k : Int} {sv : List (Int × Int × Int)} (h : Inv d idx lim m head ((h', i, k) :: sv)) : Inv d i k m h' sv := by
  obtain ⟨a, b, c, e, f⟩ := h.sv
  exact ⟨c, by have := h.l2; omega, e, f⟩
/-- the same pair saved and restored at once -/
theorem Inv.same {d m : List (α × Int)} {idx lim head : Int} {sv : List (Int × Int × Int)} (h : Inv d idx lim m head sv) : Inv d idx lim m head sv := h

/-- pushes alone keep what lies at or below the limit -/
theorem keep_push {d : List (α × Int)} {idx lim : Int} (h : Wf d idx lim) (v : α) (j : Nat) (hj : (j : Int) ≤ lim) : (put d (top idx lim) (v, idx))[j]? = d[j]? :=
  put_other _ _ _ _ (by have := top_eq idx lim h.l1; omega) h.top_le

/-- a fork: the entries up to the limit are as they were; then the old index and limit serve again -/
theorem Inv.back {d d' m : List (α × Int)} {idx lim head : Int} {sv : List (Int × Int × Int)} (h : Inv d idx lim m head sv) (hk : ∀ j : Nat, (j : Int) ≤ max idx lim → d'[j]? = d[j]?) (hl : d.length ≤ d'.length) : Inv d' idx lim m head sv := by
  obtain ⟨l, a, b⟩ := h.ch
  exact ⟨h.l1, by have := h.l2; omega, ⟨l, a.keep fun j hj => hk j (by omega), b⟩, h.sv.keep (fun j hj => hk j (by omega)) (fun _ _ => rfl)⟩
end Go.Proofs.Ytemifkcgmfincaa.plain
