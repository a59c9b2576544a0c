/- What builtins appended one after another leave: their functions, their codes; no function of the program in sight but the contracts. -/
import Derived.Test.YtmfpmpbilekbgaaLookB
import Derived.Test.YtmfpmpbilekbgaaModel
set_option linter.unusedVariables false
namespace Go.Proofs.Ytmfpmpbilekbgaa.lay
open Go.ChangeShapes Go.WideShapes Go.ChangeAt Go.RowKit
open upd comp grow add lookv var newc push wrap pushv lookf doors codes lazy bi45 body lookb zs guard model

/-- the slot of the j-th header -/
def start (bd : Nat → Nat) : Nat → Nat
  | 0 => 0
  | j + 1 => start bd j + 1 + bd j
def bfuncs (la : List ByteArray) (lb : List Int) (bd : Nat → Nat) (k : Nat) : List (ByteArray × Int × Int) := (List.range k).map fun j => (la.getD j ByteArray.empty, (start bd j : Int) + 1, lb.getD j 0)
theorem bfuncs_len (la : List ByteArray) (lb : List Int) (bd : Nat → Nat) (k : Nat) : (bfuncs la lb bd k).length = k := by simp [bfuncs]
theorem bfuncs_at (la : List ByteArray) (lb : List Int) (bd : Nat → Nat) (k j : Nat) (h : j < k) : (bfuncs la lb bd k)[j]? = some (la.getD j ByteArray.empty, (start bd j : Int) + 1, lb.getD j 0) := by simp [bfuncs, h]
theorem bfuncs_snoc (la : List ByteArray) (lb : List Int) (bd : Nat → Nat) (k : Nat) : bfuncs la lb bd (k + 1) = bfuncs la lb bd k ++ [(la.getD k ByteArray.empty, (start bd k : Int) + 1, lb.getD k 0)] := by simp [bfuncs, List.range_succ]
def bcodes (bd : Nat → Nat) : Nat → List (Int × Value)
  | 0 => []
  | k + 1 => bcodes bd k ++ [jump (start bd k + 1 + bd k)] ++ List.replicate (bd k) nop
theorem bcodes_len (bd : Nat → Nat) : ∀ k, (bcodes bd k).length = start bd k
  | 0 => rfl
  | k + 1 => by simp [bcodes, start, bcodes_len bd k]; omega
/-- behind k builtins -/
def LB (base : Nat) (w0 : World) (col0 : Nat → Nat) (c bb : Nat) (sv : Value) (bs : List Nat) (L : List Sc) (cnt : Int) (la : List ByteArray) (lb : List Int) (bd : Nat → Nat) (k : Nat) (w : World) : Prop :=
  ∃ col ps, NB base w0 col0 w col ∧ AllSome ps ∧ CB base w col c bb sv bs ⟨0, [], bfuncs la lb bd k⟩ L cnt ps (bcodes bd k)
theorem LB.start {base c bb : Nat} {w0 : World} {col0 : Nat → Nat} {sv : Value} {bs : List Nat} {L : List Sc} {cnt : Int} (h : CompAt base w0 col0 c (.slice none 0 0) bb sv bs ⟨0, [], []⟩ L cnt) (la : List ByteArray) (lb : List Int) (bd : Nat → Nat) : LB base w0 col0 c bb sv bs L cnt la lb bd 0 w0 :=
  ⟨col0, [], NB.refl _ _ _, fun o h => (by cases h), _, h, Cods.nil _ _ _⟩
theorem LB.drew {base c bb k : Nat} {w0 w : World} {col0 : Nat → Nat} {sv : Value} {bs : List Nat} {L : List Sc} {cnt : Int} {la : List ByteArray} {lb : List Int} {bd : Nat → Nat} (h : LB base w0 col0 c bb sv bs L cnt la lb bd k w) (d : Nat) : LB base w0 col0 c bb sv bs L cnt la lb bd k (w.drewN d) := by
  obtain ⟨col, ps, h1, h2, h3⟩ := h
  have hu : Upd (fun _ => False) w (w.drewN d) := (Upd.refl _ _).drewN d
  exact ⟨col, ps, h1.trans (NB.step hu col (fun _ _ => rfl)), h2, h3.step hu (fun _ _ => rfl)⟩
theorem LB.below {base c bb k : Nat} {w0 w : World} {col0 : Nat → Nat} {sv : Value} {bs : List Nat} {L : List Sc} {cnt : Int} {la : List ByteArray} {lb : List Int} {bd : Nat → Nat} (h : LB base w0 col0 c bb sv bs L cnt la lb bd k w) (hb : base ≤ w0.heap.size) : Below base w0 w := by
  obtain ⟨col, ps, h1, _⟩ := h
  exact h1.2.below hb (fun k hk => hk.1)
theorem LB.step {base c bb k : Nat} {w0 w : World} {col0 : Nat → Nat} {sv : Value} {bs : List Nat} {L : List Sc} {cnt : Int} {la : List ByteArray} {lb : List Int} {bd : Nat → Nat} (h : LB base w0 col0 c bb sv bs L cnt la lb bd k w) (s : ByteArray) (hs : la[k]? = some s) (hz : s.size ≤ 1048576) (hk : k ≤ 2097152) (h1 : lay.start bd k ≤ 1048576) (h2 : bd k ≤ 65536) (hb : base ≤ w0.heap.size) :
    Calls Try.prog 17 #[.pointer (some ⟨c, 0, none⟩), .string s, .int .i64 (lb.getD k 0), .int .i64 (bd k)] w fun e w' => e = .returned (.tuple #[]) ∧ LB base w0 col0 c bb sv bs L cnt la lb bd (k + 1) w' := by
  obtain ⟨col, ps, hN, hA, hC⟩ := h
  have hlen : ps.length = lay.start bd k := by obtain ⟨cv, _, hD⟩ := hC; rw [hD.len, bcodes_len]
  have hsz := hN.2.size
  refine (addBuiltin hC rfl s (lb.getD k 0) (bd k) (by omega) h2 (by rw [bfuncs_len]; exact hk) hz (by omega)).mono fun e w' ⟨h1, ps', col', k1, k2, k3⟩ => ⟨h1, col', ps', hN.trans k1, k2 hA, ?_⟩
  rw [bfuncs_snoc]
  have e : la.getD k ByteArray.empty = s := by simp [List.getD, hs]
  rw [e]
  unfold bcodes
  rw [hlen] at k3
  exact k3
theorem start_zero (k : Nat) : lay.start (fun _ => 0) k = k := by
  induction k with
  | zero => rfl
  | succ k ih => simp [lay.start, ih]

/-- the j-th name and arity are these -/
def Mt (la : List ByteArray) (lb : List Int) (nm : ByteArray) (ac : Int) (j : Nat) : Prop := la[j]? = some nm ∧ lb.getD j 0 = ac
/-- what the statement's loop has found ahead of j -/
def WB (la : List ByteArray) (lb : List Int) (nm : ByteArray) (ac : Int) (j : Nat) (wt : Int) : Prop :=
  (wt = -1 ∧ ∀ t, t < j → ¬ Mt la lb nm ac t) ∨ ∃ i : Nat, wt = (i : Int) + 1 ∧ i < j ∧ Mt la lb nm ac i ∧ ∀ t, i < t → t < j → ¬ Mt la lb nm ac t
theorem WB.start (la : List ByteArray) (lb : List Int) (nm : ByteArray) (ac : Int) : WB la lb nm ac 0 (-1) := .inl ⟨rfl, fun t h => by omega⟩
theorem WB.miss {la : List ByteArray} {lb : List Int} {nm : ByteArray} {ac : Int} {j : Nat} {wt : Int} (h : WB la lb nm ac j wt) (hn : ¬ Mt la lb nm ac j) : WB la lb nm ac (j + 1) wt := by
  rcases h with ⟨h1, h2⟩ | ⟨i, h1, h2, h3, h4⟩
  · exact .inl ⟨h1, fun t ht => by
      rcases Nat.lt_or_ge t j with hlt | hge
      · exact h2 t hlt
      · obtain rfl : t = j := by omega
        exact hn⟩
  · exact .inr ⟨i, h1, by omega, h3, fun t ht1 ht2 => by
      rcases Nat.lt_or_ge t j with hlt | hge
      · exact h4 t ht1 hlt
      · obtain rfl : t = j := by omega
        exact hn⟩
theorem WB.hit {la : List ByteArray} {lb : List Int} {nm : ByteArray} {ac : Int} {j : Nat} {wt : Int} (h : WB la lb nm ac j wt) (hm : Mt la lb nm ac j) : WB la lb nm ac (j + 1) ((j : Int) + 1) :=
  .inr ⟨j, rfl, by omega, hm, fun t h1 h2 => by omega⟩
theorem mt_of {la : List ByteArray} {lb : List Int} {nm : ByteArray} {ac : Int} {bd : Nat → Nat} {j : Nat} {f : ByteArray × Int × Int} (h : (bfuncs la lb bd la.length)[j]? = some f) (h1 : f.1 = nm) (h2 : f.2.2 = ac) : Mt la lb nm ac j ∧ f.2.1 = (lay.start bd j : Int) + 1 ∧ j < la.length := by
  have hj : j < la.length := by have := (List.getElem?_eq_some_iff.1 h).1; rwa [bfuncs_len] at this
  rw [bfuncs_at _ _ _ _ _ hj] at h
  cases h
  exact ⟨⟨by rw [List.getElem?_eq_getElem hj]; simp [List.getD, hj] at h1; rw [h1], h2⟩, rfl, hj⟩
theorem of_mt {la : List ByteArray} {lb : List Int} {nm : ByteArray} {ac : Int} {bd : Nat → Nat} {j : Nat} (h : Mt la lb nm ac j) : (bfuncs la lb bd la.length)[j]? = some (nm, (lay.start bd j : Int) + 1, ac) := by
  have hj := (List.getElem?_eq_some_iff.1 h.1).1
  rw [bfuncs_at _ _ _ _ _ hj, h.2]
  simp [List.getD, h.1]
theorem agreeB {la : List ByteArray} {lb : List Int} {nm : ByteArray} {ac wt : Int} {bd : Nat → Nat} {fs : List Nat} {w : World} {e : Ending} (h : WB la lb nm ac la.length wt) (k : LookB (bfuncs la lb bd la.length) fs nm ac w e) :
    (wt = -1 ∧ e = .returned (.pointer none)) ∨ ∃ (p i : Nat), wt = (i : Int) + 1 ∧ e = .returned (.pointer (some ⟨p, 0, none⟩)) ∧ FunAt w p (nm, (lay.start bd i : Int) + 1, ac) ∧ fs[i]? = some p := by
  rcases k with ⟨j, f, p, k1, k2, k3, k4, k5, k6, rfl⟩ | ⟨k1, rfl⟩
  · obtain ⟨m1, m2, m3⟩ := mt_of k1 k2 k3
    rcases h with ⟨h1, h2⟩ | ⟨i, h1, h2, h3, h4⟩
    · exact (h2 j m3 m1).elim
    · have hij : i = j := by
        rcases Nat.lt_trichotomy i j with h | h | h
        · exact (h4 j h m3 m1).elim
        · exact h
        · exact (k4 i _ (by omega) (of_mt h3) ⟨rfl, rfl⟩).elim
      subst hij
      refine .inr ⟨p, i, h1, rfl, ?_, k5⟩
      have e : f = (nm, (lay.start bd i : Int) + 1, ac) := by rw [← k2, ← m2, ← k3]
      rw [← e]; exact k6
  · rcases h with ⟨h1, h2⟩ | ⟨i, h1, h2, h3, h4⟩
    · exact .inl ⟨h1, rfl⟩
    · exact (k1 i _ (Nat.zero_le _) (of_mt h3) ⟨rfl, rfl⟩).elim
end Go.Proofs.Ytmfpmpbilekbgaa.lay
