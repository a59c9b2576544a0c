/- The order of keys (name, then arity): strict, total; a sorted list is told by its elements. -/
import Derived.Test.YtbogmmpbmgibnaaDoorLess
import Derived.Sort.LotA
import Derived.Sort.Walk0
set_option linter.unusedVariables false
namespace Go.Proofs.YtbogmmpbmgibnaaDoor.order
open Go.ChangeShapes Go.WideShapes Go.ChangeAt Go.RowKit
open Go.Sort less

theorem bl (x y : List UInt8) : Op.bytesLess x y = ltStr x y := bytesLess_eq x y
theorem str_tri {x y : List UInt8} (h1 : Op.bytesLess x y = false) (h2 : Op.bytesLess y x = false) : x = y := by
  rw [bl] at h1 h2
  simp only [ltStr, decide_eq_false_iff_not, List.not_lt] at h1 h2
  exact List.le_antisymm h2 h1
theorem str_asymm {x y : List UInt8} (h1 : Op.bytesLess x y = true) : Op.bytesLess y x = false := by
  rw [bl] at h1 ⊢; exact swo_ltStr.asymmA h1
theorem str_trans {x y z : List UInt8} (h1 : Op.bytesLess x y = true) (h2 : Op.bytesLess y z = true) : Op.bytesLess x z = true := by
  rw [bl] at *; exact swo_ltStr.trans _ _ _ h1 h2
theorem str_irrefl (x : List UInt8) : Op.bytesLess x x = false := by rw [bl]; exact swo_ltStr.irrefl x
theorem name_eq {a b : ByteArray} (h : a.toList = b.toList) : a = b := by
  rw [Lib.toList_data, Lib.toList_data] at h; exact ByteArray.ext (Array.toList_inj.1 h)
theorem key_true {k l : ByteArray × Int} : keyLt k l = true ↔ Op.bytesLess k.1.toList l.1.toList = true ∨ (k.1 = l.1 ∧ k.2 < l.2) := by
  unfold keyLt
  simp only [Bool.or_eq_true, Bool.and_eq_true, beq_iff_eq, decide_eq_true_eq]
  constructor
  · rintro (h | ⟨h1, h2⟩)
    · exact .inl h
    · exact .inr ⟨name_eq h1, h2⟩
  · rintro (h | ⟨h1, h2⟩)
    · exact .inl h
    · exact .inr ⟨by rw [h1], h2⟩
theorem key_tri {k l : ByteArray × Int} (h1 : keyLt k l = false) (h2 : keyLt l k = false) : k = l := by
  have n1 : ¬ keyLt k l = true := by simp [h1]
  have n2 : ¬ keyLt l k = true := by simp [h2]
  rw [key_true] at n1 n2
  have b1 : Op.bytesLess k.1.toList l.1.toList = false := by
    cases h : Op.bytesLess k.1.toList l.1.toList with
    | false => rfl
    | true => exact (n1 (.inl h)).elim
  have b2 : Op.bytesLess l.1.toList k.1.toList = false := by
    cases h : Op.bytesLess l.1.toList k.1.toList with
    | false => rfl
    | true => exact (n2 (.inl h)).elim
  have e := name_eq (str_tri b1 b2)
  have e2 : k.2 = l.2 := by
    rcases Int.lt_trichotomy k.2 l.2 with h | h | h
    · exact (n1 (.inr ⟨e, h⟩)).elim
    · exact h
    · exact (n2 (.inr ⟨e.symm, h⟩)).elim
  exact Prod.ext e e2
theorem key_irrefl (k : ByteArray × Int) : keyLt k k = false := by
  cases h : keyLt k k with
  | false => rfl
  | true =>
    rcases key_true.1 h with h | ⟨_, h⟩
    · rw [str_irrefl] at h; cases h
    · omega
theorem key_trans {a b c : ByteArray × Int} (h1 : keyLt a b = true) (h2 : keyLt b c = true) : keyLt a c = true := by
  rw [key_true] at *
  rcases h1 with h1 | ⟨e1, h1⟩ <;> rcases h2 with h2 | ⟨e2, h2⟩
  · exact .inl (str_trans h1 h2)
  · exact .inl (by rw [← e2]; exact h1)
  · exact .inl (by rw [e1]; exact h2)
  · exact .inr ⟨e1.trans e2, by omega⟩
theorem key_asymm {a b : ByteArray × Int} (h : keyLt a b = true) : keyLt b a = false := by
  cases h2 : keyLt b a with
  | false => rfl
  | true => have := key_trans h h2; rw [key_irrefl] at this; cases this
theorem key_ntrans {a b c : ByteArray × Int} (h1 : keyLt a b = false) (h2 : keyLt b c = false) : keyLt a c = false := by
  cases h : keyLt a c with
  | false => rfl
  | true =>
    cases h3 : keyLt c b with
    | true => have := key_trans h h3; rw [h1] at this; cases this
    | false =>
      have e : b = c := key_tri h2 h3
      rw [e, h] at h1; cases h1
theorem swo_key {α : Type} (f : α → ByteArray × Int) : SWO fun x y : α => keyLt (f x) (f y) :=
  ⟨fun x => key_irrefl _, fun x y z h1 h2 => key_trans h1 h2, fun x y z h1 h2 => key_ntrans h1 h2⟩
/-- in order: no later one is less than an earlier one -/
def InOrder (K : List (ByteArray × Int)) : Prop := K.Pairwise fun a b => keyLt b a = false
theorem inOrder_eq {K K' : List (ByteArray × Int)} (hp : K.Perm K') (h : InOrder K) (h' : InOrder K') : K = K' :=
  List.Perm.eq_of_pairwise (le := fun a b => keyLt b a = false) (fun a b _ _ h1 h2 => key_tri h2 h1) h h' hp
end Go.Proofs.YtbogmmpbmgibnaaDoor.order
