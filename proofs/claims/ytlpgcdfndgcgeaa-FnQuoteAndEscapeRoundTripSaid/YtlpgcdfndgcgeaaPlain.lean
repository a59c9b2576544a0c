/- Plain facts on escaping a list of bytes; no program in sight. -/
import Derived.RowKit
import Derived.Below
import Derived.Lib.Strings
namespace Go.Proofs.Ytlpgcdfndgcgeaa.plain

def hexd (n : Nat) : Nat := if n < 10 then n + 48 else n + 87
/-- one byte, escaped (as natural numbers) -/
def enc1 (c : Nat) : List Nat := if c < 32 then [92, 117, 48, 48, hexd (c / 16), hexd (c % 16)] else [c]
def enc (l : List UInt8) : List Nat := l.flatMap fun c => enc1 c.toNat
def ctl (l : List UInt8) : Nat := (l.filter fun c => decide (c.toNat < 32)).length

theorem enc_snoc (l : List UInt8) (c : UInt8) : enc (l ++ [c]) = enc l ++ enc1 c.toNat := by simp [enc]
theorem ctl_snoc (l : List UInt8) (c : UInt8) : ctl (l ++ [c]) = ctl l + if c.toNat < 32 then 1 else 0 := by
  unfold ctl; by_cases h : c.toNat < 32 <;> simp [List.filter_append, h]
theorem enc1_len (c : Nat) : (enc1 c).length = 1 + 5 * (if c < 32 then 1 else 0) := by unfold enc1; split <;> rfl
theorem enc_len (l : List UInt8) : (enc l).length = l.length + 5 * ctl l := by
  induction l with
  | nil => rfl
  | cons c l ih =>
    have h1 := enc1_len c.toNat
    have h2 : ctl (c :: l) = (if c.toNat < 32 then 1 else 0) + ctl l := by unfold ctl; by_cases h : c.toNat < 32 <;> simp [h, Nat.add_comm]
    have h3 : enc (c :: l) = enc1 c.toNat ++ enc l := by simp [enc]
    rw [h3, List.length_append, h1, ih, h2, List.length_cons]; split <;> omega
theorem ctl_le (l : List UInt8) : ctl l ≤ l.length := List.length_filter_le _ _
theorem ctl_take_le (l : List UInt8) (k : Nat) : ctl (l.take k) ≤ ctl l := by
  unfold ctl
  exact ((List.take_sublist k l).filter _).length_le
theorem take_snoc (s : ByteArray) (k : Nat) (h : k < s.size) : s.data.toList.take (k + 1) = s.data.toList.take k ++ [s[k]] := by
  rw [List.take_succ_eq_append_getElem (by simpa using h)]; rfl
theorem enc_split (l : List UInt8) (k : Nat) (c : UInt8) (t : List UInt8) (h : l = l.take k ++ c :: t) : enc l = enc (l.take k) ++ enc1 c.toNat ++ enc t := by
  conv => lhs; rw [h]
  simp [enc]
theorem ctl_split (l : List UInt8) (k : Nat) : ctl l = ctl (l.take k) + ctl (l.drop k) := by
  unfold ctl; rw [← List.length_append, ← List.filter_append, List.take_append_drop]

/-- where byte t of l lies in its escaped form -/
theorem enc_at (l : List UInt8) (t : Nat) (ht : t < l.length) : ∃ r, enc l = enc (l.take t) ++ enc1 l[t].toNat ++ r := by
  refine ⟨enc (l.drop (t + 1)), ?_⟩
  have e : l = l.take t ++ [l[t]] ++ l.drop (t + 1) := by
    rw [← List.take_succ_eq_append_getElem ht, List.take_append_drop]
  have e2 := congrArg enc e
  rw [e2]
  simp only [enc, List.flatMap_append, List.flatMap_cons, List.flatMap_nil, List.append_nil]
theorem enc_small (l : List UInt8) (t : Nat) (ht : t < l.length) (h : l[t].toNat < 32) :
    (enc (l.take t)).length + 6 ≤ (enc l).length ∧ (enc l).getD (enc (l.take t)).length 0 = 92 ∧ (enc l).getD ((enc (l.take t)).length + 1) 0 = 117 ∧ (enc l).getD ((enc (l.take t)).length + 2) 0 = 48 ∧
    (enc l).getD ((enc (l.take t)).length + 3) 0 = 48 ∧ (enc l).getD ((enc (l.take t)).length + 4) 0 = hexd (l[t].toNat / 16) ∧ (enc l).getD ((enc (l.take t)).length + 5) 0 = hexd (l[t].toNat % 16) := by
  obtain ⟨r, e⟩ := enc_at l t ht
  rw [e]
  generalize enc (l.take t) = p
  have e1 : enc1 l[t].toNat = [92, 117, 48, 48, hexd (l[t].toNat / 16), hexd (l[t].toNat % 16)] := by simp [enc1, h]
  rw [e1]
  refine ⟨by simp, ?_, ?_, ?_, ?_, ?_, ?_⟩ <;> simp
theorem enc_big (l : List UInt8) (t : Nat) (ht : t < l.length) (h : ¬ l[t].toNat < 32) :
    (enc (l.take t)).length + 1 ≤ (enc l).length ∧ (enc l).getD (enc (l.take t)).length 0 = l[t].toNat := by
  obtain ⟨r, e⟩ := enc_at l t ht
  rw [e]
  generalize enc (l.take t) = p
  have e1 : enc1 l[t].toNat = [l[t].toNat] := by simp [enc1, h]
  rw [e1]
  exact ⟨by simp, by simp⟩
theorem hexd_back (c : Nat) : c / 16 * 16 + c % 16 = c := by omega
end Go.Proofs.Ytlpgcdfndgcgeaa.plain
