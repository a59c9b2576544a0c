/- Plain facts on a text that ends in a slash and a decimal number; no program in sight. -/
import Derived.Lib.Strings
import Derived.Lib.ItoaMem
namespace Go.Proofs.YtighdhgfdhgljaaDoor.plain
open Go.Lib

/-- the value of decimal digits -/
def val (l : List UInt8) : Nat := l.foldl (fun v d => v * 10 + (d.toNat - 48)) 0
theorem val_snoc (l : List UInt8) (d : UInt8) : val (l ++ [d]) = val l * 10 + (d.toNat - 48) := by simp [val]
theorem rev_ind {motive : List UInt8 → Prop} (nil : motive []) (snoc : ∀ l d, motive l → motive (l ++ [d])) (l : List UInt8) : motive l := by
  have : ∀ n (l : List UInt8), l.length = n → motive l := by
    intro n
    induction n with
    | zero => intro l hl; rw [List.eq_nil_of_length_eq_zero hl]; exact nil
    | succ n ih =>
      intro l hl
      rcases List.eq_nil_or_concat l with rfl | ⟨r, d, rfl⟩
      · simp at hl
      · rw [List.concat_eq_append] at hl ⊢
        exact snoc r d (ih r (by simpa using hl))
  exact this _ l rfl
theorem val_take_le (l : List UInt8) : ∀ k, val (l.take k) ≤ val l := by
  intro k
  induction l using rev_ind generalizing k with
  | nil => simp
  | snoc l d ih =>
    rw [val_snoc]
    by_cases h : k ≤ l.length
    · rw [List.take_append_of_le_length h]; have := ih k; omega
    · rw [List.take_of_length_le (by simp; omega), val_snoc]; omega
theorem small_digit (u : Nat) (h : u < 10) : (UInt8.ofNat (48 + u)).toNat = 48 + u := by
  simp; omega
theorem dig_all (u : Nat) : ∀ d ∈ decDigits u, 48 ≤ d.toNat ∧ d.toNat ≤ 57 := by
  induction u using Nat.strongRecOn with
  | ind u ih =>
    rw [decDigits]
    split
    · rename_i h
      intro d hd
      simp only [List.mem_singleton] at hd
      rw [hd, small_digit u h]; omega
    · rename_i h
      intro d hd
      rcases List.mem_append.1 hd with hd | hd
      · exact ih (u / 10) (by omega) d hd
      · simp only [List.mem_singleton] at hd
        rw [hd, small_digit _ (by omega)]; omega
theorem dig_val (u : Nat) : val (decDigits u) = u := by
  induction u using Nat.strongRecOn with
  | ind u ih =>
    rw [decDigits]
    split
    · rename_i h
      have := small_digit u h
      simp only [val, List.foldl_cons, List.foldl_nil]; omega
    · rename_i h
      rw [val_snoc, ih (u / 10) (by omega), small_digit _ (by omega)]; omega
theorem dig_pos (u : Nat) : 0 < (decDigits u).length := by
  rw [decDigits]; split <;> simp
theorem dig_head (u : Nat) (h : 1 < (decDigits u).length) : ∀ d, (decDigits u)[0]? = some d → d.toNat ≠ 48 := by
  induction u using Nat.strongRecOn with
  | ind u ih =>
    rw [decDigits] at h ⊢
    split at h
    · simp at h
    · rename_i h10
      rw [dif_neg h10]
      intro d hd
      have hp := dig_pos (u / 10)
      rw [List.getElem?_append_left hp] at hd
      by_cases hl : 1 < (decDigits (u / 10)).length
      · exact ih (u / 10) (by omega) hl d hd
      · have h2 : u / 10 < 10 := by
          by_cases h3 : u / 10 < 10
          · exact h3
          · exfalso; apply hl
            rw [decDigits, dif_neg h3]
            have := dig_pos (u / 10 / 10)
            simp; omega
        rw [decDigits, dif_pos h2] at hd
        simp only [List.getElem?_cons_zero, Option.some.injEq] at hd
        rw [← hd, small_digit _ h2]; omega

/-- the text ahead -/
def P : ByteArray := ⟨#[102, 117, 110, 99, 116, 105, 111, 110, 32, 110, 111, 116, 32, 100, 101, 102, 105, 110, 101, 100, 58, 32]⟩
def M (N : ByteArray) (ds : List UInt8) : ByteArray := P ++ N ++ ⟨#[47]⟩ ++ ⟨ds.toArray⟩
def R (N : ByteArray) (ds : List UInt8) : ByteArray := ⟨(N.data.toList ++ 47 :: ds).toArray⟩
theorem M_data (N : ByteArray) (ds : List UInt8) : (M N ds).data.toList = P.data.toList ++ (N.data.toList ++ 47 :: ds) := by simp [M, ByteArray.data_append]
theorem P_len : P.data.toList.length = 22 := rfl
theorem M_size (N : ByteArray) (ds : List UInt8) : (M N ds).size = 22 + (R N ds).size := by
  rw [size_eq, M_data, List.length_append, P_len, size_eq (R N ds)]; rfl
theorem R_size (N : ByteArray) (ds : List UInt8) : (R N ds).size = N.size + 1 + ds.length := by
  rw [size_eq, size_eq N]; simp [R]; omega
theorem M_pre (N : ByteArray) (ds : List UInt8) : ((M N ds).extract 0 22).toList = P.toList := by
  rw [extract_eq, M_data, List.drop_zero, List.take_append_of_le_length (by rw [P_len]; omega), List.take_of_length_le (by rw [P_len]; omega)]
theorem M_rest (N : ByteArray) (ds : List UInt8) : (M N ds).extract 22 (M N ds).size = R N ds := by
  rw [extract_eq, M_data, M_size, List.drop_append_of_le_length (by rw [P_len]; omega), List.drop_of_length_le (by rw [P_len]; omega), List.nil_append, List.take_of_length_le]
  · rfl
  · rw [R_size, size_eq N]; simp; omega
theorem R_name (N : ByteArray) (ds : List UInt8) : (R N ds).extract 0 N.size = N := by
  rw [extract_eq, size_eq N]
  have : (R N ds).data.toList = N.data.toList ++ 47 :: ds := by simp [R]
  rw [this, List.drop_zero, Nat.sub_zero, List.take_append_of_le_length (by omega), List.take_of_length_le (by omega)]
theorem R_digits (N : ByteArray) (ds : List UInt8) : (R N ds).extract (N.size + 1) (R N ds).size = ⟨ds.toArray⟩ := by
  rw [extract_eq, R_size]
  have : (R N ds).data.toList = N.data.toList ++ 47 :: ds := by simp [R]
  rw [this, size_eq N, List.drop_append, List.drop_of_length_le (by omega), List.nil_append, show N.data.toList.length + 1 - N.data.toList.length = 1 by omega, List.drop_succ_cons, List.drop_zero, List.take_of_length_le (by omega)]
theorem R_slash (N : ByteArray) (ds : List UInt8) (h : N.size < (R N ds).size) : (R N ds)[N.size] = 47 := by
  have e : (R N ds)[N.size] = (R N ds).data.toList[N.size]'(by rw [← size_eq]; exact h) := rfl
  have : (R N ds).data.toList = N.data.toList ++ 47 :: ds := by simp [R]
  rw [e]
  simp only [this, size_eq N]
  simp
theorem R_behind (N : ByteArray) (ds : List UInt8) (i : Nat) (h : i < (R N ds).size) (hi : N.size < i) (hd : ∀ d ∈ ds, 48 ≤ d.toNat ∧ d.toNat ≤ 57) : (R N ds)[i] ≠ 47 := by
  have e : (R N ds)[i] = (R N ds).data.toList[i]'(by rw [← size_eq]; exact h) := rfl
  have ht : (R N ds).data.toList = N.data.toList ++ 47 :: ds := by simp [R]
  have hr := R_size N ds
  have hg : (R N ds).data.toList[i]? = ds[i - N.size - 1]? := by
    rw [ht, List.getElem?_append_right (by rw [← size_eq]; omega), ← size_eq]
    obtain ⟨j, hj⟩ : ∃ j, i - N.size = j + 1 := ⟨i - N.size - 1, by omega⟩
    rw [hj, List.getElem?_cons_succ, Nat.add_sub_cancel]
  rw [e]
  intro h47
  rw [List.getElem?_eq_getElem (by rw [← size_eq]; exact h), h47] at hg
  have := hd 47 (List.mem_of_getElem? hg.symm)
  simp at this
end Go.Proofs.YtighdhgfdhgljaaDoor.plain
