/- Plain facts on UTF-8: how wide the code point at a place is, class of lead byte by class; how many code points a string holds; no program in sight. -/
import Derived.Lib.DecodeNEq
import Derived.Lib.RuneCount
import Derived.Laws.IdiomStrings
namespace Go.Proofs.Ytiegckcmgdfjeaa.runes

/-- the width of the code point at place i -/
def wd (s : ByteArray) (i : Nat) : Nat := (Utf8.decode s i).2
/-- how many code points -/
def rc (s : ByteArray) : Nat := Lib.runeCount s

theorem size_from (s : ByteArray) : ∀ (bound i : Nat) (acc : Array Value), (Conv.runesFrom s bound i acc).size = acc.size + Lib.runeCountFrom s bound i
  | 0, _, acc => by simp [Conv.runesFrom, Lib.runeCountFrom]
  | bound + 1, i, acc => by
    unfold Conv.runesFrom Lib.runeCountFrom
    split
    · have := size_from s bound (i + (Utf8.decode s i).2) (acc.push (.int .i32 (Int.ofNat (Utf8.decode s i).1)))
      simp at this ⊢
      omega
    · omega
theorem size_runes (s : ByteArray) : (Conv.runesFrom s s.size 0 #[]).size = rc s := by
  rw [size_from]; simp [rc, Lib.runeCount]

theorem get_lt (s : ByteArray) (j : Nat) : (s.get! j).toNat < 256 := UInt8.toNat_lt _
theorem get_at (s : ByteArray) (j : Nat) (h : j < s.size) : (s.get! j).toNat = s[j].toNat := by
  rw [show s.get! j = s[j] from by
    cases s with
    | mk d =>
      show d[j]! = d[j]
      exact getElem!_pos d j h]

/-- the lead bytes of codes of sz bytes, and the second byte's bounds -/
def Cls (b sz lo hi : Nat) : Prop :=
  (194 ≤ b ∧ b < 224 ∧ sz = 2 ∧ lo = 128 ∧ hi = 191) ∨ (b = 224 ∧ sz = 3 ∧ lo = 160 ∧ hi = 191) ∨ ((225 ≤ b ∧ b < 237) ∧ sz = 3 ∧ lo = 128 ∧ hi = 191) ∨ ((238 ≤ b ∧ b < 240) ∧ sz = 3 ∧ lo = 128 ∧ hi = 191) ∨
  (b = 237 ∧ sz = 3 ∧ lo = 128 ∧ hi = 159) ∨ (b = 240 ∧ sz = 4 ∧ lo = 144 ∧ hi = 191) ∨ (241 ≤ b ∧ b < 244 ∧ sz = 4 ∧ lo = 128 ∧ hi = 191) ∨ (b = 244 ∧ sz = 4 ∧ lo = 128 ∧ hi = 143)

theorem wd_slow (s : ByteArray) (i sz lo hi : Nat) (h : i < s.size) (hc : Cls (s[i].toNat) sz lo hi) :
    wd s i = (Lib.slowN (s.size - i) (s.get! i).toNat (s.get! (i + 1)).toNat (s.get! (i + 2)).toNat (s.get! (i + 3)).toNat sz lo hi).2 := by
  unfold wd
  rw [Lib.decode_at]
  have h0 := get_at s i h
  have h1 := get_lt s (i + 1)
  have h2 := get_lt s (i + 2)
  have h3 := get_lt s (i + 3)
  rw [h0]
  generalize s[i].toNat = b at *
  have hn : 1 ≤ s.size - i := by omega
  rcases hc with ⟨a, b, rfl, rfl, rfl⟩ | ⟨a, rfl, rfl, rfl⟩ | ⟨⟨a, b⟩, rfl, rfl, rfl⟩ | ⟨⟨a, b⟩, rfl, rfl, rfl⟩ | ⟨a, rfl, rfl, rfl⟩ | ⟨a, rfl, rfl, rfl⟩ | ⟨a, b, rfl, rfl, rfl⟩ | ⟨a, rfl, rfl, rfl⟩
  · rw [Lib.slow_C2 _ _ _ _ _ hn h1 h2 h3 ⟨a, b⟩]
  · rw [Lib.slow_E0 _ _ _ _ _ hn h1 h2 h3 a]
  · rw [Lib.slow_E1 _ _ _ _ _ hn h1 h2 h3 (.inl ⟨a, b⟩)]
  · rw [Lib.slow_E1 _ _ _ _ _ hn h1 h2 h3 (.inr ⟨a, b⟩)]
  · rw [Lib.slow_ED _ _ _ _ _ hn h1 h2 h3 a]
  · rw [Lib.slow_F0 _ _ _ _ _ hn h1 h2 h3 a]
  · rw [Lib.slow_F1 _ _ _ _ _ hn h1 h2 h3 ⟨a, b⟩]
  · rw [Lib.slow_F4 _ _ _ _ _ hn h1 h2 h3 a]

theorem cls_sz {b sz lo hi : Nat} (h : Cls b sz lo hi) : 2 ≤ sz ∧ sz ≤ 4 := by unfold Cls at h; omega

theorem wd_ascii (s : ByteArray) (i : Nat) (h : i < s.size) (hb : s[i].toNat < 128) : wd s i = 1 := by
  unfold wd; rw [decode_ascii s i h hb]
theorem wd_bad (s : ByteArray) (i : Nat) (h : i < s.size) (hb : (128 ≤ s[i].toNat ∧ s[i].toNat < 194) ∨ 244 < s[i].toNat) : wd s i = 1 := by
  unfold wd
  rw [Lib.decode_at, get_at s i h, Lib.bad_eq _ _ _ _ _ (UInt8.toNat_lt _)]
  unfold Lib.firstT
  repeat' split
  all_goals omega
theorem wd_cut (s : ByteArray) (i sz lo hi : Nat) (h : i < s.size) (hc : Cls (s[i].toNat) sz lo hi) (hl : s.size < i + sz) : wd s i = 1 := by
  rw [wd_slow s i sz lo hi h hc]; unfold Lib.slowN; rw [if_pos (by omega)]
theorem wd_second (s : ByteArray) (i sz lo hi : Nat) (h : i < s.size) (hc : Cls (s[i].toNat) sz lo hi) (hl : i + sz ≤ s.size) (hj : i + 1 < s.size) (hb : s[i + 1].toNat < lo ∨ hi < s[i + 1].toNat) : wd s i = 1 := by
  rw [wd_slow s i sz lo hi h hc]; unfold Lib.slowN; rw [if_neg (by omega), if_pos (by rw [get_at s (i + 1) hj]; exact hb)]
theorem wd_later (s : ByteArray) (i sz lo hi : Nat) (h : i < s.size) (hc : Cls (s[i].toNat) sz lo hi) (k : Nat) (hk : 2 ≤ k ∧ k < sz) (_hl : i + sz ≤ s.size) (hj : i + k < s.size) (hb : s[i + k].toNat < 128 ∨ 191 < s[i + k].toNat) : wd s i = 1 := by
  rw [wd_slow s i sz lo hi h hc]; unfold Lib.slowN
  have hz := cls_sz hc
  have hg := get_at s (i + k) hj
  have : k = 2 ∨ k = 3 := by omega
  rcases this with rfl | rfl
  · repeat' split
    all_goals first | rfl | (exfalso; omega)
  · repeat' split
    all_goals first | rfl | (exfalso; omega)
theorem wd_good (s : ByteArray) (i sz lo hi : Nat) (h : i < s.size) (hc : Cls (s[i].toNat) sz lo hi) (hl : i + sz ≤ s.size) (hj : i + 1 < s.size) (hb : lo ≤ s[i + 1].toNat ∧ s[i + 1].toNat ≤ hi)
    (hr : ∀ k, 2 ≤ k → k < sz → ∀ hj : i + k < s.size, 128 ≤ s[i + k].toNat ∧ s[i + k].toNat ≤ 191) : wd s i = sz := by
  have hz := cls_sz hc
  rw [wd_slow s i sz lo hi h hc]; unfold Lib.slowN
  rw [if_neg (by omega), if_neg (by rw [get_at s (i + 1) hj]; omega)]
  by_cases h2 : sz ≤ 2
  · rw [if_pos h2]; show 2 = sz; omega
  · have g2 := get_at s (i + 2) (by omega)
    have r2 := hr 2 (by omega) (by omega) (by omega)
    rw [if_neg h2, if_neg (by rw [g2]; omega)]
    by_cases h3 : sz ≤ 3
    · rw [if_pos h3]; show 3 = sz; omega
    · have g3 := get_at s (i + 3) (by omega)
      have r3 := hr 3 (by omega) (by omega) (by omega)
      rw [if_neg h3, if_neg (by rw [g3]; omega)]; show 4 = sz; omega

/-- every byte is plain, or leads a code, or begins none -/
theorem classes (b : Nat) (hb : b < 256) : b < 128 ∨ ((128 ≤ b ∧ b < 194) ∨ 244 < b) ∨ ∃ sz lo hi, Cls b sz lo hi := by
  by_cases h1 : b < 128
  · exact .inl h1
  · by_cases h2 : (128 ≤ b ∧ b < 194) ∨ 244 < b
    · exact .inr (.inl h2)
    · refine .inr (.inr ?_)
      by_cases c1 : b < 224
      · exact ⟨2, 128, 191, by unfold Cls; omega⟩
      · by_cases c2 : b = 224
        · exact ⟨3, 160, 191, by unfold Cls; omega⟩
        · by_cases c3 : b = 237
          · exact ⟨3, 128, 159, by unfold Cls; omega⟩
          · by_cases c4 : b < 240
            · exact ⟨3, 128, 191, by unfold Cls; omega⟩
            · by_cases c5 : b = 240
              · exact ⟨4, 144, 191, by unfold Cls; omega⟩
              · by_cases c6 : b = 244
                · exact ⟨4, 128, 143, by unfold Cls; omega⟩
                · exact ⟨4, 128, 191, by unfold Cls; omega⟩

theorem wd_pos (s : ByteArray) (i : Nat) (h : i < s.size) : 1 ≤ wd s i := Lib.decode_width_pos s i h
theorem wd_four (s : ByteArray) (i : Nat) (h : i < s.size) : wd s i ≤ 4 ∧ i + wd s i ≤ s.size := by
  rcases classes s[i].toNat (UInt8.toNat_lt _) with h1 | h1 | ⟨sz, lo, hi, hc⟩
  · rw [wd_ascii s i h h1]; omega
  · rw [wd_bad s i h h1]; omega
  · have hz := cls_sz hc
    by_cases hl : s.size < i + sz
    · rw [wd_cut s i sz lo hi h hc hl]; omega
    · rw [wd_slow s i sz lo hi h hc]
      have : (Lib.slowN (s.size - i) (s.get! i).toNat (s.get! (i + 1)).toNat (s.get! (i + 2)).toNat (s.get! (i + 3)).toNat sz lo hi).2 ≤ sz := by
        unfold Lib.slowN
        repeat' split
        all_goals simp only
        all_goals omega
      omega

/-- the runes from place i on: more fuel than bytes left makes no odds -/
theorem from_fuel (s : ByteArray) : ∀ (f g i : Nat), s.size ≤ i + f → s.size ≤ i + g → Lib.runeCountFrom s f i = Lib.runeCountFrom s g i
  | 0, g, i, h, _ => by rw [Lib.runeCountFrom_end s 0 i (by omega), Lib.runeCountFrom_end s g i (by omega)]
  | f + 1, 0, i, _, h => by rw [Lib.runeCountFrom_end s _ i (by omega), Lib.runeCountFrom_end s 0 i (by omega)]
  | f + 1, g + 1, i, h, h' => by
    unfold Lib.runeCountFrom
    split
    · rename_i hi
      have hp := wd_pos s i hi
      unfold wd at hp
      rw [from_fuel s f g _ (by omega) (by omega)]
    · rfl
/-- the runes from place i on -/
def rcf (s : ByteArray) (i : Nat) : Nat := Lib.runeCountFrom s s.size i
theorem rcf_zero (s : ByteArray) : rcf s 0 = rc s := rfl
theorem rcf_end (s : ByteArray) (i : Nat) (h : ¬ i < s.size) : rcf s i = 0 := Lib.runeCountFrom_end s _ i h
theorem rcf_step (s : ByteArray) (i : Nat) (h : i < s.size) : rcf s i = 1 + rcf s (i + wd s i) := by
  unfold rcf
  rw [from_fuel s s.size (s.size + 1) i (by omega) (by omega)]
  conv => lhs; unfold Lib.runeCountFrom
  rw [if_pos h]; rfl
theorem rc_le (s : ByteArray) : rc s ≤ s.size := Lib.runeCount_le s
theorem rcf_four (s : ByteArray) : ∀ (m i : Nat), s.size ≤ i + m → i ≤ s.size → s.size ≤ i + 4 * rcf s i
  | 0, i, h, _ => by omega
  | m + 1, i, h, hi => by
    by_cases hlt : i < s.size
    · have h4 := wd_four s i hlt
      have hp := wd_pos s i hlt
      have := rcf_four s m (i + wd s i) (by omega) (by omega)
      rw [rcf_step s i hlt]; omega
    · omega
theorem rc_four (s : ByteArray) : s.size ≤ 4 * rc s := by
  have := rcf_four s s.size 0 (by omega) (by omega)
  rw [rcf_zero] at this; omega
theorem rc_ascii (s : ByteArray) (h : ∀ (j : Nat) (hj : j < s.size), s[j].toNat < 128) : rc s = s.size := Lib.runeCount_ascii s h
end Go.Proofs.Ytiegckcmgdfjeaa.runes
