/- What the statements' own loops compute, against what the look-ups answer; no function of the program in sight. -/
import Derived.Test.YtmfpmpbilekbgaaModel
set_option linter.unusedVariables false
namespace Go.Proofs.Ytmfpmpbilekbgaa.plain
open Go.ChangeShapes Go.WideShapes Go.ChangeAt Go.RowKit
open upd comp grow add lookv var newc push wrap pushv lookf doors zs guard model

theorem scs_small (D : List Zs) (hs : ShortTo D D.length) : ∀ (k : Nat) (s : Sc), (scs D D.length)[k]? = some s → s.vars.length ≤ 2097152 ∧ s.funcs.length ≤ 2097152 := fun k s h => by
  have hk : k < D.length := by have := (List.getElem?_eq_some_iff.1 h).1; simpa [scs_len] using this
  rw [scs_at D _ _ hk] at h
  obtain ⟨z, hz⟩ : ∃ z, D[k]? = some z := ⟨_, List.getElem?_eq_getElem hk⟩
  have hsh := hs k z hk hz
  unfold Short at hsh
  cases h
  unfold sc
  rw [zd_at hz]
  exact ⟨by simp only []; omega, by simp only []; rw [funs_len]; omega⟩
/-- what lookupVariable answers, in parts -/
def Res (L : List Sc) (nm : ByteArray) (ia ib : Int) (er : Value) : Prop :=
  (er = .nilIface ∧ ∃ k j s, lookv.Found L nm k j s ∧ ia = s.id ∧ ib = (j : Nat)) ∨ (FreeFrom L nm 0 ∧ ia = 0 ∧ ib = 0 ∧ ∃ t v, er = .iface t v)
theorem look_parts {L : List Sc} {nm : ByteArray} {e : Ending} (h : LookV L nm e) : ∃ ia ib er, e = .returned (.tuple #[.agg #[.int .i64 ia, .int .i64 ib], er]) ∧ Res L nm ia ib er := by
  rcases h with ⟨k, j, s, hF, rfl⟩ | ⟨hF, t, v, rfl⟩
  · exact ⟨_, _, _, rfl, .inl ⟨rfl, k, j, s, hF, rfl, rfl⟩⟩
  · exact ⟨_, _, _, rfl, .inr ⟨hF, rfl, rfl, t, v, rfl⟩⟩

/-- the name stands at place j of scope k -/
def Occ (D : List Zs) (nm : ByteArray) (k j : Nat) : Prop := ∃ z, D[k]? = some z ∧ z.vars[j]? = some nm
def Lt (p q k j : Nat) : Prop := p < k ∨ (p = k ∧ q < j)
/-- what the statement's loop has found ahead of place j of scope k -/
def Want (D : List Zs) (nm : ByteArray) (k j : Nat) (fd : Bool) (a b : Int) : Prop :=
  (fd = false ∧ a = 0 ∧ b = 0 ∧ ∀ p q, Lt p q k j → ¬ Occ D nm p q) ∨
  (fd = true ∧ ∃ p q : Nat, a = (p : Int) + 1 ∧ b = q ∧ Occ D nm p q ∧ Lt p q k j ∧ ∀ r t, Lt r t k j → Occ D nm r t → ¬ Lt p q r t)
theorem Want.start (D : List Zs) (nm : ByteArray) : Want D nm 0 0 false 0 0 := .inl ⟨rfl, rfl, rfl, fun p q h => by unfold Lt at h; omega⟩
theorem Want.hit {D : List Zs} {nm : ByteArray} {k j : Nat} {fd : Bool} {a b : Int} {z : Zs} (h : Want D nm k j fd a b) (hz : D[k]? = some z) (hv : z.vars[j]? = some nm) : Want D nm k (j + 1) true ((k : Int) + 1) j :=
  .inr ⟨rfl, k, j, rfl, rfl, ⟨z, hz, hv⟩, .inr ⟨rfl, by omega⟩, fun r t h1 h2 h3 => by unfold Lt at h1 h3; omega⟩
theorem Want.miss {D : List Zs} {nm x : ByteArray} {k j : Nat} {fd : Bool} {a b : Int} {z : Zs} (h : Want D nm k j fd a b) (hz : D[k]? = some z) (hv : z.vars[j]? = some x) (hne : ¬ x = nm) : Want D nm k (j + 1) fd a b := by
  have hno : ¬ Occ D nm k j := fun ⟨y, h1, h2⟩ => by rw [hz] at h1; cases h1; rw [hv] at h2; cases h2; exact hne rfl
  have hcut : ∀ p q, Lt p q k (j + 1) → Occ D nm p q → Lt p q k j := fun p q h1 h2 => by
    unfold Lt at h1 ⊢
    by_cases e : p = k ∧ q = j
    · rw [e.1, e.2] at h2; exact (hno h2).elim
    · omega
  rcases h with ⟨h1, h2, h3, h4⟩ | ⟨h1, p, q, h2, h3, h4, h5, h6⟩
  · exact .inl ⟨h1, h2, h3, fun p q h5 h6 => h4 p q (hcut p q h5 h6) h6⟩
  · exact .inr ⟨h1, p, q, h2, h3, h4, by unfold Lt at h5 ⊢; omega, fun r t h7 h8 => h6 r t (hcut r t h7 h8) h8⟩
theorem Want.line {D : List Zs} {nm : ByteArray} {k : Nat} {fd : Bool} {a b : Int} {z : Zs} (h : Want D nm k z.vars.length fd a b) (hz : D[k]? = some z) : Want D nm (k + 1) 0 fd a b := by
  have hcut : ∀ p q, Lt p q (k + 1) 0 → Occ D nm p q → Lt p q k z.vars.length := fun p q h1 ⟨y, h2, h3⟩ => by
    unfold Lt at h1 ⊢
    rcases Nat.lt_or_ge p k with hlt | hge
    · exact .inl hlt
    · obtain rfl : p = k := by omega
      rw [hz] at h2; cases h2
      exact .inr ⟨rfl, (List.getElem?_eq_some_iff.1 h3).1⟩
  rcases h with ⟨h1, h2, h3, h4⟩ | ⟨h1, p, q, h2, h3, h4, h5, h6⟩
  · exact .inl ⟨h1, h2, h3, fun p q h5 h6 => h4 p q (hcut p q h5 h6) h6⟩
  · exact .inr ⟨h1, p, q, h2, h3, h4, by unfold Lt at h5 ⊢; omega, fun r t h7 h8 => h6 r t (hcut r t h7 h8) h8⟩
theorem occ_scs {D : List Zs} {nm : ByteArray} {k j : Nat} (h : Occ D nm k j) : ∃ s, (scs D D.length)[k]? = some s ∧ s.vars[j]? = some nm := by
  obtain ⟨z, hz, hv⟩ := h
  exact ⟨sc D k, scs_at _ _ _ (List.getElem?_eq_some_iff.1 hz).1, by unfold sc; rw [zd_at hz]; exact hv⟩
theorem scs_occ {D : List Zs} {nm : ByteArray} {k j : Nat} {s : Sc} (h : (scs D D.length)[k]? = some s) (hv : s.vars[j]? = some nm) : Occ D nm k j ∧ s.id = (k : Int) + 1 := by
  have hk : k < D.length := by have := (List.getElem?_eq_some_iff.1 h).1; simpa [scs_len] using this
  rw [scs_at D _ _ hk] at h
  obtain ⟨z, hz⟩ : ∃ z, D[k]? = some z := ⟨_, List.getElem?_eq_getElem hk⟩
  cases h
  unfold sc at hv ⊢
  rw [zd_at hz] at hv
  exact ⟨⟨z, hz, hv⟩, rfl⟩
/-- the two agree -/
theorem agree {D : List Zs} {nm : ByteArray} {fd : Bool} {a b ia ib : Int} {er : Value} (h : Want D nm D.length 0 fd a b) (k : Res (scs D D.length) nm ia ib er) :
    (fd = true ∧ er = .nilIface ∧ ia = a ∧ ib = b) ∨ (fd = false ∧ ia = 0 ∧ ib = 0 ∧ ∃ t v, er = .iface t v) := by
  have hall : ∀ p q, Occ D nm p q → Lt p q D.length 0 := fun p q ⟨z, hz, _⟩ => .inl (List.getElem?_eq_some_iff.1 hz).1
  rcases h with ⟨h1, h2, h3, h4⟩ | ⟨h1, p, q, h2, h3, h4, h5, h6⟩
  · rcases k with ⟨_, k', j, s, ⟨hL, hl, hf⟩, _⟩ | ⟨hf, e1, e2, hr⟩
    · obtain ⟨ho, _⟩ := scs_occ hL hl.1
      exact (h4 _ _ (hall _ _ ho) ho).elim
    · exact .inr ⟨h1, e1, e2, hr⟩
  · rcases k with ⟨e0, k', j, s, ⟨hL, hl, hf⟩, e1, e2⟩ | ⟨hf, _⟩
    · obtain ⟨ho, hid⟩ := scs_occ hL hl.1
      have n1 := h6 _ _ (hall _ _ ho) ho
      obtain ⟨s', hs', hv'⟩ := occ_scs h4
      have n2 : ¬ Lt k' j p q := fun hlt => by
        rcases hlt with hlt | ⟨rfl, hlt⟩
        · exact hf p s' (by omega) hs' q (Nat.zero_le _) hv'
        · rw [hL] at hs'; cases hs'
          exact hl.2 q hlt hv'
      unfold Lt at n1 n2
      have : p = k' ∧ q = j := by omega
      exact .inl ⟨h1, e0, by rw [e1, h2, hid, this.1], by rw [e2, h3, this.2]⟩
    · obtain ⟨s', hs', hv'⟩ := occ_scs h4
      exact (hf p s' (Nat.zero_le _) hs' q (Nat.zero_le _) hv').elim
end Go.Proofs.Ytmfpmpbilekbgaa.plain
