/- Two look-ups in two worlds that agree on the scopes answer the same. -/
import Derived.Test.YtmfpmpbilekbgaaPick
import Derived.Test.YtmfpmpbilekbgaaLay
import Derived.LaidEqlPtr
set_option linter.unusedVariables false
namespace Go.Proofs.Ytmfpmpbilekbgaa.same
open Go.ChangeShapes Go.WideShapes Go.ChangeAt Go.RowKit
open upd comp grow add lookv var newc push wrap pushv lookf doors codes lazy bi45 body lookb zs guard model plain state pick lay

theorem info105 : ∃ i, Try.prog.info? 105 = some i := by
  cases h : Try.prog.info? 105 with
  | none => have : (Try.prog.info? 105).isSome = true := by kernel_rfl
            rw [h] at this; cases this
  | some i => exact ⟨i, rfl⟩
theorem info109 : ∃ i, Try.prog.info? 109 = some i := by
  cases h : Try.prog.info? 109 with
  | none => have : (Try.prog.info? 109).isSome = true := by kernel_rfl
            rw [h] at this; cases this
  | some i => exact ⟨i, rfl⟩
theorem eq37 (a : Addr) (w : World) : (binOp .eql 37 (.pointer (some a)) (.pointer (some a))).run Try.prog w = .ok (.bool true) w := by
  obtain ⟨i, hi⟩ := info105
  exact run_eql_ptr_same w a Try.underlying37 hi
theorem eq47 (a : Addr) (w : World) : (binOp .eql 47 (.pointer (some a)) (.pointer (some a))).run Try.prog w = .ok (.bool true) w := by
  obtain ⟨i, hi⟩ := info109
  exact run_eql_ptr_same w a Try.underlying47 hi
theorem res_same {L : List Sc} {nm : ByteArray} {ia ib ia' ib' : Int} {er er' : Value} (h : Res L nm ia ib er) (h' : Res L nm ia' ib' er') :
    ia = ia' ∧ ib = ib' ∧ ((er = .nilIface ∧ er' = .nilIface) ∨ ((∃ t v, er = .iface t v) ∧ ∃ t v, er' = .iface t v)) := by
  rcases h with ⟨e0, k, j, s, hF, e1, e2⟩ | ⟨hF, e1, e2, e3⟩
  · obtain ⟨r1, r2, r3⟩ := res_found h' hF
    exact ⟨by rw [e1, r2], by rw [e2, r3], .inl ⟨e0, r1⟩⟩
  · obtain ⟨r1, r2, r3⟩ := res_free h' hF
    exact ⟨by rw [e1, r1], by rw [e2, r2], .inr ⟨e3, r3⟩⟩

theorem cand_at {L : List Sc} {nm : ByteArray} {isF : Bool} {k k' : Nat} {s s' : Sc} (h1 : L[k]? = some s) (h2 : BareFrom L nm isF (k + 1)) (h3 : ¬ Bare s nm isF) (k1 : L[k']? = some s') (k2 : BareFrom L nm isF (k' + 1)) (k3 : ¬ Bare s' nm isF) : k = k' ∧ s = s' := by
  rcases Nat.lt_trichotomy k k' with h | h | h
  · exact (k3 (h2 k' s' (by omega) k1)).elim
  · subst h; rw [h1] at k1; cases k1; exact ⟨rfl, rfl⟩
  · exact (h3 (k2 k s (by omega) h1)).elim
theorem fun_at {fs : List (ByteArray × Int × Int)} {nm : ByteArray} {i j : Nat} {f g : ByteArray × Int × Int} (h1 : fs[i]? = some f) (h2 : f.1 = nm) (h3 : f.2.2 = 0) (h4 : NoFun fs nm (i + 1)) (k1 : fs[j]? = some g) (k2 : g.1 = nm) (k3 : g.2.2 = 0) (k4 : NoFun fs nm (j + 1)) : i = j := by
  rcases Nat.lt_trichotomy i j with h | h | h
  · exact (h4 j g (by omega) k1 ⟨k2, k3⟩).elim
  · exact h
  · exact (k4 i f (by omega) h1 ⟨h2, h3⟩).elim
theorem last_at {vs : List ByteArray} {nm : ByteArray} {i j : Nat} (h : LastIn vs nm i) (k : LastIn vs nm j) : i = j := by
  rcases Nat.lt_trichotomy i j with h1 | h1 | h1
  · exact (h.2 j h1 k.1).elim
  · exact h1
  · exact (k.2 i h1 h.1).elim
theorem look_same {L : List Sc} {nm : ByteArray} {isF : Bool} {w w' : World} {col col' : Nat → Nat} {c : Nat} {e e' : Ending} (h : LookG L nm isF w col c e) (h' : LookG L nm isF w' col' c e') (hw : ∀ f k j p, lookf.Way w col c f k j p → ∃ col2, lookf.Way w' col2 c f k j p) : e = e' := by
  have nf : ∀ (s : Sc) (j : Nat) (f : ByteArray × Int × Int), isF = true → s.funcs[j]? = some f → f.1 = nm → f.2.2 = 0 → ¬ Bare s nm isF := fun s j f h0 h1 h2 h3 hb => hb.2 h0 j f (Nat.zero_le _) h1 ⟨h2, h3⟩
  have nv : ∀ (s : Sc) (j : Nat), LastIn s.vars nm j → ¬ Bare s nm isF := fun s j h1 hb => hb.1 j (Nat.zero_le _) h1.1
  rcases h with ⟨k, j, s, f, p, a1, a2, a3, a4, a5, a6, a7, a8, a9, rfl⟩ | ⟨k, j, s, p, a1, a2, a3, a4, a5, a6, rfl⟩ | ⟨a1, rfl⟩
  · have ha := nf s j f a3 a4 a5 a6
    rcases h' with ⟨k', j', s', f', p', b1, b2, b3, b4, b5, b6, b7, b8, b9, rfl⟩ | ⟨k', j', s', p', b1, b2, b3, b4, b5, b6, rfl⟩ | ⟨b1, rfl⟩
    · obtain ⟨rfl, rfl⟩ := cand_at a1 a2 ha b1 b2 (nf s' j' f' b3 b4 b5 b6)
      obtain rfl := fun_at a4 a5 a6 a7 b4 b5 b6 b7
      obtain ⟨col2, hy⟩ := hw _ _ _ _ a9
      rw [hy.det b9]
    · obtain ⟨rfl, rfl⟩ := cand_at a1 a2 ha b1 b2 (nv s' j' b4)
      exact (b3 a3 j f (Nat.zero_le _) a4 ⟨a5, a6⟩).elim
    · exact (ha (b1 k s (Nat.zero_le _) a1)).elim
  · have ha := nv s j a4
    rcases h' with ⟨k', j', s', f', p', b1, b2, b3, b4, b5, b6, b7, b8, b9, rfl⟩ | ⟨k', j', s', p', b1, b2, b3, b4, b5, b6, rfl⟩ | ⟨b1, rfl⟩
    · obtain ⟨rfl, rfl⟩ := cand_at a1 a2 ha b1 b2 (nf s' j' f' b3 b4 b5 b6)
      exact (a3 b3 j' f' (Nat.zero_le _) b4 ⟨b5, b6⟩).elim
    · obtain ⟨rfl, rfl⟩ := cand_at a1 a2 ha b1 b2 (nv s' j' b4)
      obtain rfl := last_at a4 b4
      obtain ⟨col2, hy⟩ := hw _ _ _ _ a6
      rw [hy.det b6]
    · exact (ha (b1 k s (Nat.zero_le _) a1)).elim
  · rcases h' with ⟨k', j', s', f', p', b1, b2, b3, b4, b5, b6, b7, b8, b9, rfl⟩ | ⟨k', j', s', p', b1, b2, b3, b4, b5, b6, rfl⟩ | ⟨b1, rfl⟩
    · exact (nf s' j' f' b3 b4 b5 b6 (a1 k' s' (Nat.zero_le _) b1)).elim
    · exact (nv s' j' b4 (a1 k' s' (Nat.zero_le _) b1)).elim
    · rfl
/-- what the two pointers are -/
theorem look_form {L : List Sc} {nm : ByteArray} {isF : Bool} {w : World} {col : Nat → Nat} {c : Nat} {e : Ending} (h : LookG L nm isF w col c e) : ∃ a b : Option Addr, e = .returned (.tuple #[.pointer a, .pointer b]) := by
  rcases h with ⟨k, j, s, f, p, _, _, _, _, _, _, _, _, _, rfl⟩ | ⟨k, j, s, p, _, _, _, _, _, _, rfl⟩ | ⟨_, rfl⟩
  · exact ⟨_, _, rfl⟩
  · exact ⟨_, _, rfl⟩
  · exact ⟨_, _, rfl⟩

set_option maxHeartbeats 1000000 in
theorem zlookG {base c bb : Nat} {w : World} {col : Nat → Nat} {cv sv : Value} {bs : List Nat} {B : Sc} {L : List Sc} {cnt : Int} (h : CompAt base w col c cv bb sv bs B L cnt) (nm : ByteArray) (hn : L.length ≤ 2097152) (hv : ∀ (k : Nat) (s : Sc), L[k]? = some s → s.vars.length ≤ 2097152 ∧ s.funcs.length ≤ 2097152) (h0 : 0 < nm.size) (isF : Bool) (hisF : (((nm[0]'h0).toNat : Int) != 36) = isF) :
    Calls Try.prog 31 #[.pointer (some ⟨c, 0, none⟩), .string nm] w fun e w' => (∃ n, w' = w.drewN n) ∧ LookG L nm isF w col c e := by
  have HC := Lib.hid (lookFG h nm hn hv h0 isF hisF)
  clear h hn hv hisF h0
  go_enter Try.func31, Try.ntmps31
  go_wp2_with fail
  go_at_call 50
  refine HC.out.mono ?_
  rintro e w1 ⟨⟨n, rfl⟩, hl⟩
  have HN : Hid (∃ n', w.drewN n = w.drewN n') := ⟨n, rfl⟩
  have HL := Lib.hid hl
  obtain ⟨a, b, rfl⟩ := look_form hl
  clear hl HC
  go_wp2_with fail
  go_ret2
  exact ⟨HN.out, HL.out⟩
theorem zlookG' {base c bb : Nat} {w : World} {col : Nat → Nat} {cv sv : Value} {bs : List Nat} {B : Sc} {L : List Sc} {cnt : Int} (h : CompAt base w col c cv bb sv bs B L cnt) (nm : ByteArray) (hn : L.length ≤ 2097152) (hv : ∀ (k : Nat) (s : Sc), L[k]? = some s → s.vars.length ≤ 2097152 ∧ s.funcs.length ≤ 2097152) (h0 : 0 < nm.size) (isF : Bool) (hisF : (((nm[0]'h0).toNat : Int) != 36) = isF) :
    Calls Try.prog 31 #[.pointer (some ⟨c, 0, none⟩), .string nm] w fun e w' => ∃ (a b : Option Addr) (n : Nat), e = .returned (.tuple #[.pointer a, .pointer b]) ∧ w' = w.drewN n ∧ LookG L nm isF w col c (.returned (.tuple #[.pointer a, .pointer b])) :=
  (zlookG h nm hn hv h0 isF hisF).mono fun e w' ⟨⟨n, h1⟩, h2⟩ => by
    obtain ⟨a, b, rfl⟩ := look_form h2
    exact ⟨a, b, n, rfl, h1, h2⟩
end Go.Proofs.Ytmfpmpbilekbgaa.same
