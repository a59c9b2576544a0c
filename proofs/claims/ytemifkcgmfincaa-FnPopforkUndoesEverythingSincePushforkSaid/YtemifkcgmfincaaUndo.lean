/- A fork, any junk behind it, and what popfork leaves. -/
import Derived.Test.YtemifkcgmfincaaSteps
import Derived.StillTailTactics
set_option linter.unusedVariables false
namespace Go.Proofs.Ytemifkcgmfincaa.undo
open Go.ChangeShapes Go.WideShapes Go.ChangeAt Go.RowKit
open upd env plain ops forks popf fill init steps

/-- a stack behind a fork and any junk: what lay below is as it was -/
structure Jk {α : Type} (d0 : List (α × Int)) (n0 : Nat) (d : List (α × Int)) (i : Int) (dp : Nat) : Prop where
  wf : Wf d i ((n0 : Int) - 1)
  ch : ∃ l, Ch d i l ∧ l.length = dp
  eq : ∀ j : Nat, j < n0 → d[j]? = d0[j]?
theorem Jk.push {α : Type} {d0 d : List (α × Int)} {n0 dp : Nat} {i : Int} (h : Jk d0 n0 d i dp) (v : α) : Jk d0 n0 (put d (top i ((n0 : Int) - 1)) (v, i)) (top i ((n0 : Int) - 1)) (dp + 1) := by
  have ht := h.wf.top_le
  have e := top_eq i ((n0 : Int) - 1) (by omega)
  obtain ⟨l, a, hl⟩ := h.ch
  refine ⟨h.wf.push v, ⟨v :: l, .cons (put_at _ _ _ ht) (by omega) (a.keep fun j hj => put_other _ _ _ _ (by omega) ht), by simp [hl]⟩, fun j hj => ?_⟩
  rw [put_other _ _ _ _ (by omega) ht]; exact h.eq j hj
theorem Jk.pop {α : Type} {d0 d : List (α × Int)} {n0 dp : Nat} {i : Int} (h : Jk d0 n0 d i dp) (hd : 0 < dp) : ∃ (k : Nat) (v : α) (n : Int), i = k ∧ d[k]? = some (v, n) ∧ Jk d0 n0 d n (dp - 1) := by
  obtain ⟨l, a, hl⟩ := h.ch
  have hp : 0 ≤ i := by
    by_cases hi : i < 0
    · obtain ⟨_, rfl⟩ := a.neg hi
      simp at hl; omega
    · omega
  obtain ⟨k, v, n, r, e1, e2, e3, e4, e5⟩ := a.pos hp
  exact ⟨k, v, n, e1, e2, ⟨h.wf.l1, h.wf.l2, r, e5⟩, ⟨r, e5, by rw [e4] at hl; simp at hl; omega⟩, h.eq⟩
theorem Jk.start {α : Type} (f : Nat → α) (n : Nat) : Jk (Lg f n) n (Lg f n) ((n : Int) - 1) n := by
  refine ⟨?_, ?_, fun _ _ => rfl⟩
  · have := Lg_wf f n
    exact ⟨by omega, by rw [Lg_len]; omega, this.ch⟩
  · induction n with
    | zero => exact ⟨[], .nil, rfl⟩
    | succ n ih =>
      obtain ⟨l, a, hl⟩ := ih
      refine ⟨f n :: l, ?_, by simp [hl]⟩
      have e3 : ((n + 1 : Nat) : Int) - 1 = n := by omega
      rw [e3]
      refine .cons (Lg_at f (n + 1) n (by omega)) (by omega) (a.keep fun j hj => ?_)
      rw [Lg_at f (n + 1) j (by omega), Lg_at f n j (by omega)]

/-- scope i -/
def g (bs : Nat → Int) (i : Nat) : Sc := (0, bs (3 * i), bs (3 * i + 1), bs (3 * i + 2), (i : Int) - 1)
def st (bv bs : Nat → Int) (m k : Nat) (o x : Int) : St := ⟨Lg bv m, (m : Int) - 1, -1, Lg (g bs) k, (k : Int) - 1, -1, [], o, x⟩
def fk (m q : Nat) (pc o x : Int) : Fk := ⟨pc, (m : Int) - 1, -1, (q : Int) - 1, -1, o, x⟩
theorem p_push {base eb : Nat} {W w : World} {bv bs : Nat → Int} {m : Nat} {o x : Int} (h : At base eb W w (st bv bs m 0 o x)) (hk : m ≤ 4096) :
    Calls Try.prog 12 #[.pointer (some ⟨eb, 0, none⟩), .int .i64 (bv m)] w fun e w' => e = .returned (.tuple #[]) ∧ At base eb W w' (st bv bs (m + 1) 0 o x) := by
  refine (s_push h (bv m) (Lg_wf _ _) (by simp [st, Lg_len]; omega)).mono fun e w' ⟨h1, h2⟩ => ⟨h1, h2.re ?_⟩
  have e1 := Lg_put bv m
  have e2 := Lg_top m
  have e3 : ((m + 1 : Nat) : Int) - 1 = m := by omega
  rw [e2] at e1
  simp only [st, e2, e3, e1]
theorem p_scope {base eb : Nat} {W w : World} {bv bs : Nat → Int} {m k p : Nat} {o x : Int} (h : At base eb W w (st bv bs m k o x)) (hp : p = 3 * k) (hk : k ≤ 4096) :
    Calls Try.prog 13 #[.pointer (some ⟨eb, 0, none⟩), .int .i64 0, .int .i64 (bs p), .int .i64 (bs (p + 1)), .int .i64 (bs (p + 2)), .int .i64 ((k : Int) - 1)] w fun e w' => e = .returned (.tuple #[]) ∧ At base eb W w' (st bv bs m (k + 1) o x) := by
  subst hp
  refine (s_scope h 0 (bs (3 * k)) (bs (3 * k + 1)) (bs (3 * k + 2)) ((k : Int) - 1) (Lg_wf _ _) (by simp [st, Lg_len]; omega)).mono fun e w' ⟨h1, h2⟩ => ⟨h1, h2.re ?_⟩
  have e1 := Lg_put (g bs) k
  have e2 := Lg_top k
  have e3 : ((k + 1 : Nat) : Int) - 1 = k := by omega
  simp only [st, e2, e3]
  rw [e2] at e1
  simp only [g] at e1 ⊢
  rw [e1]
theorem p_off {base eb : Nat} {W w : World} {bv bs : Nat → Int} {m k : Nat} {o x : Int} (h : At base eb W w (st bv bs m k o x)) (v : Int) :
    Calls Try.prog 14 #[.pointer (some ⟨eb, 0, none⟩), .int .i64 v] w fun e w' => e = .returned (.tuple #[]) ∧ At base eb W w' (st bv bs m k v x) := s_off h v
theorem p_exp {base eb : Nat} {W w : World} {bv bs : Nat → Int} {m k : Nat} {o x : Int} (h : At base eb W w (st bv bs m k o x)) (v : Int) :
    Calls Try.prog 15 #[.pointer (some ⟨eb, 0, none⟩), .int .i64 v] w fun e w' => e = .returned (.tuple #[]) ∧ At base eb W w' (st bv bs m k o v) := s_exp h v

/-- behind the fork and any junk: dp values, sp scopes; at most B entries more than at the fork -/
def JAt (base eb : Nat) (W w : World) (bv bs : Nat → Int) (m q : Nat) (pc o x : Int) (dp sp B : Nat) : Prop :=
  ∃ s : St, At base eb W w s ∧ s.F = [fk m q pc o x] ∧ s.vl = (m : Int) - 1 ∧ s.cl = (q : Int) - 1 ∧ Jk (Lg bv m) m s.D s.vi dp ∧ Jk (Lg (g bs) q) q s.C s.ci sp ∧ s.D.length ≤ 4096 + B ∧ s.C.length ≤ 4096 + B
theorem j_fork {base eb : Nat} {W w : World} {bv bs : Nat → Int} {m q : Nat} {o x : Int} (h : At base eb W w (st bv bs m q o x)) (pc : Int) (hm : m ≤ 4096) (hq : q ≤ 4096) :
    Calls Try.prog 16 #[.pointer (some ⟨eb, 0, none⟩), .int .i64 pc] w fun e w' => e = .returned (.tuple #[]) ∧ JAt base eb W w' bv bs m q pc o x m q 0 := by
  refine (s_fork h pc (by simp [st])).mono fun e w' ⟨h1, h2⟩ => ⟨h1, _, h2, rfl, ?_, ?_, Jk.start _ _, Jk.start _ _, ?_, ?_⟩
  · simp [st]; omega
  · simp [st]; omega
  · simp [st, Lg_len]; omega
  · simp [st, Lg_len]; omega
theorem put_le {α : Type} (d : List (α × Int)) (i : Nat) (b : α × Int) (h : i ≤ d.length) : (put d i b).length ≤ d.length + 1 := (put_len_ge d i b h).2.2
theorem j_push {base eb : Nat} {W w : World} {bv bs : Nat → Int} {m q : Nat} {pc o x : Int} {dp sp B : Nat} (h : JAt base eb W w bv bs m q pc o x dp sp B) (v : Int) (hB : B ≤ 4096) :
    Calls Try.prog 12 #[.pointer (some ⟨eb, 0, none⟩), .int .i64 v] w fun e w' => e = .returned (.tuple #[]) ∧ JAt base eb W w' bv bs m q pc o x (dp + 1) sp (B + 1) := by
  obtain ⟨s, h1, h2, h3, h4, h5, h6, h7, h8⟩ := h
  have hw := h5.wf
  rw [← h3] at hw
  refine (s_push h1 v hw (by omega)).mono fun e w' ⟨k1, k2⟩ => ⟨k1, _, k2, h2, h3, h4, ?_, h6, ?_, by simp; omega⟩
  · rw [h3]; exact h5.push v
  · have := put_le s.D (top s.vi s.vl) (v, s.vi) hw.top_le; simp; omega
theorem j_scope {base eb : Nat} {W w : World} {bv bs : Nat → Int} {m q : Nat} {pc o x : Int} {dp sp B : Nat} (h : JAt base eb W w bv bs m q pc o x dp sp B) (x0 x1 x2 x3 x4 : Int) (hB : B ≤ 4096) :
    Calls Try.prog 13 #[.pointer (some ⟨eb, 0, none⟩), .int .i64 x0, .int .i64 x1, .int .i64 x2, .int .i64 x3, .int .i64 x4] w fun e w' => e = .returned (.tuple #[]) ∧ JAt base eb W w' bv bs m q pc o x dp (sp + 1) (B + 1) := by
  obtain ⟨s, h1, h2, h3, h4, h5, h6, h7, h8⟩ := h
  have hw := h6.wf
  rw [← h4] at hw
  refine (s_scope h1 x0 x1 x2 x3 x4 hw (by omega)).mono fun e w' ⟨k1, k2⟩ => ⟨k1, _, k2, h2, h3, h4, h5, ?_, by simp; omega, ?_⟩
  · rw [h4]; exact h6.push _
  · have := put_le s.C (top s.ci s.cl) ((x0, x1, x2, x3, x4), s.ci) hw.top_le; simp; omega
theorem j_pop {base eb : Nat} {W w : World} {bv bs : Nat → Int} {m q : Nat} {pc o x : Int} {dp sp B : Nat} (h : JAt base eb W w bv bs m q pc o x dp sp B) (hd : 0 < dp) :
    Calls Try.prog 17 #[.pointer (some ⟨eb, 0, none⟩)] w fun e w' => ∃ v, e = .returned (.int .i64 v) ∧ JAt base eb W w' bv bs m q pc o x (dp - 1) sp (B + 1) := by
  obtain ⟨s, h1, h2, h3, h4, h5, h6, h7, h8⟩ := h
  obtain ⟨k, v, n, e1, e2, e3⟩ := h5.pop hd
  exact (s_pop h1 e1 e2).mono fun e w' ⟨k1, k2⟩ => ⟨v, k1, _, k2, h2, h3, h4, e3, h6, by simp; omega, by simp; omega⟩
theorem j_popscope {base eb : Nat} {W w : World} {bv bs : Nat → Int} {m q : Nat} {pc o x : Int} {dp sp B : Nat} (h : JAt base eb W w bv bs m q pc o x dp sp B) (hd : 0 < sp) :
    Calls Try.prog 18 #[.pointer (some ⟨eb, 0, none⟩)] w fun e w' => ∃ a b, e = .returned (.tuple #[.int .i64 a, .int .i64 b]) ∧ JAt base eb W w' bv bs m q pc o x dp (sp - 1) (B + 1) := by
  obtain ⟨s, h1, h2, h3, h4, h5, h6, h7, h8⟩ := h
  obtain ⟨k, ⟨x0, x1, x2, x3, x4⟩, n, e1, e2, e3⟩ := h6.pop hd
  exact (s_popscope h1 e1 e2).mono fun e w' ⟨k1, k2⟩ => ⟨x2, x3, k1, _, k2, h2, h3, h4, h5, e3, by simp; omega, by simp; omega⟩
theorem j_off {base eb : Nat} {W w : World} {bv bs : Nat → Int} {m q : Nat} {pc o x : Int} {dp sp B : Nat} (h : JAt base eb W w bv bs m q pc o x dp sp B) (v : Int) :
    Calls Try.prog 14 #[.pointer (some ⟨eb, 0, none⟩), .int .i64 v] w fun e w' => e = .returned (.tuple #[]) ∧ JAt base eb W w' bv bs m q pc o x dp sp B := by
  obtain ⟨s, h1, h2⟩ := h
  exact (s_off h1 v).mono fun e w' ⟨k1, k2⟩ => ⟨k1, _, k2, h2⟩
theorem j_exp {base eb : Nat} {W w : World} {bv bs : Nat → Int} {m q : Nat} {pc o x : Int} {dp sp B : Nat} (h : JAt base eb W w bv bs m q pc o x dp sp B) (v : Int) :
    Calls Try.prog 15 #[.pointer (some ⟨eb, 0, none⟩), .int .i64 v] w fun e w' => e = .returned (.tuple #[]) ∧ JAt base eb W w' bv bs m q pc o x dp sp B := by
  obtain ⟨s, h1, h2⟩ := h
  exact (s_exp h1 v).mono fun e w' ⟨k1, k2⟩ => ⟨k1, _, k2, h2⟩
theorem JAt.up {base eb : Nat} {W w : World} {bv bs : Nat → Int} {m q : Nat} {pc o x : Int} {dp sp B B' : Nat} (h : JAt base eb W w bv bs m q pc o x dp sp B) (hB : B ≤ B') : JAt base eb W w bv bs m q pc o x dp sp B' := by
  obtain ⟨s, h1, h2, h3, h4, h5, h6, h7, h8⟩ := h
  exact ⟨s, h1, h2, h3, h4, h5, h6, by omega, by omega⟩
/-- behind popfork: j values, k scopes left -/
def RAt (base eb : Nat) (W w : World) (bv bs : Nat → Int) (m q : Nat) (o x : Int) (j k : Nat) : Prop :=
  ∃ D C, At base eb W w ⟨D, (j : Int) - 1, -1, C, (k : Int) - 1, -1, [], o, x⟩ ∧ (∀ i : Nat, i < m → D[i]? = (Lg bv m)[i]?) ∧ (∀ i : Nat, i < q → C[i]? = (Lg (g bs) q)[i]?)
theorem r_popfork {base eb : Nat} {W w : World} {bv bs : Nat → Int} {m q : Nat} {pc o x : Int} {dp sp B : Nat} (h : JAt base eb W w bv bs m q pc o x dp sp B) :
    Calls Try.prog 19 #[.pointer (some ⟨eb, 0, none⟩)] w fun e w' => e = .returned (.int .i64 pc) ∧ RAt base eb W w' bv bs m q o x m q := by
  obtain ⟨s, h1, h2, h3, h4, h5, h6, h7, h8⟩ := h
  exact (s_popfork h1 (r := []) (f := fk m q pc o x) h2 (by simp)).mono fun e w' ⟨k1, k2⟩ => ⟨k1, _, _, k2, h5.eq, h6.eq⟩
theorem RAt.still {base eb : Nat} {W w w' : World} {bv bs : Nat → Int} {m q j k : Nat} {o x : Int} (h : RAt base eb W w bv bs m q o x j k) (hu : Upd (fun _ => False) w w') : RAt base eb W w' bv bs m q o x j k := by
  obtain ⟨D, C, h1, h2⟩ := h
  exact ⟨D, C, h1.still hu, h2⟩
theorem RAt.row {base eb : Nat} {W w : World} {bv bs : Nat → Int} {m q j k : Nat} {o x : Int} (h : RAt base eb W w bv bs m q o x j k) {xa : Addr} {i : Nat} {v : Value} (hp : xa.block < base) (hc : W.cell? (xa.add i) = some v) : w.cell? (xa.add i) = some v := by
  obtain ⟨D, C, h1, h2⟩ := h
  exact h1.row hp hc
theorem RAt.below {base eb : Nat} {W w : World} {bv bs : Nat → Int} {m q j k : Nat} {o x : Int} (h : RAt base eb W w bv bs m q o x j k) : Below base W w := by
  obtain ⟨D, C, h1, h2⟩ := h
  exact h1.2.1
theorem r_forks {base eb : Nat} {W w : World} {bv bs : Nat → Int} {m q j k : Nat} {o x : Int} (h : RAt base eb W w bv bs m q o x j k) :
    Calls Try.prog 20 #[.pointer (some ⟨eb, 0, none⟩)] w fun e w' => e = .returned (.int .i64 0) ∧ w = w' := by
  obtain ⟨D, C, h1, h2⟩ := h
  exact s_forks h1 (n := 0) rfl
theorem r_off {base eb : Nat} {W w : World} {bv bs : Nat → Int} {m q j k : Nat} {o x : Int} (h : RAt base eb W w bv bs m q o x j k) :
    Calls Try.prog 21 #[.pointer (some ⟨eb, 0, none⟩)] w fun e w' => e = .returned (.int .i64 o) ∧ w = w' := by
  obtain ⟨D, C, h1, h2⟩ := h
  exact s_offset h1 rfl
theorem r_qoff {base eb : Nat} {W w : World} {bv bs : Nat → Int} {m q j k : Nat} {o x : Int} (h : RAt base eb W w bv bs m q o x j k) (n : Nat) :
    Calls Try.prog 21 #[.pointer (some ⟨eb, 0, none⟩)] (w.drewN n) fun e w'' => e = .returned (.int .i64 o) ∧ ∃ m, w'' = w.drewN m := by
  obtain ⟨D, C, h1, h2⟩ := h
  exact q_offset h1 rfl n
theorem r_exp {base eb : Nat} {W w : World} {bv bs : Nat → Int} {m q j k : Nat} {o x : Int} (h : RAt base eb W w bv bs m q o x j k) :
    Calls Try.prog 22 #[.pointer (some ⟨eb, 0, none⟩)] w fun e w' => e = .returned (.int .i64 x) ∧ w = w' := by
  obtain ⟨D, C, h1, h2⟩ := h
  exact s_expdepth h1 rfl
theorem r_empty {base eb : Nat} {W w : World} {bv bs : Nat → Int} {m q j k : Nat} {o x : Int} (h : RAt base eb W w bv bs m q o x j k) (b : Bool) (hb : decide ((j : Int) - 1 < 0) = b) :
    Calls Try.prog 23 #[.pointer (some ⟨eb, 0, none⟩)] w fun e w' => e = .returned (.bool b) ∧ w = w' := by
  obtain ⟨D, C, h1, h2⟩ := h
  exact s_sempty h1 hb
theorem r_cempty {base eb : Nat} {W w : World} {bv bs : Nat → Int} {m q j k : Nat} {o x : Int} (h : RAt base eb W w bv bs m q o x j k) (b : Bool) (hb : decide ((k : Int) - 1 < 0) = b) :
    Calls Try.prog 24 #[.pointer (some ⟨eb, 0, none⟩)] w fun e w' => e = .returned (.bool b) ∧ w = w' := by
  obtain ⟨D, C, h1, h2⟩ := h
  exact s_cempty h1 hb
theorem r_pop {base eb : Nat} {W w : World} {bv bs : Nat → Int} {m q j k : Nat} {o x : Int} (h : RAt base eb W w bv bs m q o x (j + 1) k) (hj : j < m) :
    Calls Try.prog 17 #[.pointer (some ⟨eb, 0, none⟩)] w fun e w' => e = .returned (.int .i64 (bv j)) ∧ RAt base eb W w' bv bs m q o x j k := by
  obtain ⟨D, C, h1, h2, h3⟩ := h
  exact (s_pop h1 (k := j) (v := bv j) (n := (j : Int) - 1) (by simp) (by rw [h2 j hj]; exact Lg_at bv m j hj)).mono fun e w' ⟨k1, k2⟩ => ⟨k1, _, _, k2, h2, h3⟩
theorem r_popscope {base eb : Nat} {W w : World} {bv bs : Nat → Int} {m q j k p : Nat} {o x : Int} (h : RAt base eb W w bv bs m q o x j (k + 1)) (hk : k < q) (hp : p = 3 * k) :
    Calls Try.prog 18 #[.pointer (some ⟨eb, 0, none⟩)] w fun e w' => e = .returned (.tuple #[.int .i64 (bs (p + 1)), .int .i64 (bs (p + 2))]) ∧ RAt base eb W w' bv bs m q (bs p) x j k := by
  subst hp
  obtain ⟨D, C, h1, h2, h3⟩ := h
  refine (s_popscope h1 (k := k) (x0 := 0) (x1 := bs (3 * k)) (x2 := bs (3 * k + 1)) (x3 := bs (3 * k + 2)) (x4 := (k : Int) - 1) (n := (k : Int) - 1) (by simp) (by rw [h3 k hk]; exact Lg_at (g bs) q k hk)).mono fun e w' ⟨k1, k2⟩ => ⟨k1, D, C, k2.re ?_, h2, h3⟩
  have e3 : ((k + 1 : Nat) : Int) - 1 = k := by omega
  simp only [popOff, e3, if_pos (show (-1 : Int) < k by omega)]
end Go.Proofs.Ytemifkcgmfincaa.undo
