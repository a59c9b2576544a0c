/- The environment's methods, told of one state at a time; where it lies in memory is hidden. -/
import Derived.Test.YtemifkcgmfincaaPopf
import Derived.Test.YtemifkcgmfincaaInit
namespace Go.Proofs.Ytemifkcgmfincaa.steps
open Go.ChangeShapes Go.WideShapes Go.ChangeAt Go.RowKit
open upd env plain ops forks popf fill init

/-- the environment at eb is in state s; nothing below base has turned since W -/
def At (base eb : Nat) (W w : World) (s : St) : Prop := (∃ col, EnvAt base w eb col s) ∧ Below base W w ∧ base ≤ w.heap.size
theorem At.of_nxt {base eb : Nat} {W w w' : World} {col : Nat → Nat} {s : St} (h : Nxt base eb w col s w') (hb : Below base W w) (hz : base ≤ w.heap.size) : At base eb W w' s := by
  obtain ⟨col', h1, _, h3⟩ := h
  exact ⟨⟨col', h1⟩, hb.trans (Mine.below h3 (Nat.le_refl _) hz), Nat.le_trans hz h3.size⟩
theorem At.still {base eb : Nat} {W w w' : World} {s : St} (h : At base eb W w s) (hu : Upd (fun _ => False) w w') : At base eb W w' s := by
  obtain ⟨⟨col, h⟩, hb, hz⟩ := h
  exact ⟨⟨col, h.still hu⟩, hb.trans (hu.below hz (fun _ h => h.elim)), Nat.le_trans hz hu.size⟩
theorem At.drew {base eb : Nat} {W w : World} {s : St} (h : At base eb W w s) : At base eb W w.drew s := h.still (Upd.refl _ _).drew
theorem At.drewN {base eb : Nat} {W w : World} {s : St} (h : At base eb W w s) (n : Nat) : At base eb W (w.drewN n) s := h.still ((Upd.refl _ _).drewN n)
theorem At.cell {base eb : Nat} {W w : World} {s : St} (h : At base eb W w s) {p : Addr} {v : Value} (hp : p.block < base) (hc : W.cell? p = some v) : w.cell? p = some v := (h.2.1.cell hp).trans hc
theorem At.re {base eb : Nat} {W w : World} {s t : St} (h : At base eb W w s) (e : s = t) : At base eb W w t := e ▸ h

theorem s_new (w : World) : Calls Try.prog 11 #[] w fun e w' => ∃ eb, e = .returned (.pointer (some ⟨eb, 0, none⟩)) ∧ At w.heap.size eb w w' st0 :=
  (newEnv w (fun _ => 100)).mono fun _ _ ⟨h1, h2, h3, col, h4, _⟩ => ⟨_, h1, ⟨col, h4⟩, h2, h3⟩
theorem s_off {base eb : Nat} {W w : World} {s : St} (h : At base eb W w s) (v : Int) :
    Calls Try.prog 14 #[.pointer (some ⟨eb, 0, none⟩), .int .i64 v] w fun e w' => e = .returned (.tuple #[]) ∧ At base eb W w' { s with off := v } := by
  obtain ⟨⟨col, h⟩, hb, hz⟩ := h
  exact (setOffset w base eb col _ v h).mono fun e w' ⟨h1, h2⟩ => ⟨h1, At.of_nxt h2 hb hz⟩
theorem s_exp {base eb : Nat} {W w : World} {s : St} (h : At base eb W w s) (v : Int) :
    Calls Try.prog 15 #[.pointer (some ⟨eb, 0, none⟩), .int .i64 v] w fun e w' => e = .returned (.tuple #[]) ∧ At base eb W w' { s with ex := v } := by
  obtain ⟨⟨col, h⟩, hb, hz⟩ := h
  exact (setExpdepth w base eb col _ v h).mono fun e w' ⟨h1, h2⟩ => ⟨h1, At.of_nxt h2 hb hz⟩
theorem s_push {base eb : Nat} {W w : World} {s : St} (h : At base eb W w s) (v : Int) (hw : Wf s.D s.vi s.vl) (hbd : s.D.length ≤ 1000000) :
    Calls Try.prog 12 #[.pointer (some ⟨eb, 0, none⟩), .int .i64 v] w fun e w' => e = .returned (.tuple #[]) ∧ At base eb W w' { s with D := put s.D (top s.vi s.vl) (v, s.vi), vi := top s.vi s.vl } := by
  obtain ⟨⟨col, h⟩, hb, hz⟩ := h
  exact (pushInt w base eb col s v h hw hz hbd).mono fun e w' ⟨h1, h2⟩ => ⟨h1, At.of_nxt h2 hb hz⟩
theorem s_scope {base eb : Nat} {W w : World} {s : St} (h : At base eb W w s) (x0 x1 x2 x3 x4 : Int) (hw : Wf s.C s.ci s.cl) (hbd : s.C.length ≤ 1000000) :
    Calls Try.prog 13 #[.pointer (some ⟨eb, 0, none⟩), .int .i64 x0, .int .i64 x1, .int .i64 x2, .int .i64 x3, .int .i64 x4] w fun e w' => e = .returned (.tuple #[]) ∧ At base eb W w' { s with C := put s.C (top s.ci s.cl) ((x0, x1, x2, x3, x4), s.ci), ci := top s.ci s.cl } := by
  obtain ⟨⟨col, h⟩, hb, hz⟩ := h
  exact (pushScope w base eb col s x0 x1 x2 x3 x4 h hw hz hbd).mono fun e w' ⟨h1, h2⟩ => ⟨h1, At.of_nxt h2 hb hz⟩
theorem s_fork {base eb : Nat} {W w : World} {s : St} (h : At base eb W w s) (pc : Int) (hbd : s.F.length ≤ 1000000) :
    Calls Try.prog 16 #[.pointer (some ⟨eb, 0, none⟩), .int .i64 pc] w fun e w' => e = .returned (.tuple #[]) ∧ At base eb W w' { s with F := s.F ++ [⟨pc, s.vi, s.vl, s.ci, s.cl, s.off, s.ex⟩], vl := max s.vi s.vl, cl := max s.ci s.cl } := by
  obtain ⟨⟨col, h⟩, hb, hz⟩ := h
  exact (pushfork w base eb col s pc h hz hbd).mono fun e w' ⟨h1, h2⟩ => ⟨h1, At.of_nxt h2 hb hz⟩
theorem s_pop {base eb : Nat} {W w : World} {s : St} (h : At base eb W w s) {k : Nat} {v n : Int} (hi : s.vi = k) (hk : s.D[k]? = some (v, n)) :
    Calls Try.prog 17 #[.pointer (some ⟨eb, 0, none⟩)] w fun e w' => e = .returned (.int .i64 v) ∧ At base eb W w' { s with vi := n } := by
  obtain ⟨⟨col, h⟩, hb, hz⟩ := h
  exact (popInt w base eb col s k v n h hi hk).mono fun e w' ⟨h1, h2⟩ => ⟨h1, At.of_nxt h2 hb hz⟩
theorem s_popscope {base eb : Nat} {W w : World} {s : St} (h : At base eb W w s) {k : Nat} {x0 x1 x2 x3 x4 n : Int} (hi : s.ci = k) (hk : s.C[k]? = some ((x0, x1, x2, x3, x4), n)) :
    Calls Try.prog 18 #[.pointer (some ⟨eb, 0, none⟩)] w fun e w' => e = .returned (.tuple #[.int .i64 x2, .int .i64 x3]) ∧ At base eb W w' { s with ci := n, off := popOff s x1 } := by
  obtain ⟨⟨col, h⟩, hb, hz⟩ := h
  exact (popscope w base eb col s k x0 x1 x2 x3 x4 n h hi hk).mono fun e w' ⟨h1, h2⟩ => ⟨h1, At.of_nxt h2 hb hz⟩
theorem s_popfork {base eb : Nat} {W w : World} {s : St} (h : At base eb W w s) {r : List Fk} {f : Fk} (hF : s.F = r ++ [f]) (hbd : r.length ≤ 1000000) :
    Calls Try.prog 19 #[.pointer (some ⟨eb, 0, none⟩)] w fun e w' => e = .returned (.int .i64 f.pc) ∧ At base eb W w' { s with F := r, vi := f.vi, vl := f.vl, ci := f.ci, cl := f.cl, off := f.off, ex := f.ex } := by
  obtain ⟨⟨col, h⟩, hb, hz⟩ := h
  exact (popfork w base eb col s r f h hF hbd).mono fun e w' ⟨h1, h2⟩ => ⟨h1, At.of_nxt h2 hb hz⟩
theorem s_forks {base eb : Nat} {W w : World} {s : St} (h : At base eb W w s) {n : Nat} (hn : s.F.length = n) :
    Calls Try.prog 20 #[.pointer (some ⟨eb, 0, none⟩)] w fun e w' => e = .returned (.int .i64 n) ∧ w = w' := by
  obtain ⟨⟨col, h⟩, hb, hz⟩ := h
  rw [← hn]; exact forks w base eb col _ h
theorem s_offset {base eb : Nat} {W w : World} {s : St} (h : At base eb W w s) {o : Int} (hn : s.off = o) :
    Calls Try.prog 21 #[.pointer (some ⟨eb, 0, none⟩)] w fun e w' => e = .returned (.int .i64 o) ∧ w = w' := by
  obtain ⟨⟨col, h⟩, hb, hz⟩ := h
  rw [← hn]; exact offset w base eb col _ h
theorem s_expdepth {base eb : Nat} {W w : World} {s : St} (h : At base eb W w s) {o : Int} (hn : s.ex = o) :
    Calls Try.prog 22 #[.pointer (some ⟨eb, 0, none⟩)] w fun e w' => e = .returned (.int .i64 o) ∧ w = w' := by
  obtain ⟨⟨col, h⟩, hb, hz⟩ := h
  rw [← hn]; exact expdepth w base eb col _ h
theorem s_sempty {base eb : Nat} {W w : World} {s : St} (h : At base eb W w s) {b : Bool} (hn : decide (s.vi < 0) = b) :
    Calls Try.prog 23 #[.pointer (some ⟨eb, 0, none⟩)] w fun e w' => e = .returned (.bool b) ∧ w = w' := by
  obtain ⟨⟨col, h⟩, hb, hz⟩ := h
  rw [← hn]; exact stackEmpty w base eb col _ h
theorem s_cempty {base eb : Nat} {W w : World} {s : St} (h : At base eb W w s) {b : Bool} (hn : decide (s.ci < 0) = b) :
    Calls Try.prog 24 #[.pointer (some ⟨eb, 0, none⟩)] w fun e w' => e = .returned (.bool b) ∧ w = w' := by
  obtain ⟨⟨col, h⟩, hb, hz⟩ := h
  rw [← hn]; exact scopesEmpty w base eb col _ h
theorem s_cindex {base eb : Nat} {W w : World} {s : St} (h : At base eb W w s) {i : Int} (hn : s.ci = i) :
    Calls Try.prog 35 #[.pointer (some ⟨eb, 0, none⟩)] w fun e w' => e = .returned (.int .i64 i) ∧ w = w' := by
  obtain ⟨⟨col, h⟩, hb, hz⟩ := h
  rw [← hn]; exact scopesIndex w base eb col _ h

theorem qt {w : World} {n : Nat} {f : FuncId} {args : Array Value} {v : Value} (h : Calls Try.prog f args (w.drewN n) fun e w' => e = .returned v ∧ w.drewN n = w') : Calls Try.prog f args (w.drewN n) fun e w'' => e = .returned v ∧ ∃ m, w'' = w.drewN m :=
  h.mono fun _ _ ⟨h1, h2⟩ => ⟨h1, n, h2.symm⟩
theorem q_offset {base eb : Nat} {W w : World} {s : St} (h : At base eb W w s) {o : Int} (hn : s.off = o) (n : Nat) :
    Calls Try.prog 21 #[.pointer (some ⟨eb, 0, none⟩)] (w.drewN n) fun e w'' => e = .returned (.int .i64 o) ∧ ∃ m, w'' = w.drewN m := qt (s_offset (h.drewN n) hn)
theorem q_expdepth {base eb : Nat} {W w : World} {s : St} (h : At base eb W w s) {o : Int} (hn : s.ex = o) (n : Nat) :
    Calls Try.prog 22 #[.pointer (some ⟨eb, 0, none⟩)] (w.drewN n) fun e w'' => e = .returned (.int .i64 o) ∧ ∃ m, w'' = w.drewN m := qt (s_expdepth (h.drewN n) hn)
theorem q_forks {base eb : Nat} {W w : World} {s : St} (h : At base eb W w s) {k : Nat} (hn : s.F.length = k) (n : Nat) :
    Calls Try.prog 20 #[.pointer (some ⟨eb, 0, none⟩)] (w.drewN n) fun e w'' => e = .returned (.int .i64 k) ∧ ∃ m, w'' = w.drewN m := qt (s_forks (h.drewN n) hn)
theorem q_sempty {base eb : Nat} {W w : World} {s : St} (h : At base eb W w s) {b : Bool} (hn : decide (s.vi < 0) = b) (n : Nat) :
    Calls Try.prog 23 #[.pointer (some ⟨eb, 0, none⟩)] (w.drewN n) fun e w'' => e = .returned (.bool b) ∧ ∃ m, w'' = w.drewN m := qt (s_sempty (h.drewN n) hn)
theorem q_cempty {base eb : Nat} {W w : World} {s : St} (h : At base eb W w s) {b : Bool} (hn : decide (s.ci < 0) = b) (n : Nat) :
    Calls Try.prog 24 #[.pointer (some ⟨eb, 0, none⟩)] (w.drewN n) fun e w'' => e = .returned (.bool b) ∧ ∃ m, w'' = w.drewN m := qt (s_cempty (h.drewN n) hn)

/-- the cell of a copy of what came in -/
theorem cp_cell {W : World} {ac : Option Addr} {n : Nat} {f : Nat → Value} (h : In W ac n f) {k : Nat} (hk : k < n) : ∃ xa, ac = some xa ∧ xa.block < W.heap.size ∧ W.cell? (xa.add k) = some (f k) := by
  rcases h with ⟨_, h0⟩ | ⟨xa, h1, h2, h3⟩
  · omega
  · exact ⟨xa, h1, h2 (by omega), h3 k hk⟩
theorem add_succ (x : Addr) (p : Nat) : x.add (p + 1) = { x with off := x.off + (p + 1), spot := none } := by simp [Addr.add]
theorem At.row {base eb : Nat} {W w : World} {s : St} (h : At base eb W w s) {xa : Addr} {k : Nat} {v : Value} (hp : xa.block < base) (hc : W.cell? (xa.add k) = some v) : w.cell? (xa.add k) = some v := h.cell (by rw [add_block]; exact hp) hc

/-- entries that point each to the one before -/
def Lg {α : Type} (f : Nat → α) (k : Nat) : List (α × Int) := (List.range k).map fun i => (f i, (i : Int) - 1)
theorem Lg_len {α : Type} (f : Nat → α) (k : Nat) : (Lg f k).length = k := by simp [Lg]
theorem Lg_at {α : Type} (f : Nat → α) (k i : Nat) (h : i < k) : (Lg f k)[i]? = some (f i, (i : Int) - 1) := by simp [Lg, h]
theorem Lg_succ {α : Type} (f : Nat → α) (k : Nat) : Lg f (k + 1) = Lg f k ++ [(f k, (k : Int) - 1)] := by simp [Lg, List.range_succ]
theorem Lg_top (k : Nat) : top ((k : Int) - 1) (-1) = k := by unfold top; omega
theorem Lg_put {α : Type} (f : Nat → α) (k : Nat) : put (Lg f k) (top ((k : Int) - 1) (-1)) (f k, (k : Int) - 1) = Lg f (k + 1) := by
  rw [Lg_top, Lg_succ, put, if_neg (by rw [Lg_len]; omega)]
theorem Lg_wf {α : Type} (f : Nat → α) (k : Nat) : Wf (Lg f k) ((k : Int) - 1) (-1) := by
  induction k with
  | zero => exact ⟨by omega, by simp [Lg], [], .nil⟩
  | succ k ih =>
    have := ih.push (f k)
    rw [Lg_put, Lg_top] at this
    have e : ((k + 1 : Nat) : Int) - 1 = k := by omega
    rw [e]; exact this
end Go.Proofs.Ytemifkcgmfincaa.steps
