/- The environment's methods beside the model's snapshots: what each leaves of both. -/
import Derived.Test.YtemifkcgmfincaaSnapM
import Derived.Deep.AppendLies
set_option linter.unusedVariables false
namespace Go.Proofs.Ytemifkcgmfincaa.snapc
open Go.ChangeShapes Go.WideShapes Go.ChangeAt Go.RowKit
open upd env plain ops forks popf fill init steps snap wide snapm

/-- the model's side: slices st, sc, snapshots sps; the environment's: stp, scp, L; at most B entries -/
def MT (base eb : Nat) (W w : World) (va vb vf : Value) (st : List Int) (sc : List Ms) (sps : List Sp) (stp : List Int) (scp : List Ms) (off ex ser nser : Int) (L : List (Fk × Sp)) (B : Nat) : Prop :=
  ∃ s, FT base eb W w s va vb vf st sc sps ∧ PInv s stp scp off ex ser nser L ∧ s.D.length ≤ B ∧ s.C.length ≤ B
theorem MT.start {eb : Nat} {w w' : World} (h : steps.At w.heap.size eb w w' st0) : MT w.heap.size eb w w' (.slice none 0 0) (.slice none 0 0) (.slice none 0 0) [] [] [] [] [] 0 0 0 0 [] 0 :=
  ⟨st0, FT.start h, PInv.start, Nat.le_refl _, Nat.le_refl _⟩
section
variable {base eb : Nat} {W w w' : World} {va vb vf : Value} {st : List Int} {sc : List Ms} {sps : List Sp} {stp : List Int} {scp : List Ms} {off ex ser nser : Int} {L : List (Fk × Sp)} {B : Nat}
theorem MT.still (h : MT base eb W w va vb vf st sc sps stp scp off ex ser nser L B) (hu : Upd (fun _ => False) w w') : MT base eb W w' va vb vf st sc sps stp scp off ex ser nser L B := by
  obtain ⟨s, h1, h2⟩ := h
  exact ⟨s, h1.still hu, h2⟩
theorem MT.up {B' : Nat} (h : MT base eb W w va vb vf st sc sps stp scp off ex ser nser L B) (hB : B ≤ B') : MT base eb W w va vb vf st sc sps stp scp off ex ser nser L B' := by
  obtain ⟨s, h1, h2, h3, h4⟩ := h
  exact ⟨s, h1, h2, by omega, by omega⟩
theorem MT.row (h : MT base eb W w va vb vf st sc sps stp scp off ex ser nser L B) {xa : Addr} {i : Nat} {v : Value} (hp : xa.block < base) (hc : W.cell? (xa.add i) = some v) : w.cell? (xa.add i) = some v := by
  obtain ⟨s, h1, h2⟩ := h
  exact h1.at.row hp hc
theorem MT.below (h : MT base eb W w va vb vf st sc sps stp scp off ex ser nser L B) : Below base W w ∧ base ≤ w.heap.size := by
  obtain ⟨s, h1, h2⟩ := h
  exact ⟨h1.at.2.1, h1.at.2.2⟩
theorem MT.lens (h : MT base eb W w va vb vf st sc sps stp scp off ex ser nser L B) : stp.length ≤ B ∧ scp.length ≤ B := by
  obtain ⟨s, h1, h2, h3, h4⟩ := h
  have := h2.lens
  omega
theorem MT.push (h : MT base eb W w va vb vf st sc sps stp scp off ex ser nser L B) (v : Int) (hB : B ≤ 1000000) :
    Calls Try.prog 12 #[.pointer (some ⟨eb, 0, none⟩), .int .i64 v] w fun e w' => e = .returned (.tuple #[]) ∧ MT base eb W w' va vb vf st sc sps (stp ++ [v]) scp off ex ser nser L (B + 1) := by
  obtain ⟨s, ⟨col, h1⟩, h2, h3, h4⟩ := h
  obtain ⟨p1, p2⟩ := h2.push v
  exact (pushInt w base eb col s v h1.env h2.wfD h1.sz (by omega)).mono fun e w' ⟨k1, k2⟩ => ⟨k1, _, h1.nxt k2, p1, by simp only; omega, by simp only; omega⟩
theorem MT.pop {v : Int} (h : MT base eb W w va vb vf st sc sps (stp ++ [v]) scp off ex ser nser L B) :
    Calls Try.prog 17 #[.pointer (some ⟨eb, 0, none⟩)] w fun e w' => e = .returned (.int .i64 v) ∧ MT base eb W w' va vb vf st sc sps stp scp off ex ser nser L B := by
  obtain ⟨s, ⟨col, h1⟩, h2, h3, h4⟩ := h
  obtain ⟨k, n, p1, p2, p3⟩ := h2.pop
  exact (popInt w base eb col s k v n h1.env p1 p2).mono fun e w' ⟨k1, k2⟩ => ⟨k1, _, h1.nxt k2, p3, h3, h4⟩
theorem MT.scope (h : MT base eb W w va vb vf st sc sps stp scp off ex ser nser L B) (x0 x1 x2 x3 x4 : Int) (hB : B ≤ 1000000) :
    Calls Try.prog 13 #[.pointer (some ⟨eb, 0, none⟩), .int .i64 x0, .int .i64 x1, .int .i64 x2, .int .i64 x3, .int .i64 x4] w fun e w' => e = .returned (.tuple #[]) ∧ MT base eb W w' va vb vf st sc sps stp (scp ++ [(x1, x2, x3, ser)]) off ex ser nser L (B + 1) := by
  obtain ⟨s, ⟨col, h1⟩, h2, h3, h4⟩ := h
  obtain ⟨p1, p2⟩ := h2.scope x0 x1 x2 x3 x4
  exact (pushScope w base eb col s x0 x1 x2 x3 x4 h1.env h2.wfC h1.sz (by omega)).mono fun e w' ⟨k1, k2⟩ => ⟨k1, _, h1.nxt k2, p1, by simp only; omega, by simp only; omega⟩
theorem MT.setOff (h : MT base eb W w va vb vf st sc sps stp scp off ex ser nser L B) (v : Int) :
    Calls Try.prog 14 #[.pointer (some ⟨eb, 0, none⟩), .int .i64 v] w fun e w' => e = .returned (.tuple #[]) ∧ MT base eb W w' va vb vf st sc sps stp scp v ex ser nser L B := by
  obtain ⟨s, ⟨col, h1⟩, h2, h3, h4⟩ := h
  exact (setOffset w base eb col s v h1.env).mono fun e w' ⟨k1, k2⟩ => ⟨k1, _, h1.nxt k2, h2.setOff v, h3, h4⟩
theorem MT.setEx (h : MT base eb W w va vb vf st sc sps stp scp off ex ser nser L B) (v : Int) :
    Calls Try.prog 15 #[.pointer (some ⟨eb, 0, none⟩), .int .i64 v] w fun e w' => e = .returned (.tuple #[]) ∧ MT base eb W w' va vb vf st sc sps stp scp off v ser nser L B := by
  obtain ⟨s, ⟨col, h1⟩, h2, h3, h4⟩ := h
  exact (setExpdepth w base eb col s v h1.env).mono fun e w' ⟨k1, k2⟩ => ⟨k1, _, h1.nxt k2, h2.setEx v, h3, h4⟩
theorem MT.fork (h : MT base eb W w va vb vf st sc sps stp scp off ex ser nser L B) (pc : Int) (sv cv : Value) (hL : L.length ≤ 1000000) :
    Calls Try.prog 16 #[.pointer (some ⟨eb, 0, none⟩), .int .i64 pc] w fun e w' => e = .returned (.tuple #[]) ∧ ∃ f, MT base eb W w' va vb vf st sc sps stp scp off ex (nser + 1) (nser + 1) (L ++ [(f, ⟨pc, sv, stp, cv, scp, off, ex, ser⟩)]) B := by
  obtain ⟨s, ⟨col, h1⟩, h2, h3, h4⟩ := h
  exact (pushfork w base eb col s pc h1.env h1.sz (by rw [h2.lens.2.2.2.2]; exact hL)).mono fun e w' ⟨k1, k2⟩ => ⟨k1, _, _, h1.nxt k2, h2.fork pc sv cv, h3, h4⟩
/-- a block laid since the world w0 is nobody's: the call leaves it alone -/
theorem keepcol {col : Nat → Nat} {w0 : World} {s : St} (h1 : T4 base eb W w0 col s va vb vf st sc sps) (hu : Upd (fun _ => False) w0 w) : T4 base eb W w (fun k => if k < w0.heap.size then col k else 99) s va vb vf st sc sps := by
  have hk : ∀ k, k < w0.heap.size → (fun k => if k < w0.heap.size then col k else 99) k = col k := fun k hlt => if_pos hlt
  have hS : ∀ k, (fun _ => False) k → col k = 99 := fun _ h => h.elim
  have o : ∀ {c e size v n xs}, OwnR base w0 col c e size v n xs → OwnR base w (fun k => if k < w0.heap.size then col k else 99) c e size v n xs := fun h => ⟨own_kept h.row hu (fun _ _ h => h), h.col.re h.row hk⟩
  exact ⟨h1.env.frame hu (fun _ _ _ h => h) hk, o h1.a, o h1.b, o h1.f, fun i sp hi => ⟨o (h1.sn i sp hi).1, o (h1.sn i sp hi).2⟩, h1.bel.trans (hu.below h1.sz (fun _ h => h.elim)), Nat.le_trans h1.sz hu.size⟩
theorem MT.popforkK {w0 : World} {f : Fk} {sp : Sp} {b : Nat} {cs : Array Value} {t : TypeId} (h : MT base eb W w0 va vb vf st sc sps stp scp off ex ser nser (L ++ [(f, sp)]) B) (hu : Upd (fun _ => False) w0 w) (hb : w0.heap.size ≤ b) (hB : Blk w b cs t) (hL : L.length ≤ 1000000) :
    Calls Try.prog 19 #[.pointer (some ⟨eb, 0, none⟩)] w fun e w' => e = .returned (.int .i64 sp.pc) ∧ MT base eb W w' va vb vf st sc sps sp.st sp.sc sp.off sp.ex sp.ser nser L B ∧ Blk w' b cs t := by
  obtain ⟨s, ⟨col, h1⟩, h2, h3, h4⟩ := h
  obtain ⟨p1, p2, p3⟩ := h2.popfork
  have h1' := keepcol h1 hu
  rw [← p2]
  exact (popfork w base eb _ s _ f h1'.env p1 (by simpa using hL)).mono fun e w' ⟨k1, k2⟩ => ⟨k1, ⟨_, h1'.nxt k2, p3, h3, h4⟩, by
    obtain ⟨col', _, _, hv⟩ := k2
    exact hB.kept hv (fun m => by have := m.2; simp only [if_neg (show ¬ b < w0.heap.size by omega)] at this; omega)⟩
theorem MT.popscopeK {w0 : World} {m : Ms} {b : Nat} {cs : Array Value} {t : TypeId} (h : MT base eb W w0 va vb vf st sc sps stp (scp ++ [m]) off ex ser nser L B) (hu : Upd (fun _ => False) w0 w) (hb : w0.heap.size ≤ b) (hB : Blk w b cs t) (off' : Int) (ho : (if m.2.2.2 = ser then m.1 else off) = off') :
    Calls Try.prog 18 #[.pointer (some ⟨eb, 0, none⟩)] w fun e w' => e = .returned (.tuple #[.int .i64 m.2.1, .int .i64 m.2.2.1]) ∧ MT base eb W w' va vb vf st sc sps stp scp off' ex ser nser L B ∧ Blk w' b cs t := by
  subst ho
  obtain ⟨s, ⟨col, h1⟩, h2, h3, h4⟩ := h
  obtain ⟨k, x0, x4, n, p1, p2, p3⟩ := h2.popscope
  have h1' := keepcol h1 hu
  exact (popscope w base eb _ s k x0 m.1 m.2.1 m.2.2.1 x4 n h1'.env p1 p2).mono fun e w' ⟨k1, k2⟩ => ⟨k1, ⟨_, h1'.nxt k2, p3, h3, h4⟩, by
    obtain ⟨col', _, _, hv⟩ := k2
    exact hB.kept hv (fun m => by have := m.2; simp only [if_neg (show ¬ b < w0.heap.size by omega)] at this; omega)⟩
theorem MT.offset (h : MT base eb W w va vb vf st sc sps stp scp off ex ser nser L B) :
    Calls Try.prog 21 #[.pointer (some ⟨eb, 0, none⟩)] w fun e w' => e = .returned (.int .i64 off) ∧ w = w' := by
  obtain ⟨s, h1, h2, h3, h4⟩ := h
  exact s_offset h1.at h2.off
theorem MT.expdepth (h : MT base eb W w va vb vf st sc sps stp scp off ex ser nser L B) :
    Calls Try.prog 22 #[.pointer (some ⟨eb, 0, none⟩)] w fun e w' => e = .returned (.int .i64 ex) ∧ w = w' := by
  obtain ⟨s, h1, h2, h3, h4⟩ := h
  exact s_expdepth h1.at h2.ex
theorem MT.forks {n : Nat} (h : MT base eb W w va vb vf st sc sps stp scp off ex ser nser L B) (hn : L.length = n) :
    Calls Try.prog 20 #[.pointer (some ⟨eb, 0, none⟩)] w fun e w' => e = .returned (.int .i64 n) ∧ w = w' := by
  obtain ⟨s, h1, h2, h3, h4⟩ := h
  exact s_forks h1.at (by rw [h2.lens.2.2.2.2]; exact hn)
theorem MT.sempty (h : MT base eb W w va vb vf st sc sps stp scp off ex ser nser L B) (b : Bool) (hb : stp = [] ↔ b = true) :
    Calls Try.prog 23 #[.pointer (some ⟨eb, 0, none⟩)] w fun e w' => e = .returned (.bool b) ∧ w = w' := by
  obtain ⟨s, h1, h2, h3, h4⟩ := h
  exact s_sempty h1.at (by
    have := h2.lens.2.2.1.trans hb
    cases b <;> simp at this ⊢ <;> omega)
theorem MT.cempty (h : MT base eb W w va vb vf st sc sps stp scp off ex ser nser L B) (b : Bool) (hb : scp = [] ↔ b = true) :
    Calls Try.prog 24 #[.pointer (some ⟨eb, 0, none⟩)] w fun e w' => e = .returned (.bool b) ∧ w = w' := by
  obtain ⟨s, h1, h2, h3, h4⟩ := h
  exact s_cempty h1.at (by
    have := h2.lens.2.2.2.1.trans hb
    cases b <;> simp at this ⊢ <;> omega)
theorem MT.appA {g cap H : Nat} {z : Int} {o : Obj} (h : MT base eb W w va vb vf st sc sps stp scp off ex ser nser L B)
    (ho : w'.ownsRow base 3 1 (.slice (some ⟨g, 0, none⟩) (st.length + 1) cap) (st.length + 1) (ic st ++ [.int .i64 z])) (hg : (w.alloc o).grownBy w' va.ownBlock) (hat : va.ownBlock = some g ∨ g = H) (hH : (w.alloc o).heap.size ≤ H) : MT base eb W w' (.slice (some ⟨g, 0, none⟩) (st.length + 1) cap) vb vf (st ++ [z]) sc sps stp scp off ex ser nser L B := by
  obtain ⟨s, h1, h2⟩ := h
  exact ⟨s, h1.appA ho hg hat hH, h2⟩
theorem MT.appB {g cap H : Nat} {m : Ms} {o : Obj} (h : MT base eb W w va vb vf st sc sps stp scp off ex ser nser L B)
    (ho : w'.ownsRow base 42 4 (.slice (some ⟨g, 0, none⟩) (sc.length + 1) cap) (sc.length + 1) (mcs sc ++ mc m)) (hg : (w.alloc o).grownBy w' vb.ownBlock) (hat : vb.ownBlock = some g ∨ g = H) (hH : (w.alloc o).heap.size ≤ H) : MT base eb W w' va (.slice (some ⟨g, 0, none⟩) (sc.length + 1) cap) vf st (sc ++ [m]) sps stp scp off ex ser nser L B := by
  obtain ⟨s, h1, h2⟩ := h
  exact ⟨s, h1.appB ho hg hat hH, h2⟩
theorem MT.appF {g cap H z1 z2 : Nat} {sp : Sp} {w1 : World} {o : Obj} (h : MT base eb W w va vb vf st sc sps stp scp off ex ser nser L B) (hb : Below w.heap.size w w1)
    (o1 : w1.ownsRow z1 3 1 sp.sv sp.st.length (ic sp.st)) (hz1 : w.heap.size ≤ z1) (o2 : w1.ownsRow z2 42 4 sp.cv sp.sc.length (mcs sp.sc)) (hz2 : ∀ k, sp.sv.ownBlock = some k → k < z2) (hz : w.heap.size ≤ z2)
    (ho : w'.ownsRow base 40 6 (.slice (some ⟨g, 0, none⟩) (sps.length + 1) cap) (sps.length + 1) (pcss sps ++ pcs sp)) (hg : (w1.alloc o).grownBy w' vf.ownBlock) (hat : vf.ownBlock = some g ∨ g = H) (hH : (w1.alloc o).heap.size ≤ H) : MT base eb W w' va vb (.slice (some ⟨g, 0, none⟩) (sps.length + 1) cap) st sc (sps ++ [sp]) stp scp off ex ser nser L B := by
  obtain ⟨s, h1, h2⟩ := h
  exact ⟨s, h1.appF hb o1 hz1 o2 hz2 hz ho hg hat hH, h2⟩
theorem MT.popF {g cap : Nat} {sp : Sp} {r : List Sp} (h : MT base eb W w va vb (.slice (some ⟨g, 0, none⟩) (r.length + 1) cap) st sc (r ++ [sp]) stp scp off ex ser nser L B) : MT base eb W w sp.sv sp.cv (.slice (some ⟨g, 0, none⟩) r.length cap) sp.st sp.sc r stp scp off ex ser nser L B := by
  obtain ⟨s, h1, h2⟩ := h
  exact ⟨s, h1.popF, h2⟩
theorem MT.cutA {g cap : Nat} {v : Int} {r : List Int} (h : MT base eb W w (.slice (some ⟨g, 0, none⟩) (r.length + 1) cap) vb vf (r ++ [v]) sc sps stp scp off ex ser nser L B) : MT base eb W w (.slice (some ⟨g, 0, none⟩) r.length cap) vb vf r sc sps stp scp off ex ser nser L B := by
  obtain ⟨s, h1, h2⟩ := h
  exact ⟨s, h1.cutA, h2⟩
theorem MT.cutB {g cap : Nat} {m : Ms} {r : List Ms} (h : MT base eb W w va (.slice (some ⟨g, 0, none⟩) (r.length + 1) cap) vf st (r ++ [m]) sps stp scp off ex ser nser L B) : MT base eb W w va (.slice (some ⟨g, 0, none⟩) r.length cap) vf st r sps stp scp off ex ser nser L B := by
  obtain ⟨s, h1, h2⟩ := h
  exact ⟨s, h1.cutB, h2⟩
theorem MT.ft (h : MT base eb W w va vb vf st sc sps stp scp off ex ser nser L B) : ∃ s, FT base eb W w s va vb vf st sc sps := by
  obtain ⟨s, h1, h2⟩ := h
  exact ⟨s, h1⟩
theorem MT.lastA {v : Int} {r : List Int} (h : MT base eb W w va vb vf (r ++ [v]) sc sps stp scp off ex ser nser L B) : ∃ g cap, va = .slice (some ⟨g, 0, none⟩) (r.length + 1) cap ∧ r.length + 1 ≤ cap := by
  obtain ⟨s, h1⟩ := h.ft; exact h1.lastA
theorem MT.lastB {m : Ms} {r : List Ms} (h : MT base eb W w va vb vf st (r ++ [m]) sps stp scp off ex ser nser L B) : ∃ g cap, vb = .slice (some ⟨g, 0, none⟩) (r.length + 1) cap ∧ r.length + 1 ≤ cap := by
  obtain ⟨s, h1⟩ := h.ft; exact h1.lastB
theorem MT.lastF {sp : Sp} {r : List Sp} (h : MT base eb W w va vb vf st sc (r ++ [sp]) stp scp off ex ser nser L B) : ∃ g cap, vf = .slice (some ⟨g, 0, none⟩) (r.length + 1) cap ∧ r.length + 1 ≤ cap := by
  obtain ⟨s, h1⟩ := h.ft; exact h1.lastF
theorem MT.cellA {g cap : Nat} {v : Int} {r : List Int} (h : MT base eb W w (.slice (some ⟨g, 0, none⟩) (r.length + 1) cap) vb vf (r ++ [v]) sc sps stp scp off ex ser nser L B) : w.cell? ⟨g, r.length, none⟩ = some (.int .i64 v) := by
  obtain ⟨s, h1⟩ := h.ft; exact h1.cellA
theorem MT.cellB {g cap : Nat} {m : Ms} {r : List Ms} (h : MT base eb W w va (.slice (some ⟨g, 0, none⟩) (r.length + 1) cap) vf st (r ++ [m]) sps stp scp off ex ser nser L B) :
    w.cell? ⟨g, r.length * 4, none⟩ = some (.int .i64 m.1) ∧ w.cell? ⟨g, r.length * 4 + 1, none⟩ = some (.int .i64 m.2.1) ∧ w.cell? ⟨g, r.length * 4 + 2, none⟩ = some (.int .i64 m.2.2.1) ∧ w.cell? ⟨g, r.length * 4 + 3, none⟩ = some (.int .i64 m.2.2.2) ∧ g < w.heap.size := by
  obtain ⟨s, h1⟩ := h.ft
  have hc := h1.cellB
  exact ⟨hc 0 (by omega), hc 1 (by omega), hc 2 (by omega), hc 3 (by omega), (h1.ownB.lt g rfl).2⟩
theorem MT.cellF {g cap : Nat} {sp : Sp} {r : List Sp} (h : MT base eb W w va vb (.slice (some ⟨g, 0, none⟩) (r.length + 1) cap) st sc (r ++ [sp]) stp scp off ex ser nser L B) :
    w.cell? ⟨g, r.length * 6, none⟩ = some (.int .i64 sp.pc) ∧ w.cell? ⟨g, r.length * 6 + 1, none⟩ = some sp.sv ∧ w.cell? ⟨g, r.length * 6 + 2, none⟩ = some sp.cv ∧ w.cell? ⟨g, r.length * 6 + 3, none⟩ = some (.int .i64 sp.off) ∧ w.cell? ⟨g, r.length * 6 + 4, none⟩ = some (.int .i64 sp.ex) ∧ w.cell? ⟨g, r.length * 6 + 5, none⟩ = some (.int .i64 sp.ser) ∧ g < w.heap.size := by
  obtain ⟨s, h1⟩ := h.ft
  have hc := h1.cellF
  exact ⟨hc 0 (by omega), hc 1 (by omega), hc 2 (by omega), hc 3 (by omega), hc 4 (by omega), hc 5 (by omega), (h1.ownF.lt g rfl).2⟩
/-- the forms of the last snapshot's slices -/
theorem MT.formS {sp : Sp} {r : List Sp} (h : MT base eb W w va vb vf st sc (r ++ [sp]) stp scp off ex ser nser L B) : (∃ ao cp, sp.sv = .slice ao sp.st.length cp) ∧ ∃ ao cp, sp.cv = .slice ao sp.sc.length cp := by
  obtain ⟨s, ⟨col, h1⟩⟩ := h.ft
  obtain ⟨k1, k2⟩ := h1.sn r.length sp (by simp)
  exact ⟨own_slice k1.row, own_slice k2.row⟩
end
end Go.Proofs.Ytemifkcgmfincaa.snapc
