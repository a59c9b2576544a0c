/- A builtin's own scope: the builtin scope under a new one (f39); what the look-ups answer there. -/
import Derived.Test.YtmfpmpbilekbgaaSame
set_option linter.unusedVariables false
namespace Go.Proofs.Ytmfpmpbilekbgaa.use
open Go.ChangeShapes Go.WideShapes Go.ChangeAt Go.RowKit
open upd comp grow add lookv var newc push wrap pushv lookf doors codes lazy bi45 body lookb zs guard model plain state pick lay same

/-- the new colours: the builtin scope becomes scope 0 -/
def turn : Nat → Nat
  | 1 => 1
  | 3 => 10
  | 4 => 11
  | 5 => 12
  | 7 => 7
  | _ => 0
def turned (col : Nat → Nat) (n : Nat) : Nat → Nat := fun k => if k = n then 13 else if k = n + 1 then 2 else if k < n then turn (col k) else 0
theorem turned_old (col : Nat → Nat) {n k : Nat} (h : k < n) : turned col n k = turn (col k) := by unfold turned; rw [if_neg (by omega), if_neg (by omega), if_pos h]
theorem turned_new (col : Nat → Nat) (n : Nat) : turned col n n = 13 ∧ turned col n (n + 1) = 2 := by
  unfold turned; exact ⟨if_pos rfl, by rw [if_neg (by omega)]; exact if_pos rfl⟩
theorem Ptrs.turn {base : Nat} {w w' : World} {col : Nat → Nat} {e : TypeId} {c c' : Nat} {v : Value} {ps : List Nat} {A A' : Nat → Nat → Prop} {S : Nat → Prop} (h : Ptrs base w col e c v ps A) (hu : Upd S w w') (hS : ∀ k, S k → k < w.heap.size → col k ≠ c ∧ col k ≠ 7) (hc : turn c = c')
    (hA : ∀ j p, ¬ S p → A j p → A' j p) : Ptrs base w' (turned col w.heap.size) e c' v ps A' :=
  ⟨own_kept h.row hu (fun g hg s => (hS g s (h.row.lt g hg).2).1 (h.clr g hg)), fun g hg => by rw [turned_old col (h.row.lt g hg).2, h.clr g hg]; exact hc, fun j p hp => by
    obtain ⟨⟨h1, h2, h3⟩, h4⟩ := h.at' j p hp
    exact ⟨⟨h1, Nat.lt_of_lt_of_le h2 hu.size, by rw [turned_old col h2, h3]; rfl⟩, hA j p (fun s => (hS p s h2).2 h3) h4⟩⟩
theorem fin_use {base c bb : Nat} {w w' : World} {col : Nat → Nat} {cv sv V : Value} {bs : List Nat} {B : Sc} {L : List Sc} {cnt : Int} (h : CompAt base w col c cv bb sv bs B L cnt) (hB : B.id = 0) (hu : Upd (· = c) w w') (hb : base ≤ w.heap.size) (hc : Blk w' c (comp cv bb V (cnt + 1)) 95) (hf : Blk w' w.heap.size (fresh cnt) 114) (hg : Blk w' (w.heap.size + 1) #[ptr bb, ptr w.heap.size] 71) (hV : V = .slice (some ⟨w.heap.size + 1, 0, none⟩) 2 2) :
    CompAt base w' (turned col w.heap.size) c cv bb V [bb, w.heap.size] ⟨1, [], []⟩ [B, ⟨cnt, [], []⟩] (cnt + 1) := by
  obtain ⟨vv, fv, ps, fs, hS⟩ := h.bi hB
  have hcl := h.blk.lt
  have hcc := h.clr
  have hbl := hS.blk.lt
  have hbc := hS.clr
  refine ⟨hc, by rw [turned_old col hcl, hcc]; rfl, h.low, fun e => (by simp at e), fun _ => rfl, ?_, fun k hk => ?_, rfl, fun k s hk => ?_⟩
  · rw [hV]
    exact ⟨rfl, .inr ⟨w.heap.size + 1, 2, _, rfl, by omega, hg, Nat.le_refl _, by unfold maxLen; omega, rfl, rfl⟩⟩
  · have : w.heap.size + 1 = k := by rw [hV] at hk; simpa [Value.ownBlock] using hk
    rw [← this]; exact (turned_new col _).2
  · match k, hk with
    | 0, hk =>
      simp at hk
      subst hk
      refine ⟨bb, rfl, vv, fv, ps, fs, hS.blk.kept hu (fun e => by rw [e, hcc] at hbc; omega), by rw [turned_old col hbl, hbc]; rfl, hS.low, ?_, ?_, hS.plen, hS.flen⟩
      · exact Ptrs.turn hS.vars hu (fun k s _ => by rw [s, hcc]; omega) rfl (fun j p hn ⟨nm, h1, h2⟩ => ⟨nm, h1, h2.kept hu hn⟩)
      · exact Ptrs.turn hS.funcs hu (fun k s _ => by rw [s, hcc]; omega) rfl (fun j p hn ⟨nm, h1, h2⟩ => ⟨nm, h1, h2.kept hu hn⟩)
    | 1, hk =>
      simp at hk
      subst hk
      exact ⟨w.heap.size, rfl, fresh_in hf (turned_new col _).1 hb⟩
    | k + 2, hk => simp at hk

set_option maxRecDepth 100000 in
set_option maxHeartbeats 2000000 in
theorem use39 {base c bb : Nat} {w : World} {col : Nat → Nat} {cv sv : Value} {bs : List Nat} {B : Sc} {L : List Sc} {cnt : Int} (h : CompAt base w col c cv bb sv bs B L cnt) (hB : B.id = 0) (hb : base ≤ w.heap.size) (h0 : 0 ≤ cnt) (h1 : cnt ≤ 2097152) :
    Calls Try.prog 39 #[.pointer (some ⟨c, 0, none⟩)] w fun e w' => e = .returned (.tuple #[]) ∧ ∃ V, CompAt base w' (turned col w.heap.size) c cv bb V [bb, w.heap.size] ⟨1, [], []⟩ [B, ⟨cnt, [], []⟩] (cnt + 1) ∧ Below base w w' := by
  have c7 : w.cell? ⟨c, 7, none⟩ = some (.pointer (some ⟨bb, 0, none⟩)) := by rw [h.blk.cell]; rfl
  have c8 : w.cell? ⟨c, 8, none⟩ = some sv := by rw [h.blk.cell]; rfl
  have c9 : w.cell? ⟨c, 9, none⟩ = some (.int .i64 cnt) := by rw [h.blk.cell]; rfl
  have f8 := h.blk.free 8
  have f9 := h.blk.free 9
  have l0 := h.blk.lt
  have HNS : Hid (∀ (wr : World), wr.cell? ⟨c, 9, none⟩ = some (.int .i64 cnt) → wr.frozen? ⟨c, 9, none⟩ = false → c < wr.heap.size → Calls Try.prog 44 #[.pointer (some ⟨c, 0, none⟩)] wr fun e w' => e = .returned (.pointer (some ⟨wr.heap.size, 0, none⟩)) ∧ w' = (wr.setCell ⟨c, 9, none⟩ (.int .i64 (cnt + 1))).alloc (.cells (fresh cnt) 114)) := fun wr a1 a2 a3 => newScope wr c cnt a1 a2 a3 h0 h1
  have HAFT : Hid (∀ w3 : World, w3 = (w.drew.setCell ⟨c, 9, none⟩ (.int .i64 (cnt + 1))).alloc (.cells (fresh cnt) 114) →
      w3.cell? ⟨c, 7, none⟩ = some (.pointer (some ⟨bb, 0, none⟩)) ∧ w3.cell? ⟨c, 8, none⟩ = some sv ∧ w3.frozen? ⟨c, 8, none⟩ = false ∧ c < w3.heap.size ∧ w3.heap.size = w.heap.size + 1 ∧
      Hid (∃ V, CompAt base ((w3.setCell ⟨c, 8, none⟩ (.slice (some ⟨w.heap.size + 1, 0, none⟩) 2 2)).alloc (.cells #[.pointer (some ⟨bb, 0, none⟩), .pointer (some ⟨w.heap.size, 0, none⟩)] 71)) (turned col w.heap.size) c cv bb V [bb, w.heap.size] ⟨1, [], []⟩ [B, ⟨cnt, [], []⟩] (cnt + 1) ∧ Below base w ((w3.setCell ⟨c, 8, none⟩ (.slice (some ⟨w.heap.size + 1, 0, none⟩) 2 2)).alloc (.cells #[.pointer (some ⟨bb, 0, none⟩), .pointer (some ⟨w.heap.size, 0, none⟩)] 71)))) := by
    unfold Hid
    intro w3 hw3
    have hu : Upd (· = c) w w3 := by rw [hw3]; exact (Upd.setCell (S := (· = c)) (Upd.refl _ w).drew (p := ⟨c, 9, none⟩) (.inl rfl) _).alloc _
    have hc3 : Blk w3 c (comp cv bb sv (cnt + 1)) 95 := by
      have hd : Blk w.drew c (comp cv bb sv cnt) 95 := h.blk
      have := (hd.set 9 (.int .i64 (cnt + 1))).alloc (.cells (fresh cnt) 114)
      rw [← hw3] at this
      simpa [comp] using this
    have hf3 : Blk w3 w.heap.size (fresh cnt) 114 := by
      have := Blk.new (w.drew.setCell ⟨c, 9, none⟩ (.int .i64 (cnt + 1))) (fresh cnt) 114
      rw [← hw3] at this
      have e : (w.drew.setCell ⟨c, 9, none⟩ (.int .i64 (cnt + 1))).heap.size = w.heap.size := by simp
      rwa [e] at this
    have hs3 : w3.heap.size = w.heap.size + 1 := by rw [hw3]; simp
    refine ⟨by rw [hc3.cell]; rfl, by rw [hc3.cell]; rfl, hc3.free 8, hc3.lt, hs3, .slice (some ⟨w.heap.size + 1, 0, none⟩) 2 2, ?_⟩
    have hu4 : Upd (· = c) w ((w3.setCell ⟨c, 8, none⟩ (.slice (some ⟨w.heap.size + 1, 0, none⟩) 2 2)).alloc (.cells #[.pointer (some ⟨bb, 0, none⟩), .pointer (some ⟨w.heap.size, 0, none⟩)] 71)) := (Upd.setCell (S := (· = c)) hu (p := ⟨c, 8, none⟩) (.inl rfl) _).alloc _
    refine ⟨fin_use h hB hu4 hb ?_ ?_ ?_ rfl, hu4.below hb (fun k e => by rw [e]; exact h.low)⟩
    · have := (hc3.set 8 (.slice (some ⟨w.heap.size + 1, 0, none⟩) 2 2)).alloc (.cells #[.pointer (some ⟨bb, 0, none⟩), .pointer (some ⟨w.heap.size, 0, none⟩)] 71)
      simpa [comp] using this
    · exact (hf3.other (p := ⟨c, 8, none⟩) (show w.heap.size ≠ c by omega) _).alloc _
    · have := Blk.new (w3.setCell ⟨c, 8, none⟩ (.slice (some ⟨w.heap.size + 1, 0, none⟩) 2 2)) #[.pointer (some ⟨bb, 0, none⟩), .pointer (some ⟨w.heap.size, 0, none⟩)] 71
      have e : (w3.setCell ⟨c, 8, none⟩ (.slice (some ⟨w.heap.size + 1, 0, none⟩) 2 2)).heap.size = w.heap.size + 1 := by simp [hs3]
      rw [e] at this; exact this
  clear h hb h0 h1 hB
  go_enter Try.func39, Try.ntmps39
  go_wp2_with fail
  go_region_law (first | (go_simp; go_at_call 44; refine (HNS.out w.drew (by simpa using c9) (by simpa using f9) (by simpa using l0)).mono ?_; rintro e w3 ⟨rfl, hw3⟩; obtain ⟨d7, d8, k8, l3, s3, HFIN⟩ := HAFT.out w3 hw3; clear hw3))
  all_goals go_end0
  all_goals exact ⟨rfl, HFIN.out⟩

/-- the way to a function that stands in scope k's row -/
theorem way_of {base c bb k b j p : Nat} {w : World} {col : Nat → Nat} {cv sv vv fv : Value} {bs ps fs : List Nat} {B s : Sc} {L : List Sc} {cnt : Int} (h : CompAt base w col c cv bb sv bs B L cnt) (hb : bs[k]? = some b) (hS : ScAt base w col (10 + 3 * k) b s vv fv ps fs) (hp : fs[j]? = some p) : lookf.Way w col c 1 k j p := by
  obtain ⟨ao, cp, e1⟩ := slice_form h.row
  have hrow := h.row
  have h8 : w.cell? ⟨c, 8, none⟩ = some sv := by rw [h.blk.cell]; rfl
  have hrc := h.rcol
  rw [e1] at hrow h8 hrc
  obtain ⟨g, rfl, _, _, _, hgl, hc⟩ := row_at hrow hb
  obtain ⟨fa, fc, e2⟩ := slice_form hS.funcs.row
  have hfr := hS.funcs.row
  have hfc := hS.funcs.clr
  have h1 : w.cell? ⟨b, 1, none⟩ = some fv := by rw [hS.blk.cell]; rfl
  rw [e2] at hfr h1 hfc
  obtain ⟨g2, rfl, _, _, _, hgl2, hc2⟩ := row_at hfr hp
  exact ⟨g, _, _, b, g2, _, _, h8, hc, h1, hc2, hgl, hS.blk.lt, hgl2, hrc g rfl, hS.clr, by have := hfc g2 rfl; omega⟩

/-- the last place of the name ahead of j -/
def PL (vs : List ByteArray) (nm : ByteArray) (j : Nat) (l : Int) : Prop :=
  (l = -1 ∧ NoneTo vs nm j) ∨ ∃ q : Nat, l = q ∧ vs[q]? = some nm ∧ q < j ∧ ∀ t, q < t → t < j → vs[t]? ≠ some nm
theorem PL.start (vs : List ByteArray) (nm : ByteArray) : PL vs nm 0 (-1) := .inl ⟨rfl, fun t h => by omega⟩
theorem PL.miss {vs : List ByteArray} {nm x : ByteArray} {j : Nat} {l : Int} (h : PL vs nm j l) (hx : vs[j]? = some x) (hne : ¬ x = nm) : PL vs nm (j + 1) l := by
  have hn : vs[j]? ≠ some nm := fun e => by rw [hx] at e; cases e; exact hne rfl
  rcases h with ⟨h1, h2⟩ | ⟨q, h1, h2, h3, h4⟩
  · exact .inl ⟨h1, fun t ht => by
      rcases Nat.lt_or_ge t j with hlt | hge
      · exact h2 t hlt
      · obtain rfl : t = j := by omega
        exact hn⟩
  · exact .inr ⟨q, h1, h2, by omega, fun t ht1 ht2 => by
      rcases Nat.lt_or_ge t j with hlt | hge
      · exact h4 t ht1 hlt
      · obtain rfl : t = j := by omega
        exact hn⟩
theorem PL.hit {vs : List ByteArray} {nm : ByteArray} {j : Nat} {l : Int} (h : PL vs nm j l) (hx : vs[j]? = some nm) : PL vs nm (j + 1) j := .inr ⟨j, rfl, hx, by omega, fun t h1 h2 => by omega⟩
theorem PL.done {vs : List ByteArray} {nm : ByteArray} {l : Int} (h : PL vs nm vs.length l) : (l = -1 ∧ NoneFrom vs nm 0) ∨ ∃ q : Nat, l = q ∧ LastIn vs nm q := by
  rcases h with ⟨h1, h2⟩ | ⟨q, h1, h2, h3, h4⟩
  · exact .inl ⟨h1, fun t _ e => h2 t (List.getElem?_eq_some_iff.1 e).1 e⟩
  · exact .inr ⟨q, h1, h2, fun t ht e => h4 t ht (List.getElem?_eq_some_iff.1 e).1 e⟩

/-- a parameter is found -/
theorem par_found {F : List (ByteArray × Int × Int)} {vs : List ByteArray} {nm : ByteArray} {w : World} {col : Nat → Nat} {c q : Nat} {e : Ending} (h : LookG [⟨0, [], F⟩, ⟨2, vs, []⟩] nm true w col c e) (hl : LastIn vs nm q) :
    ∃ p, e = .returned (.tuple #[.pointer none, .pointer (some ⟨p, 0, none⟩)]) ∧ VarAt w p nm 2 q := by
  have hnb : ¬ Bare (⟨2, vs, []⟩ : Sc) nm true := fun hb => hb.1 q (Nat.zero_le _) hl.1
  rcases h with ⟨k, j, s, f, p, a1, a2, a3, a4, a5, a6, a7, a8, a9, rfl⟩ | ⟨k, j, s, p, a1, a2, a3, a4, a5, a6, rfl⟩ | ⟨a1, rfl⟩
  · match k, a1 with
    | 0, a1 => exact (hnb (a2 1 _ (by omega) rfl)).elim
    | 1, a1 => simp at a1; subst a1; simp at a4
    | k + 2, a1 => simp at a1
  · match k, a1 with
    | 0, a1 => exact (hnb (a2 1 _ (by omega) rfl)).elim
    | 1, a1 => simp at a1; subst a1; obtain rfl := last_at hl a4; exact ⟨p, rfl, a5⟩
    | k + 2, a1 => simp at a1
  · exact (hnb (a1 1 _ (Nat.zero_le _) rfl)).elim
/-- no parameter: the builtin of that name without arguments, and never a variable -/
theorem par_none {base c bb b : Nat} {w : World} {col : Nat → Nat} {cv sv vv fv : Value} {bs ps fs : List Nat} {B : Sc} {cnt : Int} {F : List (ByteArray × Int × Int)} {vs : List ByteArray} {nm : ByteArray} {e e' : Ending} (hC : CompAt base w col c cv bb sv bs B [⟨0, [], F⟩, ⟨2, vs, []⟩] cnt) (hb : bs[0]? = some b) (hS : ScAt base w col 10 b ⟨0, [], F⟩ vv fv ps fs)
    (h : LookG [⟨0, [], F⟩, ⟨2, vs, []⟩] nm true w col c e) (hl : NoneFrom vs nm 0) (h' : LookB F fs nm 0 w e') : ∃ a : Option Addr, e = .returned (.tuple #[.pointer a, .pointer none]) ∧ e' = .returned (.pointer a) := by
  have hb1 : Bare (⟨2, vs, []⟩ : Sc) nm true := ⟨hl, fun _ t f _ hf => by simp at hf⟩
  rcases h with ⟨k, j, s, f, p, a1, a2, a3, a4, a5, a6, a7, a8, a9, rfl⟩ | ⟨k, j, s, p, a1, a2, a3, a4, a5, a6, rfl⟩ | ⟨a1, rfl⟩
  · match k, a1 with
    | 0, a1 =>
      simp at a1; subst a1
      rcases h' with ⟨j', f', p', b1, b2, b3, b4, b5, b6, rfl⟩ | ⟨b1, rfl⟩
      · obtain rfl := fun_at a4 a5 a6 a7 b1 b2 b3 b4
        obtain rfl := a9.det (way_of (k := 0) hC hb hS b5)
        exact ⟨_, rfl, rfl⟩
      · exact (b1 j f (Nat.zero_le _) a4 ⟨a5, a6⟩).elim
    | 1, a1 => simp at a1; subst a1; simp at a4
    | k + 2, a1 => simp at a1
  · match k, a1 with
    | 0, a1 => simp at a1; subst a1; have := a4.1; simp at this
    | 1, a1 => simp at a1; subst a1; exact (hl j (Nat.zero_le _) a4.1).elim
    | k + 2, a1 => simp at a1
  · rcases h' with ⟨j', f', p', b1, b2, b3, b4, b5, b6, rfl⟩ | ⟨b1, rfl⟩
    · exact ((a1 0 _ (Nat.zero_le _) rfl).2 rfl j' f' (Nat.zero_le _) b1 ⟨b2, b3⟩).elim
    · exact ⟨_, rfl, rfl⟩
end Go.Proofs.Ytmfpmpbilekbgaa.use
