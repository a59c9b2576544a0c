/- The compiler beside blocks of the statement's own; its doors in these terms. -/
import Derived.Test.YtmfpmpbilekbgaaPlain
set_option linter.unusedVariables false
namespace Go.Proofs.Ytmfpmpbilekbgaa.state
open Go.ChangeShapes Go.WideShapes Go.ChangeAt Go.RowKit
open upd comp grow add lookv var newc push wrap pushv lookf doors zs guard model plain

/-- the compiler at base has the scopes L; the blocks of 'own' stand beside it, known whole; nothing below base has changed since wc -/
def PS (base bb : Nat) (wc : World) (L : List Sc) (cnt : Int) (own : List (Nat × Array Value × TypeId)) (w : World) : Prop :=
  (∃ col sv bs, CompAt base w col base (.slice none 0 0) bb sv bs ⟨0, [], []⟩ L cnt ∧ ∀ o ∈ own, Blk w o.1 o.2.1 o.2.2 ∧ col o.1 = 0) ∧ Below base wc w ∧ base ≤ w.heap.size
theorem PS.blk {base bb : Nat} {wc w : World} {L : List Sc} {cnt : Int} {own : List (Nat × Array Value × TypeId)} (h : PS base bb wc L cnt own w) {n : Nat} {cs : Array Value} {t : TypeId} (ho : (n, cs, t) ∈ own) : Blk w n cs t := by
  obtain ⟨⟨col, sv, bs, hC, h1⟩, _⟩ := h
  exact (h1 _ ho).1
theorem PS.start {base bb : Nat} {wc w : World} {L : List Sc} {cnt : Int} {col : Nat → Nat} {sv : Value} {bs : List Nat} (h : CompAt base w col base (.slice none 0 0) bb sv bs ⟨0, [], []⟩ L cnt) (hb : Below base wc w) (hs : base ≤ w.heap.size) : PS base bb wc L cnt [] w :=
  ⟨⟨col, sv, bs, h, fun o ho => by cases ho⟩, hb, hs⟩
theorem PS.alloc {base bb : Nat} {wc w : World} {L : List Sc} {cnt : Int} {own : List (Nat × Array Value × TypeId)} (h : PS base bb wc L cnt own w) (cs : Array Value) (t : TypeId) : PS base bb wc L cnt ((w.heap.size, cs, t) :: own) (w.alloc (.cells cs t)) := by
  obtain ⟨⟨col, sv, bs, hC, h1⟩, hb, hs⟩ := h
  refine ⟨⟨cut col w.heap.size, sv, bs, enter hC _, fun o ho => ?_⟩, hb.alloc hs _, by simp; omega⟩
  rcases List.mem_cons.1 ho with rfl | ho
  · exact ⟨Blk.new _ _ _, cut_new _ _ _ (Nat.le_refl _)⟩
  · exact ⟨(h1 o ho).1.alloc _, (cut_old _ _ _ (h1 o ho).1.lt).trans (h1 o ho).2⟩
/-- behind a step of the compiler -/
theorem PS.now {base bb : Nat} {wc w w' : World} {L L' : List Sc} {cnt cnt' : Int} {own : List (Nat × Array Value × TypeId)} {col : Nat → Nat} {sv : Value} {bs : List Nat} (h1 : ∀ o ∈ own, Blk w o.1 o.2.1 o.2.2 ∧ col o.1 = 0) (hb : Below base wc w) (hs : base ≤ w.heap.size) (hN : Now base w col base (.slice none 0 0) bb ⟨0, [], []⟩ L' cnt' w') : PS base bb wc L' cnt' own w' := by
  have hb2 := now_below hN hs
  obtain ⟨col', sv', bs', hX, hC'⟩ := hN
  refine ⟨⟨col', sv', bs', hC', fun o ho => ⟨(h1 o ho).1.kept hX.upd (fun s => by have := s.2; have := (h1 o ho).2; omega), (hX.old _ (h1 o ho).1.lt).trans (h1 o ho).2⟩⟩, hb.trans hb2, Nat.le_trans hs hX.upd.size⟩
theorem PS.below {base bb : Nat} {wc w w' : World} {L : List Sc} {cnt : Int} {own : List (Nat × Array Value × TypeId)} (h : PS base bb wc L cnt own w) (hu : Below w.heap.size w w') : PS base bb wc L cnt own w' := by
  obtain ⟨⟨col, sv, bs, hC, h1⟩, hb, hs⟩ := h
  have hup : Upd (fun _ => False) w w' := Upd.of_below hu
  refine ⟨⟨cut col w.heap.size, sv, bs, hC.step hup (fun _ h => h.elim) (fun k hk => cut_old _ _ _ hk), fun o ho => ⟨(h1 o ho).1.kept hup id, (cut_old _ _ _ (h1 o ho).1.lt).trans (h1 o ho).2⟩⟩, hb.trans (hu.mono hs), Nat.le_trans hs hu.size⟩

theorem PS.push {base bb : Nat} {wc w : World} {L : List Sc} {s : Sc} {cnt : Int} {own : List (Nat × Array Value × TypeId)} (h : PS base bb wc (L ++ [s]) cnt own w) (nm : ByteArray) (hn : L.length ≤ 2097152) (hf : s.vars.length ≤ 2097152) :
    Calls Try.prog 42 #[.pointer (some ⟨base, 0, none⟩), .string nm] w fun e w' => ∃ (j : Nat) (s1 : Sc), e = .returned (.agg #[.int .i64 s.id, .int .i64 j]) ∧ PS base bb wc (L ++ [s1]) cnt own w' ∧
      ((s.vars[j]? = some nm ∧ NoneTo s.vars nm j ∧ s1 = s) ∨ (NoneTo s.vars nm s.vars.length ∧ j = s.vars.length ∧ s1 = { s with vars := s.vars ++ [nm] })) := by
  obtain ⟨⟨col, sv, bs, hC, h1⟩, hb, hs⟩ := h
  refine (zpush hC nm hn hf hs).mono fun e w' hp => ?_
  rcases hp with ⟨j, a1, a2, rfl, hN⟩ | ⟨a2, rfl, hN⟩
  · exact ⟨j, s, rfl, PS.now (L := L ++ [s]) (cnt := cnt) (sv := sv) (bs := bs) h1 hb hs hN, .inl ⟨a1, a2, rfl⟩⟩
  · exact ⟨_, _, rfl, PS.now (L := L ++ [s]) (cnt := cnt) (sv := sv) (bs := bs) h1 hb hs hN, .inr ⟨a2, rfl, rfl⟩⟩
theorem PS.look {base bb : Nat} {wc w : World} {L : List Sc} {cnt : Int} {own : List (Nat × Array Value × TypeId)} (h : PS base bb wc L cnt own w) (nm : ByteArray) (hn : L.length ≤ 2097152) (hv : ∀ (k : Nat) (s : Sc), L[k]? = some s → s.vars.length ≤ 2097152) :
    Calls Try.prog 32 #[.pointer (some ⟨base, 0, none⟩), .string nm] w fun e w' => ∃ (ia ib : Int) (er : Value), e = .returned (.tuple #[.agg #[.int .i64 ia, .int .i64 ib], er]) ∧ Res L nm ia ib er ∧ PS base bb wc L cnt own w' ∧ Below w.heap.size w w' := by
  have hh := h
  obtain ⟨⟨col, sv, bs, hC, h1⟩, hb, hs⟩ := h
  refine (zlook hC nm hn hv).mono fun e w' ⟨hl, hu⟩ => ?_
  obtain ⟨ia, ib, er, he, hr⟩ := look_parts hl
  exact ⟨ia, ib, er, he, hr, hh.below hu, hu⟩
theorem PS.drew {base bb : Nat} {wc w : World} {L : List Sc} {cnt : Int} {own : List (Nat × Array Value × TypeId)} (h : PS base bb wc L cnt own w) (d : Nat) : PS base bb wc L cnt own (w.drewN d) :=
  h.below ⟨rfl, rfl, rfl, Nat.le_refl _, fun _ _ => rfl⟩
theorem PS.lookF {base bb : Nat} {wc w : World} {L : List Sc} {cnt : Int} {own : List (Nat × Array Value × TypeId)} (h : PS base bb wc L cnt own w) (nm : ByteArray) (hn : L.length ≤ 2097152) (hv : ∀ (k : Nat) (s : Sc), L[k]? = some s → s.vars.length ≤ 2097152 ∧ s.funcs.length ≤ 2097152) (h0 : 0 < nm.size) (isF : Bool) (hisF : (((nm[0]'h0).toNat : Int) != 36) = isF) :
    Calls Try.prog 31 #[.pointer (some ⟨base, 0, none⟩), .string nm] w fun e w' => (∃ n, w' = w.drewN n) ∧ LookF L nm isF w e := by
  obtain ⟨⟨col, sv, bs, hC, h1⟩, hb, hs⟩ := h
  exact zlookF hC nm hn hv h0 isF hisF

/-- the first and the last place of the name ahead of j -/
def FL (vs : List ByteArray) (nm : ByteArray) (j : Nat) (f l : Int) : Prop :=
  (f = -1 ∧ l = -1 ∧ NoneTo vs nm j) ∨ ∃ p q : Nat, f = p ∧ l = q ∧ vs[p]? = some nm ∧ NoneTo vs nm p ∧ vs[q]? = some nm ∧ q < j ∧ ∀ t, q < t → t < j → vs[t]? ≠ some nm
theorem FL.start (vs : List ByteArray) (nm : ByteArray) : FL vs nm 0 (-1) (-1) := .inl ⟨rfl, rfl, fun t h => by omega⟩
theorem FL.miss {vs : List ByteArray} {nm x : ByteArray} {j : Nat} {f l : Int} (h : FL vs nm j f l) (hx : vs[j]? = some x) (hne : ¬ x = nm) : FL vs nm (j + 1) f l := by
  have hn : vs[j]? ≠ some nm := fun e => by rw [hx] at e; cases e; exact hne rfl
  rcases h with ⟨h1, h2, h3⟩ | ⟨p, q, h1, h2, h3, h4, h5, h6, h7⟩
  · exact .inl ⟨h1, h2, fun t ht => by
      rcases Nat.lt_or_ge t j with hlt | hge
      · exact h3 t hlt
      · obtain rfl : t = j := by omega
        exact hn⟩
  · exact .inr ⟨p, q, h1, h2, h3, h4, h5, by omega, fun t ht1 ht2 => by
      rcases Nat.lt_or_ge t j with hlt | hge
      · exact h7 t ht1 hlt
      · obtain rfl : t = j := by omega
        exact hn⟩
theorem FL.first {vs : List ByteArray} {nm : ByteArray} {j : Nat} {f l : Int} (h : FL vs nm j f l) (hx : vs[j]? = some nm) (hf : f < 0) : FL vs nm (j + 1) j j := by
  rcases h with ⟨h1, h2, h3⟩ | ⟨p, q, h1, _⟩
  · exact .inr ⟨j, j, rfl, rfl, hx, h3, hx, by omega, fun t h1 h2 => by omega⟩
  · omega
theorem FL.later {vs : List ByteArray} {nm : ByteArray} {j : Nat} {f l : Int} (h : FL vs nm j f l) (hx : vs[j]? = some nm) (hf : ¬ f < 0) : FL vs nm (j + 1) f j := by
  rcases h with ⟨h1, h2, h3⟩ | ⟨p, q, h1, h2, h3, h4, _⟩
  · omega
  · exact .inr ⟨p, j, h1, rfl, h3, h4, hx, by omega, fun t h1 h2 => by omega⟩
/-- what a push answers of s, and the scope behind it -/
def Pushed (s : Sc) (nm : ByteArray) (j : Nat) (s1 : Sc) : Prop := (s.vars[j]? = some nm ∧ NoneTo s.vars nm j ∧ s1 = s) ∨ (NoneTo s.vars nm s.vars.length ∧ j = s.vars.length ∧ s1 = { s with vars := s.vars ++ [nm] })
theorem res_top {L : List Sc} {s : Sc} {nm : ByteArray} {ia ib : Int} {er : Value} {q : Nat} (h : Res (L ++ [s]) nm ia ib er) (hq : LastIn s.vars nm q) : er = .nilIface ∧ ia = s.id ∧ ib = q := by
  have htop : (L ++ [s])[L.length]? = some s := by simp
  rcases h with ⟨e0, k, j, s', ⟨hL, hl, hf⟩, e1, e2⟩ | ⟨hf, _⟩
  · have hk : k = L.length := by
      have hk1 := (List.getElem?_eq_some_iff.1 hL).1
      simp at hk1
      rcases Nat.lt_or_ge k L.length with hlt | hge
      · exact (hf L.length s (by omega) htop q (Nat.zero_le _) hq.1).elim
      · omega
    subst hk
    rw [htop] at hL; cases hL
    have : j = q := by
      rcases Nat.lt_trichotomy j q with h1 | h1 | h1
      · exact (hl.2 q h1 hq.1).elim
      · exact h1
      · exact (hq.2 j h1 hl.1).elim
    exact ⟨e0, e1, by rw [e2, this]⟩
  · exact (hf L.length s (Nat.zero_le _) htop q (Nat.zero_le _) hq.1).elim
theorem found_eq {L : List Sc} {nm : ByteArray} {k j k' j' : Nat} {s s' : Sc} (h : lookv.Found L nm k j s) (h' : lookv.Found L nm k' j' s') : k = k' ∧ j = j' ∧ s = s' := by
  obtain ⟨a1, a2, a3⟩ := h
  obtain ⟨b1, b2, b3⟩ := h'
  have hk : k = k' := by
    rcases Nat.lt_trichotomy k k' with h | h | h
    · exact (a3 k' s' (by omega) b1 j' (Nat.zero_le _) b2.1).elim
    · exact h
    · exact (b3 k s (by omega) a1 j (Nat.zero_le _) a2.1).elim
  subst hk
  rw [a1] at b1; cases b1
  refine ⟨rfl, ?_, rfl⟩
  rcases Nat.lt_trichotomy j j' with h | h | h
  · exact (a2.2 j' h b2.1).elim
  · exact h
  · exact (b2.2 j h a2.1).elim
theorem res_found {L : List Sc} {nm : ByteArray} {ia ib : Int} {er : Value} {k j : Nat} {s : Sc} (h : Res L nm ia ib er) (hf : lookv.Found L nm k j s) : er = .nilIface ∧ ia = s.id ∧ ib = j := by
  rcases h with ⟨e0, k', j', s', hF, e1, e2⟩ | ⟨hF, _⟩
  · obtain ⟨_, rfl, rfl⟩ := found_eq hF hf
    exact ⟨e0, e1, e2⟩
  · exact (hF k s (Nat.zero_le _) hf.1 j (Nat.zero_le _) hf.2.1.1).elim
theorem res_free {L : List Sc} {nm : ByteArray} {ia ib : Int} {er : Value} (h : Res L nm ia ib er) (hf : FreeFrom L nm 0) : ia = 0 ∧ ib = 0 ∧ ∃ t v, er = .iface t v := by
  rcases h with ⟨e0, k', j', s', hF, e1, e2⟩ | ⟨_, h1, h2, h3⟩
  · exact (hf k' s' (Nat.zero_le _) hF.1 j' (Nat.zero_le _) hF.2.1.1).elim
  · exact ⟨h1, h2, h3⟩
theorem pushes {L : List Sc} {s s1 s2 : Sc} {nm : ByteArray} {j1 j2 : Nat} {f l ia ib : Int} {er : Value} (h : FL s.vars nm s.vars.length f l) (p1 : Pushed s nm j1 s1) (p2 : Pushed s1 nm j2 s2) (hr : Res (L ++ [s2]) nm ia ib er) :
    er = .nilIface ∧ ia = s.id ∧ ((f = -1 ∧ l = -1 ∧ (j1 : Int) = s.vars.length ∧ (j2 : Int) = s.vars.length ∧ ib = s.vars.length) ∨ (0 ≤ f ∧ (j1 : Int) = f ∧ (j2 : Int) = f ∧ ib = l)) := by
  have uniq : ∀ (vs : List ByteArray) (a b : Nat), vs[a]? = some nm → NoneTo vs nm a → vs[b]? = some nm → NoneTo vs nm b → a = b := fun vs a b h1 h2 h3 h4 => by
    rcases Nat.lt_trichotomy a b with h | h | h
    · exact (h4 a h h1).elim
    · exact h
    · exact (h2 b h h3).elim
  rcases p1 with ⟨a1, a2, rfl⟩ | ⟨a1, a2, rfl⟩
  · have hj1 := (List.getElem?_eq_some_iff.1 a1).1
    rcases p2 with ⟨b1, b2, rfl⟩ | ⟨b1, _⟩
    · have e := uniq _ _ _ a1 a2 b1 b2
      rcases h with ⟨_, _, h3⟩ | ⟨p, q, h1, h2, h3, h4, h5, h6, h7⟩
      · exact (h3 j1 hj1 a1).elim
      · have e2 := uniq _ _ _ a1 a2 h3 h4
        obtain ⟨r1, r2, r3⟩ := res_top (q := q) hr ⟨h5, fun t ht e => h7 t ht (List.getElem?_eq_some_iff.1 e).1 e⟩
        exact ⟨r1, r2, .inr ⟨by omega, by omega, by omega, by omega⟩⟩
    · exact (b1 j1 hj1 a1).elim
  · have hnm : (s.vars ++ [nm])[s.vars.length]? = some nm := by simp
    have hno : NoneTo (s.vars ++ [nm]) nm s.vars.length := fun t ht e => by
      rw [List.getElem?_append_left ht] at e; exact a1 t ht e
    rcases p2 with ⟨b1, b2, rfl⟩ | ⟨b1, _⟩
    · have e := uniq _ _ _ hnm hno b1 b2
      rcases h with ⟨h1, h2, h3⟩ | ⟨p, q, h1, h2, h3, h4, h5, h6, h7⟩
      · obtain ⟨r1, r2, r3⟩ := res_top (q := s.vars.length) hr ⟨hnm, fun t ht e => by rw [List.getElem?_eq_none (by simp; omega)] at e; cases e⟩
        exact ⟨r1, r2, .inl ⟨h1, h2, by omega, by omega, by omega⟩⟩
      · exact (a1 p (List.getElem?_eq_some_iff.1 h3).1 h3).elim
    · exact (b1 s.vars.length (by simp) hnm).elim
end Go.Proofs.Ytmfpmpbilekbgaa.state
