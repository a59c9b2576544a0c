/- pushNewScope: one scope more. -/
import Derived.Test.YtmfpmpbilekbgaaNew
set_option linter.unusedVariables false
namespace Go.Proofs.Ytmfpmpbilekbgaa.push
open Go.ChangeShapes Go.WideShapes Go.ChangeAt Go.RowKit
open upd comp grow add lookv var newc

/-- behind the append: w2 is w but for the compiler's block (its count is one more) and new blocks, b the new scope's block, a is w2 and new blocks, w1 has the longer row -/
theorem fin_push {base c bb b g2 cp2 H : Nat} {w a w1 : World} {col : Nat → Nat} {cv : Value} {sa : Option Addr} {sc : Nat} {bs : List Nat} {B : Sc} {L : List Sc} {cnt : Int} (h : CompAt base w col c cv bb (.slice sa bs.length sc) bs B L cnt) (hbase : base ≤ w.heap.size)
    (hu : Upd (· = c) w a) (hc : Blk a c (comp cv bb (.slice sa bs.length sc) (cnt + 1)) 95) (hb : w.heap.size ≤ b) (hf : Blk a b (fresh cnt) 114)
    (hown : w1.ownsRow base 71 1 (.slice (some ⟨g2, 0, none⟩) (bs.length + 1) cp2) (bs.length + 1) (ptrs bs ++ [ptr b]))
    (hgrow : a.grownBy w1 (Value.slice sa bs.length sc).ownBlock) (hat : (Value.slice sa bs.length sc).ownBlock = some g2 ∨ g2 = H) (hH : a.heap.size ≤ H) :
    w1.cell? ⟨c, 8, none⟩ = some (.slice sa bs.length sc) ∧ w1.frozen? ⟨c, 8, none⟩ = false ∧
    Now base w col c cv bb B (L ++ [⟨cnt, [], []⟩]) (cnt + 1) (w1.setCell ⟨c, 8, none⟩ (.slice (some ⟨g2, 0, none⟩) (bs.length + 1) cp2)) := by
  have hcl := h.blk.lt
  have hal := hu.size
  have hfr : ∀ k, (Value.slice sa bs.length sc).ownBlock = some k → col k = 2 ∧ k < w.heap.size ∧ base ≤ k := fun k hk => ⟨h.rcol k hk, (h.row.lt k hk).2, (h.row.lt k hk).1⟩
  have hcf : some c ≠ (Value.slice sa bs.length sc).ownBlock := fun e => by have := (hfr c e.symm).1; have := h.clr; omega
  have hc1 : Blk w1 c _ 95 := (hgrow.block c hc.lt hcf).trans hc
  have hgc : col g2 = 2 ∨ w.heap.size ≤ g2 := hat.imp (fun e => (hfr g2 e).1) (fun e => by omega)
  have hbg : b ≠ g2 := by
    rcases hat with e | e
    · have := (hfr g2 e).2.1; omega
    · have := hf.lt; omega
  have hcg : c ≠ g2 := by
    rcases hgc with e | e
    · intro e2; rw [← e2, h.clr] at e; omega
    · omega
  have hu1 : Upd (fun k => (Value.slice sa bs.length sc).ownBlock = some k ∨ k = c) w w1 := (hu.mono (fun _ _ e => .inr e)).grown hgrow (fun k hk => .inl (.inl hk))
  obtain ⟨V, hV⟩ : ∃ V, V = Value.slice (some ⟨g2, 0, none⟩) (bs.length + 1) cp2 := ⟨_, rfl⟩
  have hu2 : Upd (fun k => (Value.slice sa bs.length sc).ownBlock = some k ∨ k = c) w (w1.setCell ⟨c, 8, none⟩ V) := hu1.setCell (.inl (.inr rfl)) _
  have hc2 : ∀ k, ((Value.slice sa bs.length sc).ownBlock = some k ∨ k = c) → (col k = 1 ∨ col k = 2) ∧ base ≤ k := fun k hk => hk.elim (fun e => ⟨.inr (hfr k e).1, (hfr k e).2.2⟩) (fun e => by rw [e]; exact ⟨.inl h.clr, h.low⟩)
  have hk := re2_old (col := col) (w := w) (a := 2) (b := 10 + 3 * L.length) hgc hb
  have hfb : Blk w1 b (fresh cnt) 114 := (hgrow.block b hf.lt (fun e => by have := (hfr b e.symm).2.1; omega)).trans hf
  refine ⟨by rw [hc1.cell]; rfl, hc1.free 8, re2 col w.heap.size g2 2 b (10 + 3 * L.length), V, bs ++ [b], ?_⟩
  rw [← hV]
  refine ⟨⟨hk, hu2.mono (fun k _ hs => ⟨(hc2 k hs).2, by have := (hc2 k hs).1; omega⟩)⟩, ?_, (hk c hcl).trans h.clr, h.low, fun e => (h.bi e).step hu2 (fun k s l => by have := (hc2 k s).1; omega) hk, fun e => (by rw [List.getElem?_append_left (List.getElem?_eq_some_iff.1 (h.al e)).1]; exact h.al e), ?_, fun k hk2 => ?_, by simp [h.len], fun k t ht => ?_⟩
  · have := hc1.set 8 V
    simpa [comp] using this
  · rw [ptrs_snoc, List.length_append]
    exact own_kept (hV ▸ hown) ((Upd.refl (· = c) w1).setCell (.inl rfl) _) (fun g hg e => by
      rw [hV] at hg
      have : g2 = g := by simpa [Value.ownBlock] using hg
      omega)
  · rw [hV] at hk2
    have : g2 = k := by simpa [Value.ownBlock] using hk2
    rw [← this]; exact re2_at _ _ _ _ _ _
  · rcases Nat.lt_or_ge k L.length with hlt | hge
    · rw [List.getElem?_append_left hlt] at ht
      obtain ⟨b', h1, h2⟩ := h.sc k t ht
      refine ⟨b', ?_, h2.step hu2 (fun j s l => by have := (hc2 j s).1; omega) hk⟩
      rw [List.getElem?_append_left (by rw [h.len]; exact hlt)]; exact h1
    · have hkL : k = L.length := by
        have := (List.getElem?_eq_some_iff.1 ht).1; simp at this; omega
      subst hkL
      simp at ht
      subst ht
      refine ⟨b, by rw [← h.len]; simp, fresh_in (hfb.other (p := ⟨c, 8, none⟩) (show b ≠ c by omega) V) (re2_two _ _ _ _ _ _ hbg) (by omega)⟩

set_option maxHeartbeats 2000000 in
theorem pushScope {base c bb : Nat} {w : World} {col : Nat → Nat} {cv sv : Value} {bs : List Nat} {B : Sc} {L : List Sc} {cnt : Int} (h : CompAt base w col c cv bb sv bs B L cnt) (hbase : base ≤ w.heap.size) (hn : L.length ≤ 2097152) (h0 : 0 ≤ cnt) (h1 : cnt ≤ 2097152) :
    Calls Try.prog 48 #[.pointer (some ⟨c, 0, none⟩)] w fun e w' => e = .returned (.tuple #[]) ∧ Now base w col c cv bb B (L ++ [⟨cnt, [], []⟩]) (cnt + 1) w' := by
  obtain ⟨sa, sc, rfl⟩ := slice_form h.row
  obtain ⟨n, hnn⟩ : ∃ n, n = bs.length := ⟨_, rfl⟩
  have c8 : w.cell? ⟨c, 8, none⟩ = some (.slice sa n sc) := by rw [h.blk.cell, hnn]; rfl
  have c9 : w.cell? ⟨c, 9, none⟩ = some (.int .i64 cnt) := by rw [h.blk.cell]; rfl
  have f8 := h.blk.free 8
  have f9 := h.blk.free 9
  have l0 := h.blk.lt
  have hn2 : n ≤ 2097152 := by rw [hnn, h.len]; exact hn
  have H := Lib.hid h
  have HN := Lib.hid hnn
  obtain ⟨j0, ji, jz0, jz1, jz2⟩ := info_parts info71
  clear h hnn hn
  have HNS : Hid (∀ (wr : World), wr.cell? ⟨c, 9, none⟩ = some (.int .i64 cnt) → wr.frozen? ⟨c, 9, none⟩ = false → c < wr.heap.size → Calls Try.prog 44 #[.pointer (some ⟨c, 0, none⟩)] wr fun e w' => e = .returned (.pointer (some ⟨wr.heap.size, 0, none⟩)) ∧ w' = (wr.setCell ⟨c, 9, none⟩ (.int .i64 (cnt + 1))).alloc (.cells (fresh cnt) 114)) := fun wr a1 a2 a3 => newScope wr c cnt a1 a2 a3 h0 h1
  have HAFT : Hid (∀ w3 : World, w3 = (w.drew.setCell ⟨c, 9, none⟩ (.int .i64 (cnt + 1))).alloc (.cells (fresh cnt) 114) →
      w3.cell? ⟨c, 8, none⟩ = some (.slice sa n sc) ∧ c < w3.heap.size ∧ base ≤ w3.heap.size ∧ Hid (w3.ownsRow base 71 1 (.slice sa n sc) n (ptrs bs)) ∧
      Hid (∀ (g2 cp2 : Nat) (w1 : World), w1.ownsRow base 71 1 (.slice (some ⟨g2, 0, none⟩) (n + 1) cp2) (n + 1) (ptrs bs ++ [.pointer (some ⟨w.heap.size, 0, none⟩)]) → (w3.alloc (.cells #[.pointer (some ⟨w.heap.size, 0, none⟩)] 71)).grownBy w1 (Value.slice sa n sc).ownBlock → ((Value.slice sa n sc).ownBlock = some g2 ∨ g2 = w3.heap.size + 1) →
        w1.cell? ⟨c, 8, none⟩ = some (.slice sa n sc) ∧ w1.frozen? ⟨c, 8, none⟩ = false ∧ Now base w col c cv bb B (L ++ [⟨cnt, [], []⟩]) (cnt + 1) (w1.setCell ⟨c, 8, none⟩ (.slice (some ⟨g2, 0, none⟩) (n + 1) cp2)))) := by
    unfold Hid
    intro w3 hw3
    have hmm := HN.out
    have hu : Upd (· = c) w w3 := by rw [hw3]; exact (Upd.setCell (S := (· = c)) (Upd.refl _ w).drew (p := ⟨c, 9, none⟩) (.inl rfl) _).alloc _
    have hc3 : Blk w3 c (comp cv bb (.slice sa bs.length sc) (cnt + 1)) 95 := by
      have hd : Blk w.drew c (comp cv bb (.slice sa bs.length sc) cnt) 95 := H.out.blk
      have := (hd.set 9 (.int .i64 (cnt + 1))).alloc (.cells (fresh cnt) 114)
      rw [← hw3] at this
      simpa [comp] using this
    have hf3 : Blk w3 w.heap.size (fresh cnt) 114 := by
      have := Blk.new (w.drew.setCell ⟨c, 9, none⟩ (.int .i64 (cnt + 1))) (fresh cnt) 114
      rw [← hw3] at this
      have e : (w.drew.setCell ⟨c, 9, none⟩ (.int .i64 (cnt + 1))).heap.size = w.heap.size := by simp
      rwa [e] at this
    have hrow : w3.ownsRow base 71 1 (.slice sa bs.length sc) bs.length (ptrs bs) := own_kept H.out.row hu (fun g hg e => by have := H.out.rcol g hg; have := H.out.clr; rw [e] at *; omega)
    refine ⟨by rw [hc3.cell, hmm]; rfl, hc3.lt, Nat.le_trans hbase hu.size, by rw [hmm]; exact hrow, fun g2 cp2 w1 k1 k2 k3 => ?_⟩
    rw [hmm] at k1 k2 k3
    have e1 : Value.slice sa n sc = Value.slice sa bs.length sc := by rw [hmm]
    have e2 : n + 1 = bs.length + 1 := by rw [hmm]
    rw [e1, e2]
    exact fin_push H.out hbase (hu.alloc _) (hc3.alloc _) (Nat.le_refl _) (hf3.alloc _) k1 k2 k3 (by simp)
  clear H HN hbase
  go_enter Try.func48, Try.ntmps48
  go_wp2_with fail
  go_region_law (first | (go_simp; go_at_call 44; refine (HNS.out w.drew (by simpa using c9) (by simpa using f9) (by simpa using l0)).mono ?_; rintro e w3 ⟨rfl, hw3⟩; obtain ⟨d8, l3, lb3, HROW, HFIN⟩ := HAFT.out w3 hw3; clear hw3) | (refine step_append_lies _ rfl (.tmp 6) (.tmp 9) 72 rfl base 71 j0 (.pointer none) 1 8 Try.underlying72 ji jz0 jz1 jz2 rfl (by decide) _ n (ptrs bs) rfl ?_ ⟨w3.heap.size, 0, none⟩ 1 1 [.pointer (some ⟨w.heap.size, 0, none⟩)] rfl rfl ?_ ?_ (by decide) ?_ ?_ ?_ (w3.heap.size + 1) ?_ ?_; (exact own_kept HROW.out (S := fun _ => False) (by repeat (first | exact Upd.refl _ _ | apply Upd.drew | apply Upd.drewN | apply Upd.alloc)) (fun _ _ => id)); (exact World.news_of_block (cs := #[.pointer (some ⟨w.heap.size, 0, none⟩)]) (blk_at _ _ _ (by simp))); (intro u hu; simp at hu; subst hu; rfl); (unfold maxLen; omega); omega; (simp; omega); simp; intro g2 cp2 w1 hown hgrow hat hlt; obtain ⟨x0, x1, hf⟩ := HFIN.out _ _ _ hown hgrow hat; have HF := Lib.hid hf; clear hown hgrow hat hlt hf))
  all_goals go_end0
  all_goals exact ⟨rfl, HF.out⟩
end Go.Proofs.Ytmfpmpbilekbgaa.push
