/- listModuleDefs (f13): the visible definitions, sorted, as texts. -/
import Derived.Test.YtbogmmpbmgibnaaDoorColl
import Derived.Test.YtbogmmpbmgibnaaDoorFill
import Derived.Deep.RegionHeldLaw
import Derived.Lib.AppendIntMem
import Derived.Lib.ItoaLen
import Derived.Lib.SliceRun
set_option linter.unusedVariables false
namespace Go.Proofs.YtbogmmpbmgibnaaDoor.list13
open Go.ChangeShapes Go.WideShapes Go.ChangeAt Go.RowKit
open upd zs less order sort' coll fill

theorem blk_at (W : World) (o : Obj) (n : Nat) (h : W.heap.size = n) : (W.alloc o).heap[n]? = some o := by subst h; exact heap_alloc_last _ _
theorem two_at (X : World) (cs : Array Value) (t : TypeId) (o2 : Obj) (n : Nat) (h : X.heap.size = n) : Blk ((X.alloc (.cells cs t)).alloc o2) n cs t := by subst h; exact (Blk.new X cs t).alloc _
theorem two_drew (X : World) (cs : Array Value) (t : TypeId) (o2 : Obj) (n : Nat) (h : X.heap.size = n) : Blk ((X.alloc (.cells cs t)).alloc o2).drew n cs t := two_at X cs t o2 n h
/-- what is asked of the definitions -/
def Fine (L : List (ByteArray × Int)) : Prop := ∀ (j : Nat) (x : ByteArray × Int), L[j]? = some x → 0 < x.1.size ∧ x.1.size ≤ 1048576 ∧ 0 ≤ x.2 ∧ x.2 ≤ 65536

theorem info20 : (Tryd.prog.info? 20).map (fun i => (i.zero, i.size, i.bytes)) = some (some .nilIface, 1, 16) := by kernel_rfl
/-- the table of the library's -/
abbrev Tab (B : Nat) (w : World) : Prop := Lib.TabBelow Tryd.prog B w "internal/strconv.uint64pow10" .u64 Lib.pow10Tab
theorem itoa16 (n : Nat) (hn : n ≤ 65536) (B : Nat) (w : World) (hT : Tab B w) (hB : B ≤ w.heap.size) :
    Calls Tryd.prog 16 #[.int .i64 n] w fun e w' => e = .returned (.string ⟨(Lib.decDigits n).toArray⟩) ∧ Below w.heap.size w w' := by
  refine (Tryd.strconv_Itoa (n : Int) (by omega) (by omega) w hT.here).mono ?_
  rintro e w' ⟨rfl, k, os, rfl⟩
  exact ⟨by rw [Lib.itoa_nonneg], Lib.below_grow _ w (Nat.le_refl _) k os⟩
/-- a definition's text -/
def strK (k : ByteArray × Int) : ByteArray := k.1 ++ ⟨#[47]⟩ ++ ⟨(Lib.decDigits k.2.toNat).toArray⟩
def fK (K : List (ByteArray × Int)) (j : Nat) : Value := .iface 9 (.string (strK (K.getD j (ByteArray.empty, 0))))
/-- what is answered: the texts, in order -/
def Ans (K : List (ByteArray × Int)) (w : World) (v : Value) : Prop := ∃ b, v = .slice (some ⟨b, 0, none⟩) K.length K.length ∧ Row w b 20 ((List.range K.length).map (fK K))
theorem digits_le (n : Nat) (h : n ≤ 65536) : (Lib.decDigits n).length ≤ 21 := by have := Lib.itoa_length_le (n : Int) (by omega) (by omega); rwa [Lib.itoa_nonneg] at this

set_option maxRecDepth 100000 in
set_option maxHeartbeats 8000000 in
theorem list13 (w : World) (Q g n cap : Nat) (L : List (ByteArray × Int)) (hQ : w.cell? ⟨Q, 2, none⟩ = some (.slice (some ⟨g, 0, none⟩) n cap)) (hD : Defs w g n cap L) (hF : Fine L) (hn : n ≤ 8192) (hT : Tab w.heap.size w) :
    Calls Tryd.prog 13 #[.pointer (some ⟨Q, 0, none⟩)] w fun e w' => ∃ K' v, K'.Perm (visK L) ∧ InOrder K' ∧ e = .returned v ∧ Ans K' w' v ∧ Below w.heap.size w w' := by
  have HT := Lib.hid hT
  clear hT
  obtain ⟨hnL, hnc, hat⟩ := hD
  obtain ⟨base, hbase⟩ : ∃ base, base = w.heap.size := ⟨_, rfl⟩
  have HX0 : Hid (XS base w base (visK (L.take 0)) (w.alloc (.cells #[.slice none 0 0] 50))) := by
    have := XS.start base w hbase
    unfold Hid; simpa [visK] using this
  have HN := Lib.hid hnL
  have HD := Lib.hid hat
  have HFN := Lib.hid hF
  have HBS := Lib.hid hbase
  obtain ⟨j0, ji, jz0, jz1, jz2⟩ := info_parts info51
  have hQl := blk_lt hQ
  clear hnL hat hF
  go_enter Tryd.func13, Tryd.ntmps13
  go_wp2_with fail
  rw [← hbase]
  clear hbase
  go_loopw [5, 14] (fun _ i wr => ∃ k : Nat, k ≤ n ∧ i = .int .i64 k ∧ Hid (XS base w base (visK (L.take k)) wr)) (fun _ i _ => n - (intOf i).toNat)
  case atStart => exact ⟨0, Nat.zero_le _, rfl, HX0⟩
  case round =>
    obtain ⟨k, hk, rfl, HX⟩ := hrel
    clear HX0
    by_cases hlt : k < n
    · obtain ⟨x, hx⟩ : ∃ x, L[k]? = some x := ⟨_, List.getElem?_eq_getElem (by have := HN.out; omega)⟩
      obtain ⟨V, ps, hX, hrow, hVX, hl, hbX, hb0, hB, hps⟩ := HX.out
      obtain ⟨p, hp1, hp2, ao, an, ac, hp3, hp4⟩ := HD.out k x hx
      have hBw : Below w.heap.size w wr := by rw [← HBS.out]; exact hB
      have c0 := (hBw.cell (p := ⟨g, k, none⟩) (blk_lt hp1)).trans hp1
      have c1 := (hBw.cell (p := ⟨p, 0, none⟩) (blk_lt hp2)).trans hp2
      have c2 := (hBw.cell (p := ⟨p, 1, none⟩) (blk_lt hp3)).trans hp3
      have hpl := blk_lt c1
      obtain ⟨hs0, hs1, ha0, ha1⟩ := HFN.out k x hx
      obtain ⟨va, vc, rfl⟩ := slice_form hrow
      obtain ⟨m, hm⟩ : ∃ m, m = ps.length := ⟨_, rfl⟩
      have v0 : wr.cell? ⟨base, 0, none⟩ = some (.slice va m vc) := by rw [hX.cell, hm]; rfl
      have lX := hX.lt
      have hml : m ≤ 8192 := by
        rw [hm, hl]
        have h1 := List.length_filter_le (fun x : ByteArray × Int => vis x.1) (L.take k)
        have h2 := List.length_take_le k L
        unfold visK
        have := HN.out
        omega
      have HR : Hid (wr.ownsRow base 51 1 (.slice va m vc) m (ptrs ps)) := by unfold Hid; rw [hm]; exact hrow
      have HWB : Hid (base ≤ wr.heap.size) := by unfold Hid; have := hB.size; omega
      have HVS := Lib.hid (vis_snoc hx)
      have HFIN : Hid (∀ (g2 cp2 : Nat) (a w3 : World), Upd (fun _ => False) wr a → Blk a wr.heap.size #[.string x.1, .int .i64 an] 53 → a.heap.size ≤ wr.heap.size + 1 + 1 → w3.ownsRow base 51 1 (.slice (some ⟨g2, 0, none⟩) (m + 1) cp2) (m + 1) (ptrs ps ++ [.pointer (some ⟨wr.heap.size, 0, none⟩)]) → a.grownBy w3 (Value.slice va m vc).ownBlock → ((Value.slice va m vc).ownBlock = some g2 ∨ g2 = wr.heap.size + 1 + 1) →
          (w3.cell? ⟨p, 0, none⟩ = some (.string x.1) ∧ w3.cell? ⟨p, 1, none⟩ = some (.slice ao an ac)) ∧ ((w3.setCell ⟨base, 0, none⟩ (.slice (some ⟨g2, 0, none⟩) (m + 1) cp2)).cell? ⟨p, 0, none⟩ = some (.string x.1) ∧ (w3.setCell ⟨base, 0, none⟩ (.slice (some ⟨g2, 0, none⟩) (m + 1) cp2)).cell? ⟨p, 1, none⟩ = some (.slice ao an ac)) ∧ w3.cell? ⟨base, 0, none⟩ = some (.slice va m vc) ∧ w3.frozen? ⟨base, 0, none⟩ = false ∧ XS base w base (visK (L.take k) ++ [x]) (w3.setCell ⟨base, 0, none⟩ (.slice (some ⟨g2, 0, none⟩) (m + 1) cp2))) := by
        unfold Hid; subst hm; intro g2 cp2 a w3 ku kb ks k1 k2 k3
        rw [hp4] at kb
        obtain ⟨y1, y2, y3, y4⟩ := fin_xs (k := x) hX hrow hVX hl hbX hb0 hB hps ku rfl kb k1 k2 k3 ks
        have h3 : Below w.heap.size w w3 := by rw [← HBS.out]; exact y3
        have h4 : Below w.heap.size w (w3.setCell ⟨base, 0, none⟩ (.slice (some ⟨g2, 0, none⟩) (ps.length + 1) cp2)) := by rw [← HBS.out]; exact y3.setCell (p := ⟨base, 0, none⟩) (Nat.le_refl _) _
        exact ⟨⟨(h3.cell (p := ⟨p, 0, none⟩) (blk_lt hp2)).trans hp2, (h3.cell (p := ⟨p, 1, none⟩) (blk_lt hp3)).trans hp3⟩, ⟨(h4.cell (p := ⟨p, 0, none⟩) (blk_lt hp2)).trans hp2, (h4.cell (p := ⟨p, 1, none⟩) (blk_lt hp3)).trans hp3⟩, y1, y2, y4⟩
      have hkc : k < cap := by omega
      have i0 : (0 : Int) ≤ k := by omega
      have i1 : (k : Int) < n := by omega
      have hz0 : (0 : Int) < x.1.size := by omega
      clear hX hrow hVX hl hbX hb0 hB hps hp1 hp2 hp3 hp4 hBw hx hm
      cases hv : vis x.1 with
      | false =>
        have hv1 : (((x.1[0]'hs0).toNat : Int) != 95) = false := by unfold vis at hv; rw [dif_pos hs0] at hv; exact hv
        have HX2 : Hid (XS base w base (visK (L.take (k + 1))) wr) := by
          unfold Hid; rw [HVS.out, hv]; simpa using HX.out
        clear HX HFIN HR hv
        go_wp2_with fail
        refine ⟨⟨k + 1, by omega, by go_num, HX2⟩, ?_⟩
        simp [intOf] <;> omega
      | true =>
        have hv1 : (((x.1[0]'hs0).toNat : Int) != 95) = true := by unfold vis at hv; rw [dif_pos hs0] at hv; exact hv
        have HVS2 : Hid (visK (L.take (k + 1)) = visK (L.take k) ++ [x]) := by unfold Hid; rw [HVS.out, hv]; rfl
        clear HX HVS hv
        go_wp2_with fail
        refine wp_region_held_drew (S := (fun w' => w'.cell? ⟨p, 0, none⟩ = some (.string x.1) ∧ w'.cell? ⟨p, 1, none⟩ = some (.slice ao an ac))) (by kernel_rfl) ?_ (fun hHeld => ?_)
        · ((try dsimp only); first | assumption | go_keep)
        refine wpAnyH_take (i := 1) (oi := _) (v := ?_) rfl (by kernel_rfl) (by kernel_rfl) (by kernel_rfl) (fun _ _ _ h => h) (Or.inl ⟨by rfl, ?_⟩) (by assumption) ?_
        rotate_left 1
        · (intro w hSw; (try dsimp only at hSw); go_simp; try with_reducible rfl)
        try simp only [Act.put, List.setIfInBounds_toArray]
        refine wpAnyH_take (i := 2) (oi := _) (v := ?_) rfl (by kernel_rfl) (by kernel_rfl) (by kernel_rfl) (fun _ _ _ h => h) (Or.inl ⟨by rfl, ?_⟩) (by assumption) ?_
        rotate_left 1
        · (intro w hSw; (try dsimp only at hSw); go_simp; try with_reducible rfl)
        try simp only [Act.put]
        refine wpAnyH_take (i := 3) (oi := _) (v := ?_) rfl (by kernel_rfl) (by kernel_rfl) (by kernel_rfl) (fun _ _ _ h => h) (Or.inl ⟨by rfl, ?_⟩) (by assumption) ?_
        rotate_left 1
        · (intro w hSw; (try dsimp only at hSw); go_simp; try with_reducible rfl)
        try simp only [Act.put]
        refine wpAnyH_take (i := 4) (oi := _) (v := ?_) rfl (by kernel_rfl) (by kernel_rfl) (by kernel_rfl) (fun _ _ _ h => h) (Or.inl ⟨by rfl, ?_⟩) (by assumption) ?_
        rotate_left 1
        · (intro w hSw; (try dsimp only at hSw); go_simp; try with_reducible rfl)
        try simp only [Act.put]
        refine wpAnyH_take (i := 5) (oi := _) (v := ?_) rfl (by kernel_rfl) (by kernel_rfl) (by kernel_rfl) (fun _ _ _ h => h) (Or.inl ⟨by rfl, ?_⟩) (by assumption) ?_
        rotate_left 1
        · (intro w hSw; (try dsimp only at hSw); go_simp; try with_reducible rfl)
        try simp only [Act.put]
        refine wpAnyH_take (i := 6) (oi := _) (v := ?_) rfl (by kernel_rfl) (by kernel_rfl) (by kernel_rfl) (fun _ _ _ h => h) (Or.inl ⟨by rfl, ?_⟩) (by assumption) ?_
        rotate_left 1
        · (intro w hSw; (try dsimp only at hSw); go_simp; try with_reducible rfl)
        try simp only [Act.put]
        refine wpAnyH_take (i := 7) (oi := _) (v := ?_) rfl (by kernel_rfl) (by kernel_rfl) (by kernel_rfl) (fun _ _ _ h => h) (Or.inl ⟨by rfl, ?_⟩) (by assumption) ?_
        rotate_left 1
        · (intro w hSw; (try dsimp only at hSw); go_simp; try with_reducible rfl)
        try simp only [Act.put]
        refine wpAnyH_take (i := 8) (oi := _) (v := ?_) rfl (by kernel_rfl) (by kernel_rfl) (by kernel_rfl) (fun _ _ _ h => h) (Or.inl ⟨by rfl, ?_⟩) (by assumption) ?_
        rotate_left 1
        · (intro w hSw; (try dsimp only at hSw); go_simp; try with_reducible rfl)
        try simp only [Act.put]
        refine wpAnyH_take (i := 9) (oi := _) (v := ?_) rfl (by kernel_rfl) (by kernel_rfl) (by kernel_rfl) (fun _ _ _ h => h) (Or.inl ⟨by rfl, ?_⟩) (by assumption) ?_
        rotate_left 1
        · (intro w hSw; (try dsimp only at hSw); go_simp; try with_reducible rfl)
        try simp only [Act.put]
        refine wpAnyH_take (i := 10) (oi := _) (v := ?_) rfl (by kernel_rfl) (by kernel_rfl) (by kernel_rfl) (fun _ _ _ h => h) (Or.inl ⟨by rfl, ?_⟩) (by assumption) ?_
        rotate_left 1
        · (intro w hSw; (try dsimp only at hSw); go_simp; try with_reducible rfl)
        try simp only [Act.put]
        refine wpAnyH_ready (rs := [0, 11]) (by kernel_rfl) (by simp) ?_
        refine AllReadyH.cons rfl (fun K hK => ?_) ?_
        · go_simp
          refine hK.out _ _ ?_ (fun hHeld2 => ?_)
          · ((try dsimp only); first | assumption | go_keep)
          clear hK K
          refine wpAnyH_ready (rs := [11]) (by kernel_rfl) (by simp) ?_
          refine AllReadyH.cons rfl (fun K hK => ?_) ?_
          · go_simp
            refine hK.out _ _ ?_ (fun hHeld2 => ?_)
            · ((try dsimp only); first | assumption | go_keep)
            clear hK K
            refine wpAnyH_ready (rs := [12]) (by kernel_rfl) (by simp) ?_
            refine AllReadyH.cons rfl (fun K hK => ?_) ?_
            · go_simp
              refine hK.out _ _ ?_ (fun hHeld2 => ?_)
              · ((try dsimp only); first | assumption | go_keep)
              clear hK K
              refine wpAnyH_ready (rs := [13]) (by kernel_rfl) (by simp) ?_
              refine AllReadyH.cons rfl (fun K hK => ?_) ?_
              · refine step_append_lies _ (by rfl) (.tmp 24) (.tmp 36) 50 (by rfl) base 51 j0 (.pointer none) 1 8 Tryd.underlying50 ji jz0 jz1 jz2 rfl (by decide) _ m (ptrs ps) (by rfl) (own_kept HR.out (S := fun _ => False) (by repeat (first | exact Upd.refl _ _ | apply Upd.drew | apply Upd.drewN | apply Upd.alloc)) (fun _ _ => id)) ⟨wr.heap.size + 1, 0, none⟩ 1 1 [.pointer (some ⟨wr.heap.size, 0, none⟩)] (by rfl) rfl (World.news_of_block (cs := #[.pointer (some ⟨wr.heap.size, 0, none⟩)]) (blk_at _ _ _ (by simp))) (by intro u hu; simp at hu; subst hu; rfl) (by decide) (by unfold maxLen; omega) (by omega) (by have := HWB.out; simp; omega) (wr.heap.size + 1 + 1) (by simp) ?_; intro g2 cp2 w3 hown hgrow hat hlt; obtain ⟨xS, xS2, x0, x1, hf⟩ := HFIN.out _ _ _ _ (by repeat (first | exact Upd.refl _ _ | apply Upd.drew | apply Upd.drewN | apply Upd.alloc)) (by first | exact two_at _ _ _ _ _ (by simp) | exact two_drew _ _ _ _ _ (by simp)) (by simp) hown hgrow hat; have HF := Lib.hid hf; clear hown hgrow hat hlt hf
                refine hK.out _ _ ?_ (fun hHeld2 => ?_)
                · ((try dsimp only); first | assumption | go_keep)
                clear hK K
                refine wpAnyH_ready (rs := [14]) (by kernel_rfl) (by simp) ?_
                refine AllReadyH.cons rfl (fun K hK => ?_) ?_
                · go_simp
                  refine hK.out _ _ ?_ (fun hHeld3 => ?_)
                  · ((try dsimp only); first | assumption | go_keep)
                  clear hK K
                  refine wpAnyH_done (by kernel_rfl) ?_ _
                  have HX2 : Hid (XS base w base (visK (L.take (k + 1))) (w3.setCell ⟨base, 0, none⟩ (.slice (some ⟨g2, 0, none⟩) (m + 1) cp2))) := by rw [HVS2.out]; exact HF.out
                  clear HF HFIN HR HVS2
                  go_wp2_with fail
                  refine ⟨⟨k + 1, by omega, by go_num, HX2⟩, ?_⟩
                  simp [intOf] <;> omega
                exact AllReadyH.nil
              exact AllReadyH.nil
            exact AllReadyH.nil
          exact AllReadyH.nil
        refine AllReadyH.cons rfl (fun K hK => ?_) ?_
        · go_simp
          refine hK.out _ _ ?_ (fun hHeld2 => ?_)
          · ((try dsimp only); first | assumption | go_keep)
          clear hK K
          refine wpAnyH_ready (rs := [0, 12]) (by kernel_rfl) (by simp) ?_
          refine AllReadyH.cons rfl (fun K hK => ?_) ?_
          · go_simp
            refine hK.out _ _ ?_ (fun hHeld2 => ?_)
            · ((try dsimp only); first | assumption | go_keep)
            clear hK K
            refine wpAnyH_ready (rs := [12]) (by kernel_rfl) (by simp) ?_
            refine AllReadyH.cons rfl (fun K hK => ?_) ?_
            · go_simp
              refine hK.out _ _ ?_ (fun hHeld2 => ?_)
              · ((try dsimp only); first | assumption | go_keep)
              clear hK K
              refine wpAnyH_ready (rs := [13]) (by kernel_rfl) (by simp) ?_
              refine AllReadyH.cons rfl (fun K hK => ?_) ?_
              · refine step_append_lies _ (by rfl) (.tmp 24) (.tmp 36) 50 (by rfl) base 51 j0 (.pointer none) 1 8 Tryd.underlying50 ji jz0 jz1 jz2 rfl (by decide) _ m (ptrs ps) (by rfl) (own_kept HR.out (S := fun _ => False) (by repeat (first | exact Upd.refl _ _ | apply Upd.drew | apply Upd.drewN | apply Upd.alloc)) (fun _ _ => id)) ⟨wr.heap.size + 1, 0, none⟩ 1 1 [.pointer (some ⟨wr.heap.size, 0, none⟩)] (by rfl) rfl (World.news_of_block (cs := #[.pointer (some ⟨wr.heap.size, 0, none⟩)]) (blk_at _ _ _ (by simp))) (by intro u hu; simp at hu; subst hu; rfl) (by decide) (by unfold maxLen; omega) (by omega) (by have := HWB.out; simp; omega) (wr.heap.size + 1 + 1) (by simp) ?_; intro g2 cp2 w3 hown hgrow hat hlt; obtain ⟨xS, xS2, x0, x1, hf⟩ := HFIN.out _ _ _ _ (by repeat (first | exact Upd.refl _ _ | apply Upd.drew | apply Upd.drewN | apply Upd.alloc)) (by first | exact two_at _ _ _ _ _ (by simp) | exact two_drew _ _ _ _ _ (by simp)) (by simp) hown hgrow hat; have HF := Lib.hid hf; clear hown hgrow hat hlt hf
                refine hK.out _ _ ?_ (fun hHeld2 => ?_)
                · ((try dsimp only); first | assumption | go_keep)
                clear hK K
                refine wpAnyH_ready (rs := [14]) (by kernel_rfl) (by simp) ?_
                refine AllReadyH.cons rfl (fun K hK => ?_) ?_
                · go_simp
                  refine hK.out _ _ ?_ (fun hHeld3 => ?_)
                  · ((try dsimp only); first | assumption | go_keep)
                  clear hK K
                  refine wpAnyH_done (by kernel_rfl) ?_ _
                  have HX2 : Hid (XS base w base (visK (L.take (k + 1))) (w3.setCell ⟨base, 0, none⟩ (.slice (some ⟨g2, 0, none⟩) (m + 1) cp2))) := by rw [HVS2.out]; exact HF.out
                  clear HF HFIN HR HVS2
                  go_wp2_with fail
                  refine ⟨⟨k + 1, by omega, by go_num, HX2⟩, ?_⟩
                  simp [intOf] <;> omega
                exact AllReadyH.nil
              exact AllReadyH.nil
            exact AllReadyH.nil
          refine AllReadyH.cons rfl (fun K hK => ?_) ?_
          · go_simp
            refine hK.out _ _ ?_ (fun hHeld2 => ?_)
            · ((try dsimp only); first | assumption | go_keep)
            clear hK K
            refine wpAnyH_ready (rs := [0]) (by kernel_rfl) (by simp) ?_
            refine AllReadyH.cons rfl (fun K hK => ?_) ?_
            · go_simp
              refine hK.out _ _ ?_ (fun hHeld2 => ?_)
              · ((try dsimp only); first | assumption | go_keep)
              clear hK K
              refine wpAnyH_ready (rs := [13]) (by kernel_rfl) (by simp) ?_
              refine AllReadyH.cons rfl (fun K hK => ?_) ?_
              · refine step_append_lies _ (by rfl) (.tmp 24) (.tmp 36) 50 (by rfl) base 51 j0 (.pointer none) 1 8 Tryd.underlying50 ji jz0 jz1 jz2 rfl (by decide) _ m (ptrs ps) (by rfl) (own_kept HR.out (S := fun _ => False) (by repeat (first | exact Upd.refl _ _ | apply Upd.drew | apply Upd.drewN | apply Upd.alloc)) (fun _ _ => id)) ⟨wr.heap.size + 1, 0, none⟩ 1 1 [.pointer (some ⟨wr.heap.size, 0, none⟩)] (by rfl) rfl (World.news_of_block (cs := #[.pointer (some ⟨wr.heap.size, 0, none⟩)]) (blk_at _ _ _ (by simp))) (by intro u hu; simp at hu; subst hu; rfl) (by decide) (by unfold maxLen; omega) (by omega) (by have := HWB.out; simp; omega) (wr.heap.size + 1 + 1) (by simp) ?_; intro g2 cp2 w3 hown hgrow hat hlt; obtain ⟨xS, xS2, x0, x1, hf⟩ := HFIN.out _ _ _ _ (by repeat (first | exact Upd.refl _ _ | apply Upd.drew | apply Upd.drewN | apply Upd.alloc)) (by first | exact two_at _ _ _ _ _ (by simp) | exact two_drew _ _ _ _ _ (by simp)) (by simp) hown hgrow hat; have HF := Lib.hid hf; clear hown hgrow hat hlt hf
                refine hK.out _ _ ?_ (fun hHeld2 => ?_)
                · ((try dsimp only); first | assumption | go_keep)
                clear hK K
                refine wpAnyH_ready (rs := [14]) (by kernel_rfl) (by simp) ?_
                refine AllReadyH.cons rfl (fun K hK => ?_) ?_
                · go_simp
                  refine hK.out _ _ ?_ (fun hHeld3 => ?_)
                  · ((try dsimp only); first | assumption | go_keep)
                  clear hK K
                  refine wpAnyH_done (by kernel_rfl) ?_ _
                  have HX2 : Hid (XS base w base (visK (L.take (k + 1))) (w3.setCell ⟨base, 0, none⟩ (.slice (some ⟨g2, 0, none⟩) (m + 1) cp2))) := by rw [HVS2.out]; exact HF.out
                  clear HF HFIN HR HVS2
                  go_wp2_with fail
                  refine ⟨⟨k + 1, by omega, by go_num, HX2⟩, ?_⟩
                  simp [intOf] <;> omega
                exact AllReadyH.nil
              exact AllReadyH.nil
            exact AllReadyH.nil
          exact AllReadyH.nil
        exact AllReadyH.nil
    · obtain rfl : k = n := by omega
      have hlv : (visK L).length ≤ 8192 := by
        have h1 := List.length_filter_le (fun x : ByteArray × Int => vis x.1) L
        unfold visK
        have := HN.out
        omega
      have hXf : XS base w base (visK L) wr := by have h := HX.out; rw [HN.out, List.take_length] at h; exact h
      obtain ⟨va, m, vc, v0, hS⟩ := sortXS hXf hlv
      have HS := Lib.hid hS
      have HLV := Lib.hid hlv
      have lX : base < wr.heap.size := blk_lt v0
      have hwb : wr.heap.size ≥ base := by omega
      clear HX hXf hS hlv HD hQ hQl
      go_wp2_with fail
      go_at_call 14
      refine HS.out.mono ?_
      rintro e w1 ⟨rfl, K', hp, ho, hr, hb⟩
      have HP := Lib.hid hp
      have HO := Lib.hid ho
      have HR := Lib.hid hr
      have HB : Hid (Below w.heap.size w w1) := by unfold Hid; rw [← HBS.out]; exact hb
      have x0 := hr.2.1
      have hmv := hr.2.2.1
      have hml : m ≤ 8192 := by rw [hr.1, hp.length_eq]; exact HLV.out
      have HML : Hid (m = K'.length) := hr.1
      have HFK : Hid (∀ (j : Nat) (k : ByteArray × Int), K'[j]? = some k → 0 < k.1.size ∧ k.1.size ≤ 1048576 ∧ 0 ≤ k.2 ∧ k.2 ≤ 65536) := by
        unfold Hid; intro j k hk
        have h1 : k ∈ visK L := hp.mem_iff.1 (List.mem_of_getElem? hk)
        have h2 : k ∈ L := (List.mem_filter.1 h1).1
        obtain ⟨i, hi⟩ := List.mem_iff_getElem?.1 h2
        exact HFN.out i k hi
      obtain ⟨i0, hi, hz0, hz1, hz2⟩ := info_parts info20
      clear HS HLV HFN HN hp ho hr hb v0 lX hwb
      go_wp2_with (at_make; refine wpList_make_full _ rfl _ _ 45 rfl w1.heap.size 20 i0 .nilIface 1 Tryd.underlying45 hi hz0 hz1 .i64 .i64 _ _ m rfl rfl rfl rfl (by rw [hz2]; omega) (by unfold maxLen; omega) (Nat.le_refl _) ?_; intro w2 hown0 hgrow0; have HB2 := Lib.hid ((Below.refl w1.heap.size w1).grown hgrow0 (Nat.le_refl _) (fun k hk => by cases hk)); have y0 := (HB2.out.cell (p := ⟨base, 0, none⟩) (blk_lt x0)).trans x0)
      have hr0 : Row w2 w1.heap.size 20 (fpart m 0 (fK K') .nilIface) := by rw [fpart_zero]; exact Row.of_made rfl hown0
      obtain ⟨B, hBe⟩ : ∃ B, B = w1.heap.size := ⟨_, rfl⟩
      have HBE := Lib.hid hBe
      rw [← hBe] at hr0 ⊢
      have HR0 := Lib.hid hr0
      clear hown0 hgrow0 hr0 hBe
      go_wp2_with fail
      clear y0
      go_loopw [7, 8, 48] (fun _ _ i wr => ∃ j : Nat, j ≤ m ∧ i = .int .i64 j ∧ Hid (Row wr B 20 (fpart m j (fK K') .nilIface)) ∧ Hid (Below w1.heap.size w1 wr)) (fun _ _ i _ => m - (intOf i).toNat)
      case atStart => exact ⟨0, Nat.zero_le _, rfl, HR0, HB2⟩
      case round =>
        obtain ⟨j, hj, rfl, HRW, HBW⟩ := hrel
        clear HR0 HB2
        by_cases hjm : j < m
        · obtain ⟨k, hk⟩ : ∃ k, K'[j]? = some k := ⟨_, List.getElem?_eq_getElem (by have := HML.out; omega)⟩
          obtain ⟨gg, p, rfl, q1, q2, q3⟩ := HR.out.2.2.2 j k hk
          obtain ⟨f1, f2, f3, f4⟩ := HFK.out j k hk
          obtain ⟨ar, har⟩ : ∃ ar : Nat, k.2 = ar := ⟨k.2.toNat, by omega⟩
          have c0 := (HBW.out.cell (p := ⟨gg, j, none⟩) (blk_lt q1)).trans q1
          have c1 := (HBW.out.cell (p := ⟨p, 0, none⟩) (blk_lt q2)).trans q2
          have c2 := (HBW.out.cell (p := ⟨p, 1, none⟩) (blk_lt q3)).trans q3
          rw [har] at c2
          have har2 : ar ≤ 65536 := by omega
          have hTw : Tab w.heap.size wr.drew := (HT.out.on (HB.out.trans (HBW.out.mono HB.out.size))).on ⟨rfl, rfl, rfl, Nat.le_refl _, fun _ _ => rfl⟩
          have HIT := Lib.hid (itoa16 ar har2 w.heap.size wr.drew hTw (by have h1 := HB.out.size; have h2 := HBW.out.size; show w.heap.size ≤ wr.heap.size; omega))
          have hfk : fK K' j = .iface 9 (.string (k.1 ++ ⟨#[47]⟩ ++ ⟨(Lib.decDigits ar).toArray⟩)) := by
            unfold fK strK
            have e : K'.getD j (ByteArray.empty, 0) = k := by simp [List.getD, hk]
            rw [e, har]; rfl
          have HFIN : Hid (∀ w5, Below wr.drew.heap.size wr.drew w5 → (w5.cell? ⟨p, 0, none⟩ = some (.string k.1) ∧ w5.cell? ⟨p, 1, none⟩ = some (.int .i64 ar)) ∧ ((w5.setCell ⟨B, j, none⟩ (.iface 9 (.string (k.1 ++ ⟨#[47]⟩ ++ ⟨(Lib.decDigits ar).toArray⟩)))).cell? ⟨p, 0, none⟩ = some (.string k.1) ∧ (w5.setCell ⟨B, j, none⟩ (.iface 9 (.string (k.1 ++ ⟨#[47]⟩ ++ ⟨(Lib.decDigits ar).toArray⟩)))).cell? ⟨p, 1, none⟩ = some (.int .i64 ar)) ∧ w5.cell? ⟨B, j, none⟩ = some .nilIface ∧ w5.frozen? ⟨B, j, none⟩ = false ∧ B < w5.heap.size ∧ Hid (Row (w5.setCell ⟨B, j, none⟩ (.iface 9 (.string (k.1 ++ ⟨#[47]⟩ ++ ⟨(Lib.decDigits ar).toArray⟩)))) B 20 (fpart m (j + 1) (fK K') .nilIface)) ∧ Hid (Below w1.heap.size w1 (w5.setCell ⟨B, j, none⟩ (.iface 9 (.string (k.1 ++ ⟨#[47]⟩ ++ ⟨(Lib.decDigits ar).toArray⟩)))))) := by
            unfold Hid; intro w5 h5
            have h5' : Below wr.heap.size wr w5 := ⟨h5.os, h5.tape, h5.output, h5.size, h5.block⟩
            have hrow := HRW.out.kept h5'
            have hb5 : Below w1.heap.size w1 w5 := HBW.out.trans (h5'.mono HBW.out.size)
            have hb6 : Below w1.heap.size w1 (w5.setCell ⟨B, j, none⟩ (.iface 9 (.string (k.1 ++ ⟨#[47]⟩ ++ ⟨(Lib.decDigits ar).toArray⟩)))) := hb5.setCell (p := ⟨B, j, none⟩) (by rw [HBE.out]; exact Nat.le_refl _) _
            have z0 := hrow.cell (fpart_at m j (fK K') .nilIface j hjm hj)
            rw [if_neg (by omega)] at z0
            rw [har] at q3
            refine ⟨⟨(hb5.cell (p := ⟨p, 0, none⟩) (blk_lt q2)).trans q2, (hb5.cell (p := ⟨p, 1, none⟩) (blk_lt q3)).trans q3⟩, ⟨(hb6.cell (p := ⟨p, 0, none⟩) (blk_lt q2)).trans q2, (hb6.cell (p := ⟨p, 1, none⟩) (blk_lt q3)).trans q3⟩, z0, hrow.free j, hrow.lt, ?_, hb6⟩
            have h := hrow.set j (fK K' j)
            rw [fpart_set m j (fK K') .nilIface hjm, hfk] at h
            exact h
          have hdl := digits_le ar har2
          have j0 : (0 : Int) ≤ j := by omega
          have j1 : (j : Int) < m := by omega
          have s1 : ¬ 9223372036854775807 < k.1.size + 1 := by omega
          have s2 : ¬ 9223372036854775807 < k.1.size + 1 + (Lib.decDigits ar).length := by omega
          clear HRW HBW hTw hfk hk q1 q2 q3 har
          go_wp2_with fail
          go_region_held_law (fun w' => w'.cell? ⟨p, 0, none⟩ = some (.string k.1) ∧ w'.cell? ⟨p, 1, none⟩ = some (.int .i64 ar)) (first | assumption | go_keep)
            ((go_at_call 16; refine HIT.out.mono ?_; rintro e w5 ⟨rfl, hb5⟩; obtain ⟨xS, xS2, x0', x1', x2', x3', x4'⟩ := HFIN.out w5 hb5; clear hb5))
          go_wp2_with fail
          refine ⟨⟨j + 1, by omega, by go_num, x3', x4'⟩, ?_⟩
          simp [intOf] <;> omega
        · obtain rfl : m = j := by omega
          have HFI : Hid (Row wr B 20 ((List.range m).map (fK K'))) := by unfold Hid; rw [← fpart_all m (fK K') .nilIface]; exact HRW.out
          go_wp2_with fail
          go_ret
          refine ⟨K', .slice (some ⟨B, 0, none⟩) m m, HP.out, HO.out, rfl, ⟨B, by rw [← HML.out], by rw [← HML.out]; exact HFI.out⟩, HB.out.trans (HBW.out.mono HB.out.size)⟩
end Go.Proofs.YtbogmmpbmgibnaaDoor.list13
