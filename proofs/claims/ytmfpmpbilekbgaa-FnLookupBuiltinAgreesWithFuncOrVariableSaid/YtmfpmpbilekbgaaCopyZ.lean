/- zzCloneScopes (f29): a copy of the statements' description. -/
import Derived.Test.YtmfpmpbilekbgaaCopy
import Derived.Test.YtmfpmpbilekbgaaFill
set_option linter.unusedVariables false
namespace Go.Proofs.Ytmfpmpbilekbgaa.copyz
open Go.ChangeShapes Go.WideShapes Go.ChangeAt Go.RowKit
open upd comp zs fill add copy

theorem info59 : (Try.prog.info? 59).map (fun i => (i.zero, i.size, i.bytes)) = some (some (.agg #[.slice none 0 0, .slice none 0 0, .slice none 0 0]), 3, 72) := by kernel_rfl
def z59 : Value := .agg #[.slice none 0 0, .slice none 0 0, .slice none 0 0]

theorem Row.of_own3 {w : World} {base g n : Nat} {e : TypeId} {xs : List Value} (h : w.ownsRow base e 3 (.slice (some ⟨g, 0, none⟩) n n) n xs) : Row w g e xs := by
  rcases h.2 with ⟨h', _⟩ | ⟨g', cap', cur, h', hb, hg, hnc, hcm, hcs, htake⟩
  · simp at h'
  · simp only [Value.slice.injEq, Option.some.injEq, Addr.mk.injEq, and_true, true_and] at h'
    obtain ⟨rfl, rfl⟩ := h'
    rw [List.take_of_length_le (by rw [Array.length_toList, hcs]; exact Nat.le_refl _)] at htake
    unfold Row; rw [hg, ← htake]
/-- the first k elements of the new row are there -/
structure Half (w : World) (B n k : Nat) (D : List Zs) (wr : World) : Prop where
  bel : Below w.heap.size w wr
  row : ∃ xs : List Value, xs.length = n * 3 ∧ Row wr B 59 xs ∧ ∀ j z, j < k → D[j]? = some z → ∃ v f r, xs[j * 3]? = some v ∧ xs[j * 3 + 1]? = some f ∧ xs[j * 3 + 2]? = some r ∧ StrRow wr v z.vars ∧ StrRow wr f z.funcs ∧ IntRow wr r z.ars ∧ New (B + 1) v ∧ New (B + 1) f ∧ New (B + 1) r

theorem strU {S : Nat} {w w' : World} {v : Value} {l : List ByteArray} (h : StrRow w v l) (hu : Upd (· = S) w w') (hn : New (S + 1) v) : StrRow w' v l := by
  rcases h with h | ⟨x, cap, h1, h2, h3, h5⟩
  · exact .inl h
  · have := hn x _ _ h1
    exact .inr ⟨x, cap, h1, h2, h3, fun j s hs => ⟨(hu.cell (p := x.add j) (by rw [zs.add_block]; exact zs.addr_lt (h5 j s hs).1) (by rw [zs.add_block]; omega)).trans (h5 j s hs).1, (h5 j s hs).2⟩⟩
theorem intU {S : Nat} {w w' : World} {v : Value} {l : List Int} (h : IntRow w v l) (hu : Upd (· = S) w w') (hn : New (S + 1) v) : IntRow w' v l := by
  rcases h with h | ⟨x, cap, h1, h2, h3, h5⟩
  · exact .inl h
  · have := hn x _ _ h1
    exact .inr ⟨x, cap, h1, h2, h3, fun j s hs => ⟨(hu.cell (p := x.add j) (by rw [zs.add_block]; exact zs.addr_lt (h5 j s hs).1) (by rw [zs.add_block]; omega)).trans (h5 j s hs).1, (h5 j s hs).2⟩⟩
theorem str_form {w : World} {v : Value} {l : List ByteArray} (h : StrRow w v l) : ∃ a n c, v = .slice a n c := by
  rcases h with ⟨rfl, _⟩ | ⟨x, cap, rfl, _⟩ <;> exact ⟨_, _, _, rfl⟩
theorem int_form {w : World} {v : Value} {l : List Int} (h : IntRow w v l) : ∃ a n c, v = .slice a n c := by
  rcases h with ⟨rfl, _⟩ | ⟨x, cap, rfl, _⟩ <;> exact ⟨_, _, _, rfl⟩
theorem new_mono {n m : Nat} {v : Value} (h : New n v) (hm : m ≤ n) : New m v := fun x l c e => Nat.le_trans hm (h x l c e)
theorem add_succ (x : Addr) (p q : Nat) : x.add (p + (q + 1)) = ⟨(x.add p).block, (x.add p).off + (q + 1), none⟩ := by
  unfold Addr.add; rw [if_neg (by omega)]; split
  · rename_i h; subst h; simp
  · simp; omega
theorem Half.next {w wr W : World} {B n k : Nat} {D : List Zs} {z : Zs} {v f r : Value} (h : Half w B n k D wr) (hB : w.heap.size ≤ B) (hk : k < n) (hz : D[k]? = some z) (hb : Below wr.heap.size wr W) (h1 : StrRow W v z.vars) (h2 : StrRow W f z.funcs) (h3 : IntRow W r z.ars) (n1 : New (B + 1) v) (n2 : New (B + 1) f) (n3 : New (B + 1) r) :
    Half w B n (k + 1) D (((W.setCell ⟨B, k * 3, none⟩ v).setCell ⟨B, k * 3 + 1, none⟩ f).setCell ⟨B, k * 3 + 2, none⟩ r) := by
  obtain ⟨xs, hl, hr, hx⟩ := h.row
  have hu : Upd (· = B) W (((W.setCell ⟨B, k * 3, none⟩ v).setCell ⟨B, k * 3 + 1, none⟩ f).setCell ⟨B, k * 3 + 2, none⟩ r) := (((Upd.refl (· = B) W).setCell (p := ⟨B, k * 3, none⟩) (.inl rfl) _).setCell (p := ⟨B, k * 3 + 1, none⟩) (.inl rfl) _).setCell (p := ⟨B, k * 3 + 2, none⟩) (.inl rfl) _
  have hbw : Below w.heap.size w W := h.bel.trans (hb.mono h.bel.size)
  refine ⟨((hbw.setCell (p := ⟨B, k * 3, none⟩) hB v).setCell (p := ⟨B, k * 3 + 1, none⟩) hB f).setCell (p := ⟨B, k * 3 + 2, none⟩) hB r, ((xs.set (k * 3) v).set (k * 3 + 1) f).set (k * 3 + 2) r, by simp [hl], (((hr.kept hb).set _ _).set _ _).set _ _, fun j y hj hy => ?_⟩
  rcases Nat.lt_or_ge j k with hlt | hge
  · obtain ⟨v', f', r', a1, a2, a3, b1, b2, b3, c1, c2, c3⟩ := hx j y hlt hy
    refine ⟨v', f', r', ?_, ?_, ?_, strU (b1.kept hb) hu c1, strU (b2.kept hb) hu c2, intU (b3.kept hb) hu c3, c1, c2, c3⟩
    · rw [List.getElem?_set_ne (by omega), List.getElem?_set_ne (by omega), List.getElem?_set_ne (by omega)]; exact a1
    · rw [List.getElem?_set_ne (by omega), List.getElem?_set_ne (by omega), List.getElem?_set_ne (by omega)]; exact a2
    · rw [List.getElem?_set_ne (by omega), List.getElem?_set_ne (by omega), List.getElem?_set_ne (by omega)]; exact a3
  · obtain rfl : j = k := by omega
    rw [hz] at hy; cases hy
    refine ⟨v, f, r, ?_, ?_, ?_, strU h1 hu n1, strU h2 hu n2, intU h3 hu n3, n1, n2, n3⟩
    · rw [List.getElem?_set_ne (by omega), List.getElem?_set_ne (by omega), List.getElem?_set_self (by omega)]
    · rw [List.getElem?_set_ne (by omega), List.getElem?_set_self (by simp; omega)]
    · rw [List.getElem?_set_self (by simp; omega)]

theorem zs_nil (w : World) : Calls Try.prog 29 #[.slice none 0 0] w fun e w' => e = .returned (.slice none 0 0) ∧ w = w' := by
  have hn := Lib.run_eql_slice_nil (P := Try.prog)
  go_enter Try.func29, Try.ntmps29
  go_wp2_with fail
  go_ret
  exact ⟨rfl, rfl⟩
set_option maxRecDepth 100000 in
set_option maxHeartbeats 2000000 in
theorem zs_some (w : World) (x : Addr) (cap : Nat) (D : List Zs) (hc1 : D.length ≤ cap) (hc2 : cap ≤ maxLen) (hat : ∀ k z, D[k]? = some z → ZsAt w x k z) (hl : D.length ≤ 2097152)
    (hls : ∀ (k : Nat) (z : Zs), D[k]? = some z → z.vars.length ≤ 2097152 ∧ z.funcs.length ≤ 2097152 ∧ z.ars.length ≤ 2097152) :
    Calls Try.prog 29 #[.slice (some x) D.length cap] w fun e w' => ∃ v, e = .returned v ∧ ZsRow w' v D ∧ Below w.heap.size w w' := by
  obtain ⟨i0, hi, hz0, hz1, hz2⟩ := info_parts info59
  have hnl := Lib.run_eql_slice_nil (P := Try.prog)
  obtain ⟨n, hn⟩ : ∃ n, n = D.length := ⟨_, rfl⟩
  have HN := Lib.hid hn
  have HC := Lib.hid hat
  have HL := Lib.hid hls
  rw [← hn] at hl hc1 ⊢
  clear hat hn hls
  go_enter Try.func29, Try.ntmps29
  go_wp2_with (at_make; refine wpList_make_full _ rfl _ _ 41 rfl w.heap.size 59 i0 z59 3 Try.underlying41 hi hz0 hz1 .i64 .i64 _ _ n rfl rfl rfl rfl (by rw [hz2]; omega) (by unfold maxLen; omega) (Nat.le_refl _) ?_; intro w0 hown0 hgrow0)
  obtain ⟨B, hB⟩ : ∃ B, B = w.heap.size := ⟨_, rfl⟩
  have HB := Lib.hid hB
  have hh : Half w B n 0 D w0 := by
    refine ⟨(Below.refl _ _).grown hgrow0 (Nat.le_refl _) (fun k hk => by cases hk), _, ?_, hB ▸ Row.of_own3 hown0, fun j z h => by omega⟩
    exact hown0.1
  rw [← hB]
  clear hown0 hgrow0 hB
  go_loopw [4, 5] (fun i _ wr => ∃ k : Nat, k ≤ n ∧ i = .int .i64 k ∧ Hid (Half w B n k D wr)) (fun i _ _ => n - (intOf i).toNat)
  case atStart => exact ⟨0, Nat.zero_le _, rfl, hh⟩
  case round =>
    obtain ⟨k, hk, rfl, HR⟩ := hrel
    clear hh
    by_cases hlt : k < n
    · obtain ⟨z, hz⟩ : ∃ z, D[k]? = some z := ⟨_, List.getElem?_eq_getElem (by have := HN.out; omega)⟩
      obtain ⟨v, f, r, h1, h2, h3, h4, h5, h6⟩ := (HC.out k z hz).kept HR.out.bel
      obtain ⟨l1, l2, l3⟩ := HL.out k z hz
      obtain ⟨W, hW⟩ : ∃ W, W = wr.alloc (Obj.cells #[Value.slice none 0 0, Value.slice none 0 0, Value.slice none 0 0] 59) := ⟨_, rfl⟩
      have hxr : x.block < wr.heap.size := zs.addr_lt h1
      have hbW : Below wr.heap.size wr W := by rw [hW]; exact (Below.refl _ _).alloc (Nat.le_refl _) _
      have hS0 : Blk W wr.heap.size #[.slice none 0 0, .slice none 0 0, .slice none 0 0] 59 := by rw [hW]; exact Blk.new _ _ _
      have old : ∀ (W' : World) (q : Nat), Below wr.heap.size wr W' → W'.cell? (x.add q) = wr.cell? (x.add q) := fun W' q hb => hb.cell (p := x.add q) (by rw [zs.add_block]; exact hxr)
      have g1 := (old W (k * 3) hbW).trans h1
      rw [hW] at g1
      have HG2 : Hid (∀ W', Below wr.heap.size wr W' → W'.cell? ⟨(x.add (k * 3)).block, (x.add (k * 3)).off + 1, none⟩ = some f) := fun W' hb => by have := (old W' (k * 3 + 1) hb).trans h2; rwa [add_succ x (k * 3)] at this
      have HG3 : Hid (∀ W', Below wr.heap.size wr W' → W'.cell? ⟨(x.add (k * 3)).block, (x.add (k * 3)).off + 2, none⟩ = some r) := fun W' hb => by have := (old W' (k * 3 + 2) hb).trans h3; rwa [add_succ x (k * 3)] at this
      have HS0 := Lib.hid hS0
      have HBW := Lib.hid hbW
      have H4 := Lib.hid (h4.kept hbW)
      have H5 := Lib.hid h5
      have H6 := Lib.hid h6
      have HZ := Lib.hid hz
      have hbR : B < wr.heap.size := by obtain ⟨xs, _, hr, _⟩ := HR.out.row; exact hr.lt
      clear h1 h2 h3 h4 h5 h6 old hbW hS0 hz hxr HC HL
      go_wp2_with fail
      rw [← hW]
      go_at_call 14
      refine (copy.strs W v z.vars H4.out l1).mono ?_
      rintro e w1 ⟨v', rfl, a1, a2, a3⟩
      obtain ⟨va, vn, vc, rfl⟩ := str_form a1
      have hS1 := HS0.out.kept (Upd.of_below (S := fun _ => False) a3) id
      have hb1 : Below wr.heap.size wr w1 := HBW.out.trans (a3.mono HBW.out.size)
      have a2' : New (wr.heap.size + 1) (.slice va vn vc) := new_mono a2 HS0.out.lt
      have e0 : w1.cell? ⟨wr.heap.size, 0, none⟩ = some (.slice none 0 0) := by rw [hS1.cell]; rfl
      have f0 := hS1.free 0
      have g2 := HG2.out (w1.setCell ⟨wr.heap.size, 0, none⟩ (.slice va vn vc)) (hb1.setCell (Nat.le_refl _) _)
      have HN1 := Lib.hid a2'
      have HS1 := Lib.hid (hS1.set 0 (.slice va vn vc))
      have HBW1 : Hid (Below wr.heap.size wr (w1.setCell ⟨wr.heap.size, 0, none⟩ (.slice va vn vc))) := hb1.setCell (Nat.le_refl _) _
      have HA1 : Hid (StrRow (w1.setCell ⟨wr.heap.size, 0, none⟩ (.slice va vn vc)) (.slice va vn vc) z.vars) := strU a1 ((Upd.refl (· = wr.heap.size) w1).setCell (.inl rfl) _) a2'
      have hSl := hS1.lt
      clear a1 a2 a3 a2' hS1 hb1 HS0 HBW H4
      go_wp2_with fail
      go_at_call 14
      refine (copy.strs _ f z.funcs (H5.out.kept HBW1.out) l2).mono ?_
      rintro e w2 ⟨f', rfl, a1, a2, a3⟩
      obtain ⟨fa, fn, fc, rfl⟩ := str_form a1
      have hS1 := HS1.out.kept (Upd.of_below (S := fun _ => False) a3) id
      have hb1 : Below wr.heap.size wr w2 := HBW1.out.trans (a3.mono HBW1.out.size)
      have a2' : New (wr.heap.size + 1) (.slice fa fn fc) := new_mono a2 HS1.out.lt
      have e1 : w2.cell? ⟨wr.heap.size, 1, none⟩ = some (.slice none 0 0) := by rw [hS1.cell]; rfl
      have f1 := hS1.free 1
      have g3 := HG3.out (w2.setCell ⟨wr.heap.size, 1, none⟩ (.slice fa fn fc)) (hb1.setCell (Nat.le_refl _) _)
      have HN2 := Lib.hid a2'
      have HS2 := Lib.hid (hS1.set 1 (.slice fa fn fc))
      have HBW2 : Hid (Below wr.heap.size wr (w2.setCell ⟨wr.heap.size, 1, none⟩ (.slice fa fn fc))) := hb1.setCell (Nat.le_refl _) _
      have HA2 : Hid (StrRow (w2.setCell ⟨wr.heap.size, 1, none⟩ (.slice fa fn fc)) (.slice fa fn fc) z.funcs) := strU a1 ((Upd.refl (· = wr.heap.size) w2).setCell (.inl rfl) _) a2'
      have HA1' : Hid (StrRow (w2.setCell ⟨wr.heap.size, 1, none⟩ (.slice fa fn fc)) (.slice va vn vc) z.vars) := strU (HA1.out.kept a3) ((Upd.refl (· = wr.heap.size) w2).setCell (.inl rfl) _) HN1.out
      have hSl2 := hS1.lt
      clear a1 a2 a3 a2' hS1 hb1 HS1 HBW1 H5 HA1 e0 f0 g2 hSl HG2 HG3
      go_wp2_with fail
      go_at_call 15
      refine (copy.ints _ r z.ars (H6.out.kept HBW2.out) l3).mono ?_
      rintro e w3 ⟨r', rfl, a1, a2, a3⟩
      obtain ⟨ra, rn, rc, rfl⟩ := int_form a1
      have hS1 := HS2.out.kept (Upd.of_below (S := fun _ => False) a3) id
      have hb1 : Below wr.heap.size wr w3 := HBW2.out.trans (a3.mono HBW2.out.size)
      have a2' : New (wr.heap.size + 1) (.slice ra rn rc) := new_mono a2 HS2.out.lt
      have e2 : w3.cell? ⟨wr.heap.size, 2, none⟩ = some (.slice none 0 0) := by rw [hS1.cell]; rfl
      have f2 := hS1.free 2
      obtain ⟨W6, hW6⟩ : ∃ W6, W6 = w3.setCell ⟨wr.heap.size, 2, none⟩ (.slice ra rn rc) := ⟨_, rfl⟩
      have hS6 : Blk W6 wr.heap.size #[.slice va vn vc, .slice fa fn fc, .slice ra rn rc] 59 := by
        have := hS1.set 2 (.slice ra rn rc); rw [← hW6] at this; simpa using this
      have hB6 : Below wr.heap.size wr W6 := by rw [hW6]; exact hb1.setCell (Nat.le_refl _) _
      have hu6 : Upd (· = wr.heap.size) w3 W6 := by rw [hW6]; exact (Upd.refl (· = wr.heap.size) w3).setCell (.inl rfl) _
      have HH := Lib.hid (HR.out.next (by rw [HB.out]; exact Nat.le_refl _) hlt HZ.out hB6 (strU (HA1'.out.kept a3) hu6 HN1.out) (strU (HA2.out.kept a3) hu6 HN2.out) (intU a1 hu6 a2') (new_mono HN1.out (by omega)) (new_mono HN2.out (by omega)) (new_mono a2' (by omega)))
      have r0 : W6.cell? ⟨wr.heap.size, 0, none⟩ = some (.slice va vn vc) := by rw [hS6.cell]; rfl
      have r1 : W6.cell? ⟨wr.heap.size, 1, none⟩ = some (.slice fa fn fc) := by rw [hS6.cell]; rfl
      have r2 : W6.cell? ⟨wr.heap.size, 2, none⟩ = some (.slice ra rn rc) := by rw [hS6.cell]; rfl
      have hbl6 : B < W6.heap.size := Nat.lt_of_lt_of_le hbR hB6.size
      have bf : ∀ j, W6.frozen? ⟨B, j, none⟩ = false := fun j => by obtain ⟨xs, _, hr, _⟩ := HR.out.row; exact (hr.kept hB6).free j
      have bc : ∀ j, j < n * 3 → ∃ u, W6.cell? ⟨B, j, none⟩ = some u := fun j hj => by
        obtain ⟨xs, hl, hr, _⟩ := HR.out.row
        exact ⟨_, (hr.kept hB6).cell (List.getElem?_eq_getElem (by omega))⟩
      obtain ⟨u0, bc0⟩ := bc (k * 3) (by omega)
      obtain ⟨u1, bc1⟩ := bc (k * 3 + 1) (by omega)
      obtain ⟨u2, bc2⟩ := bc (k * 3 + 2) (by omega)
      have bf0 := bf (k * 3)
      have bf1 := bf (k * 3 + 1)
      have bf2 := bf (k * 3 + 2)
      have hsl3 := hS1.lt
      clear a1 a2 a3 a2' hS1 hb1 HS2 HBW2 H6 HA2 HA1' e1 f1 g3 hSl2 HN1 HN2 hu6 hB6 hS6 bf bc HZ HR l1 l2 l3
      rw [hW6] at r0 r1 r2 bc0 bc1 bc2 bf0 bf1 bf2 hbl6
      go_wp2_with fail
      rw [← hW6]
      go_roundw
      case rel => exact ⟨k + 1, by omega, by go_num, HH⟩
      case measure => simp [intOf]; omega
    · obtain rfl : k = n := by omega
      have HF : Hid (ZsRow wr (.slice (some ⟨B, 0, none⟩) k k) D ∧ Below w.heap.size w wr) := by
        refine ⟨.inr ⟨⟨B, 0, none⟩, k, by rw [← HN.out], by rw [← HN.out]; exact Nat.le_refl _, by omega, fun j z hz => ?_⟩, HR.out.bel⟩
        · obtain ⟨xs, hl, hr, hx⟩ := HR.out.row
          have hj : j < k := by rw [HN.out]; exact (List.getElem?_eq_some_iff.1 hz).1
          obtain ⟨v, f, r, a1, a2, a3, b1, b2, b3, _⟩ := hx j z hj hz
          refine ⟨v, f, r, ?_, ?_, ?_, b1, b2, b3⟩
          · rw [fill.add_none, Nat.zero_add]; exact hr.cell a1
          · rw [fill.add_none, Nat.zero_add]; exact hr.cell a2
          · rw [fill.add_none, Nat.zero_add]; exact hr.cell a3
      clear HR HC HL
      go_wp2_with fail
      go_ret
      exact ⟨_, rfl, HF.out.1, HF.out.2⟩
theorem zs (w : World) (v : Value) (D : List Zs) (h : ZsRow w v D) (hl : D.length ≤ 2097152)
    (hls : ∀ (k : Nat) (z : Zs), D[k]? = some z → z.vars.length ≤ 2097152 ∧ z.funcs.length ≤ 2097152 ∧ z.ars.length ≤ 2097152) :
    Calls Try.prog 29 #[v] w fun e w' => ∃ v', e = .returned v' ∧ ZsRow w' v' D ∧ Below w.heap.size w w' := by
  rcases h with ⟨rfl, rfl⟩ | ⟨x, cap, rfl, h1, h2, h4⟩
  · refine (zs_nil w).mono ?_
    rintro e w' ⟨rfl, rfl⟩
    exact ⟨_, rfl, .inl ⟨rfl, rfl⟩, Below.refl _ _⟩
  · exact zs_some w x cap D h1 h2 h4 hl hls
end Go.Proofs.Ytmfpmpbilekbgaa.copyz
