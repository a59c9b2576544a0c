/- What the environment's small methods do. -/
import Derived.Test.YtemifkcgmfincaaEnv
import Derived.IntWalk
namespace Go.Proofs.Ytemifkcgmfincaa.ops
open Go.ChangeShapes Go.WideShapes Go.ChangeAt Go.RowKit
open upd env plain

theorem setOffset (w : World) (base eb : Nat) (col : Nat → Nat) (s : St) (x : Int) (h : EnvAt base w eb col s) :
    Calls Try.prog 14 #[.pointer (some ⟨eb, 0, none⟩), .int .i64 x] w fun e w' => e = .returned (.tuple #[]) ∧ Nxt base eb w col { s with off := x } w' := by
  obtain ⟨sb, pb, cb, dv, dc, fv, h⟩ := h
  obtain ⟨c1, c2, c3, c7, c9, c10, cf, hl⟩ := h.mem
  have H := Lib.hid h
  clear h
  go_enter Try.func14, Try.ntmps14
  go_wp2_with fail
  go_end0
  obtain ⟨h1, h2⟩ := H.out.setOff x
  exact ⟨rfl, col, ⟨_, _, _, _, _, _, h1⟩, fun _ _ => rfl, h2⟩
theorem setExpdepth (w : World) (base eb : Nat) (col : Nat → Nat) (s : St) (x : Int) (h : EnvAt base w eb col s) :
    Calls Try.prog 15 #[.pointer (some ⟨eb, 0, none⟩), .int .i64 x] w fun e w' => e = .returned (.tuple #[]) ∧ Nxt base eb w col { s with ex := x } w' := by
  obtain ⟨sb, pb, cb, dv, dc, fv, h⟩ := h
  obtain ⟨c1, c2, c3, c7, c9, c10, cf, hl⟩ := h.mem
  have H := Lib.hid h
  clear h
  go_enter Try.func15, Try.ntmps15
  go_wp2_with fail
  go_end0
  obtain ⟨h1, h2⟩ := H.out.setEx x
  exact ⟨rfl, col, ⟨_, _, _, _, _, _, h1⟩, fun _ _ => rfl, h2⟩
theorem offset (w : World) (base eb : Nat) (col : Nat → Nat) (s : St) (h : EnvAt base w eb col s) :
    Calls Try.prog 21 #[.pointer (some ⟨eb, 0, none⟩)] w fun e w' => e = .returned (.int .i64 s.off) ∧ w = w' := by
  obtain ⟨sb, pb, cb, dv, dc, fv, h⟩ := h
  obtain ⟨c1, c2, c3, c7, c9, c10, cf, hl⟩ := h.mem
  clear h
  go_enter Try.func21, Try.ntmps21
  go_wp2_with fail
  go_ret
  exact ⟨rfl, rfl⟩
theorem expdepth (w : World) (base eb : Nat) (col : Nat → Nat) (s : St) (h : EnvAt base w eb col s) :
    Calls Try.prog 22 #[.pointer (some ⟨eb, 0, none⟩)] w fun e w' => e = .returned (.int .i64 s.ex) ∧ w = w' := by
  obtain ⟨sb, pb, cb, dv, dc, fv, h⟩ := h
  obtain ⟨c1, c2, c3, c7, c9, c10, cf, hl⟩ := h.mem
  clear h
  go_enter Try.func22, Try.ntmps22
  go_wp2_with fail
  go_ret
  exact ⟨rfl, rfl⟩
theorem own_slice {w : World} {base : Nat} {e : TypeId} {size : Nat} {v : Value} {n : Nat} {xs : List Value} (h : w.ownsRow base e size v n xs) : ∃ sa sc, v = .slice sa n sc := by
  rcases own_form h with ⟨h, h0, _⟩ | ⟨g, cap, h, _⟩
  · exact ⟨_, _, by rw [h, h0]⟩
  · exact ⟨_, _, h⟩
theorem forks (w : World) (base eb : Nat) (col : Nat → Nat) (s : St) (h : EnvAt base w eb col s) :
    Calls Try.prog 20 #[.pointer (some ⟨eb, 0, none⟩)] w fun e w' => e = .returned (.int .i64 s.F.length) ∧ w = w' := by
  obtain ⟨sb, pb, cb, dv, dc, fv, h⟩ := h
  obtain ⟨c1, c2, c3, c7, c9, c10, cf, hl⟩ := h.mem
  obtain ⟨sa, sc, rfl⟩ := own_slice h.fr
  clear h
  go_enter Try.func20, Try.ntmps20
  go_wp2_with fail
  go_ret
  exact ⟨rfl, rfl⟩
theorem stackEmpty (w : World) (base eb : Nat) (col : Nat → Nat) (s : St) (h : EnvAt base w eb col s) :
    Calls Try.prog 23 #[.pointer (some ⟨eb, 0, none⟩)] w fun e w' => e = .returned (.bool (decide (s.vi < 0))) ∧ w = w' := by
  obtain ⟨sb, pb, cb, dv, dc, fv, h⟩ := h
  obtain ⟨c1, c2, c3, c7, c9, c10, cf, hl⟩ := h.mem
  have HV := Lib.hid h.vs
  clear h
  go_enter Try.func23, Try.ntmps23
  go_wp2_with (go_at_call 43; refine (vstk.empty_any _ _ _ _ _ _ _ HV.out).mono ?_; rintro e w1 ⟨rfl, rfl⟩)
  go_ret
  exact ⟨rfl, rfl⟩
theorem scopesEmpty (w : World) (base eb : Nat) (col : Nat → Nat) (s : St) (h : EnvAt base w eb col s) :
    Calls Try.prog 24 #[.pointer (some ⟨eb, 0, none⟩)] w fun e w' => e = .returned (.bool (decide (s.ci < 0))) ∧ w = w' := by
  obtain ⟨sb, pb, cb, dv, dc, fv, h⟩ := h
  obtain ⟨c1, c2, c3, c7, c9, c10, cf, hl⟩ := h.mem
  have HV := Lib.hid h.ss
  clear h
  go_enter Try.func24, Try.ntmps24
  go_wp2_with (go_at_call 44; refine (sstk.empty_any _ _ _ _ _ _ _ HV.out).mono ?_; rintro e w1 ⟨rfl, rfl⟩)
  go_ret
  exact ⟨rfl, rfl⟩
theorem scopesIndex (w : World) (base eb : Nat) (col : Nat → Nat) (s : St) (h : EnvAt base w eb col s) :
    Calls Try.prog 35 #[.pointer (some ⟨eb, 0, none⟩)] w fun e w' => e = .returned (.int .i64 s.ci) ∧ w = w' := by
  obtain ⟨sb, pb, cb, dv, dc, fv, h⟩ := h
  obtain ⟨c1, c2, c3, c7, c9, c10, cf, hl⟩ := h.mem
  obtain ⟨s0, s1, s2, g0, g1, g2⟩ := h.ss.cells
  clear h
  go_enter Try.func35, Try.ntmps35
  go_wp2_with fail
  go_ret
  exact ⟨rfl, rfl⟩
theorem sz (w : World) (o : Obj) : (w.alloc o).heap.size = w.heap.size + 1 := by simp
/-- a fresh environment -/
def st0 : St := ⟨[], -1, -1, [], -1, -1, [], 0, 0⟩
theorem newEnv (w : World) (col : Nat → Nat) : Calls Try.prog 11 #[] w fun e w' => e = .returned (.pointer (some ⟨w.heap.size + 1 + 1 + 1, 0, none⟩)) ∧ Below w.heap.size w w' ∧ w.heap.size ≤ w'.heap.size ∧ ∃ col', EnvAt w.heap.size w' (w.heap.size + 1 + 1 + 1) col' st0 ∧ ∀ k, k < w.heap.size → col' k = col k := by
  go_enter Try.func11, Try.ntmps11
  go_wp2_with fail
  go_ret
  refine ⟨rfl, ((((Below.refl _ _).alloc (Nat.le_refl _) _).alloc (by simp) _).alloc (by simp; omega) _).alloc (by simp; omega) _, by simp; omega, re (re (re (re col w.heap.size 1) (w.heap.size + 1) 2) (w.heap.size + 1 + 1) 3) (w.heap.size + 1 + 1 + 1) 0, ⟨w.heap.size, w.heap.size + 1, w.heap.size + 1 + 1, .slice none 0 0, .slice none 0 0, .slice none 0 0, ?_⟩, fun k hk => ?_⟩
  · have b1 := Blk.new w #[.slice none 0 0, .int .i64 (-1), .int .i64 (-1)] 53
    have b2 := Blk.new (w.alloc (.cells #[.slice none 0 0, .int .i64 (-1), .int .i64 (-1)] 53)) #[.slice none 0 0, .int .i64 (-1), .int .i64 (-1)] 53
    have b3 := Blk.new ((w.alloc (.cells #[.slice none 0 0, .int .i64 (-1), .int .i64 (-1)] 53)).alloc (.cells #[.slice none 0 0, .int .i64 (-1), .int .i64 (-1)] 53)) #[.slice none 0 0, .int .i64 (-1), .int .i64 (-1)] 57
    have b4 := Blk.new (((w.alloc (.cells #[.slice none 0 0, .int .i64 (-1), .int .i64 (-1)] 53)).alloc (.cells #[.slice none 0 0, .int .i64 (-1), .int .i64 (-1)] 53)).alloc (.cells #[.slice none 0 0, .int .i64 (-1), .int .i64 (-1)] 57)) (cells w.heap.size (w.heap.size + 1) (w.heap.size + 1 + 1) (.slice none 0 0) 0 0) 66
    simp only [sz] at b2 b3 b4
    exact { vs := ⟨((b1.alloc _).alloc _).alloc _, World.ownsRow_nil _ _ _ _, by simp [Value.ownBlock]⟩, ps := ⟨(b2.alloc _).alloc _, World.ownsRow_nil _ _ _ _, by simp [Value.ownBlock]⟩, ss := ⟨b3.alloc _, World.ownsRow_nil _ _ _ _, by simp [Value.ownBlock]⟩, blk := b4, fr := World.ownsRow_nil _ _ _ _,
            ce := re_new _ _ _, cs := by unfold re; rw [if_neg (by omega), if_neg (by omega), if_neg (by omega), if_pos rfl], cp := by unfold re; rw [if_neg (by omega), if_neg (by omega), if_pos rfl], cc := by unfold re; rw [if_neg (by omega), if_pos rfl], cd := Col.nil _ _, cdc := Col.nil _ _, cf := Col.nil _ _, he := by omega, hs := by omega, hp := by omega, hc := by omega }
  · simp only [re]; rw [if_neg (by omega), if_neg (by omega), if_neg (by omega), if_neg (by omega)]

theorem push37 (w : World) (base eb : Nat) (col : Nat → Nat) (s : St) (v : Int) (h : EnvAt base w eb col s) (hw : Wf s.D s.vi s.vl) (hbase : base ≤ w.heap.size) (hbd : s.D.length ≤ 1000000) :
    Calls Try.prog 37 #[.pointer (some ⟨eb, 0, none⟩), .iface 3 (.int .i64 v)] w fun e w' => e = .returned (.tuple #[]) ∧ Nxt base eb w col { s with D := put s.D (top s.vi s.vl) (v, s.vi), vi := top s.vi s.vl } w' := by
  obtain ⟨sb, pb, cb, dv, dc, fv, h⟩ := h
  obtain ⟨c1, c2, c3, c7, c9, c10, cf, hl⟩ := h.mem
  have HP := Lib.hid (vstk.push w base sb dv s.D s.vi s.vl v h.vs hw hbase hbd)
  unfold vstk.scv at HP
  have H := Lib.hid h
  clear h hw
  go_enter Try.func37, Try.ntmps37
  go_wp2_with (go_at_call 46; refine HP.out.mono ?_; rintro e w1 ⟨rfl, dv', h1, h2, h3⟩)
  go_end0
  obtain ⟨col', h4, h5, h6⟩ := H.out.vstep h1 h2 h3
  exact ⟨rfl, col', ⟨_, _, _, _, _, _, h4⟩, h5, h6⟩
theorem pushInt (w : World) (base eb : Nat) (col : Nat → Nat) (s : St) (v : Int) (h : EnvAt base w eb col s) (hw : Wf s.D s.vi s.vl) (hbase : base ≤ w.heap.size) (hbd : s.D.length ≤ 1000000) :
    Calls Try.prog 12 #[.pointer (some ⟨eb, 0, none⟩), .int .i64 v] w fun e w' => e = .returned (.tuple #[]) ∧ Nxt base eb w col { s with D := put s.D (top s.vi s.vl) (v, s.vi), vi := top s.vi s.vl } w' := by
  have HP := Lib.hid (push37 w base eb col s v h hw hbase hbd)
  clear h hw
  go_enter Try.func12, Try.ntmps12
  go_wp2_with (go_at_call 37; refine HP.out.mono ?_; rintro e w1 ⟨rfl, h1⟩)
  go_end0
  exact ⟨rfl, h1⟩
theorem pushScope (w : World) (base eb : Nat) (col : Nat → Nat) (s : St) (x0 x1 x2 x3 x4 : Int) (h : EnvAt base w eb col s) (hw : Wf s.C s.ci s.cl) (hbase : base ≤ w.heap.size) (hbd : s.C.length ≤ 1000000) :
    Calls Try.prog 13 #[.pointer (some ⟨eb, 0, none⟩), .int .i64 x0, .int .i64 x1, .int .i64 x2, .int .i64 x3, .int .i64 x4] w fun e w' => e = .returned (.tuple #[]) ∧ Nxt base eb w col { s with C := put s.C (top s.ci s.cl) ((x0, x1, x2, x3, x4), s.ci), ci := top s.ci s.cl } w' := by
  obtain ⟨sb, pb, cb, dv, dc, fv, h⟩ := h
  obtain ⟨c1, c2, c3, c7, c9, c10, cf, hl⟩ := h.mem
  have HP := Lib.hid (sstk.push w base cb dc s.C s.ci s.cl (x0, x1, x2, x3, x4) h.ss hw hbase hbd)
  unfold sstk.scv at HP
  dsimp only at HP
  have H := Lib.hid h
  clear h hw
  go_enter Try.func13, Try.ntmps13
  go_wp2_with (go_at_call 38; refine HP.out.mono ?_; rintro e w1 ⟨rfl, dv', h1, h2, h3⟩)
  go_end0
  obtain ⟨col', h4, h5, h6⟩ := H.out.sstep h1 h2 h3
  exact ⟨rfl, col', ⟨_, _, _, _, _, _, h4⟩, h5, h6⟩
theorem ta_int (x : Value) (w : World) : (Instr.typeAssert (.iface 3 x) 20 3 true).run Try.prog w = .ok (.tuple #[x, .bool true]) w := by kernel_rfl
theorem pop40 (w : World) (base eb : Nat) (col : Nat → Nat) (s : St) (k : Nat) (v n : Int) (h : EnvAt base w eb col s) (hi : s.vi = k) (hk : s.D[k]? = some (v, n)) :
    Calls Try.prog 40 #[.pointer (some ⟨eb, 0, none⟩)] w fun e w' => e = .returned (.iface 3 (.int .i64 v)) ∧ Nxt base eb w col { s with vi := n } w' := by
  obtain ⟨sb, pb, cb, dv, dc, fv, h⟩ := h
  obtain ⟨c1, c2, c3, c7, c9, c10, cf, hl⟩ := h.mem
  have HP := Lib.hid (vstk.pop w base sb dv s.D s.vi s.vl k v n h.vs hi hk)
  unfold vstk.scv at HP
  have H := Lib.hid h
  clear h hi hk
  go_enter Try.func40, Try.ntmps40
  go_wp2_with (go_at_call 50; refine HP.out.mono ?_; rintro e w1 ⟨rfl, h1, h2⟩)
  go_ret
  obtain ⟨col', h4, h5, h6⟩ := H.out.vstep h1 (h2.mono (fun _ _ h => .inl h)) (.inl rfl)
  exact ⟨rfl, col', ⟨_, _, _, _, _, _, h4⟩, h5, h6⟩
theorem popInt (w : World) (base eb : Nat) (col : Nat → Nat) (s : St) (k : Nat) (v n : Int) (h : EnvAt base w eb col s) (hi : s.vi = k) (hk : s.D[k]? = some (v, n)) :
    Calls Try.prog 17 #[.pointer (some ⟨eb, 0, none⟩)] w fun e w' => e = .returned (.int .i64 v) ∧ Nxt base eb w col { s with vi := n } w' := by
  have HP := Lib.hid (pop40 w base eb col s k v n h hi hk)
  have hta := ta_int
  clear h hi hk
  go_enter Try.func17, Try.ntmps17
  go_wp2_with (go_at_call 40; refine HP.out.mono ?_; rintro e w1 ⟨rfl, h1⟩)
  go_ret
  exact ⟨rfl, h1⟩
end Go.Proofs.Ytemifkcgmfincaa.ops
