/- copy of elements of any number of cells, and the statement's two copies of slices of its own. -/
import Derived.Test.YtemifkcgmfincaaSteps
import Derived.Laws.CopyOwn
set_option linter.unusedVariables false
namespace Go.Proofs.Ytemifkcgmfincaa.wide
open Go.ChangeShapes Go.WideShapes Go.ChangeAt Go.RowKit
open upd env plain ops forks popf fill init steps

theorem run_copy_wide {P : Program} (w : World) (dT sT ty elem : TypeId) (g o dLen dCap : Nat) (a : Addr) (sLen sCap size n : Nat) (cur : Array Value) (t : TypeId) (cs : List Value)
    (hu : P.underlying dT = some (.slice elem)) (hs : (P.info? elem).map (·.size) = some size)
    (hg : w.heap[g]? = some (.cells cur t (0, 0))) (hn : Nat.min sLen dLen = n) (hc : cs.length = n * size)
    (hsrc : ∀ j v, cs[j]? = some v → w.cell? (a.add j) = some v) (hfit : o + cs.length ≤ cur.size) (h1 : ∀ v ∈ cs, v.oneCell' = true) :
    (Builtin.copy_ #[dT, sT] ty #[.slice (some ⟨g, o, none⟩) dLen dCap, .slice (some a) sLen sCap]).run P w =
      .ok (goInt n) (w.setRow g (cur.toList.take o ++ cs ++ cur.toList.drop (o + cs.length)).toArray) := by
  have hl := run_loadCells_list (P := P) w a cs hsrc
  have hst := run_storeCells_at P g o t cs 0 cur w hg (by simpa using hfit) h1
  cases hq : P.info? elem with
  | none => simp [hq] at hs
  | some i =>
    have hi : i.size = size := by simpa [hq] using hs
    simp [Builtin.copy_, run_underlying hu, Builtin.lenOf, Builtin.firstCells, sizeOf, typeInfo, hq, hi, hn, ← hc, hl, hst]
theorem run_copy_zero {P : Program} (w : World) (dT sT ty elem : TypeId) (d a : Option Addr) (dLen dCap sLen sCap size : Nat) (hu : P.underlying dT = some (.slice elem)) (hs : (P.info? elem).map (·.size) = some size) (hn : Nat.min sLen dLen = 0) :
    (Builtin.copy_ #[dT, sT] ty #[.slice d dLen dCap, .slice a sLen sCap]).run P w = .ok (goInt 0) w := by
  cases hq : P.info? elem with
  | none => simp [hq] at hs
  | some i =>
    have hl : ∀ (x : Addr), (loadCells x 0).run P w = .ok #[] w := fun x => by simpa using run_loadCells_list (P := P) w x [] (by simp)
    cases d <;> cases a <;> simp [Builtin.copy_, run_underlying hu, Builtin.lenOf, Builtin.firstCells, sizeOf, typeInfo, hq, hn, storeCells, hl]
/-- a whole row is written over -/
theorem wpList_copy_whole {P : Program} {w : World} {ops : Array Oper} {rest : List Oper} {o : Oper} {a : Act} {Q : Exit → Act → World → Prop} (hgd : o.guard = none) (d s : Operand) (dT sT : TypeId)
    (ho : o.op = .call { callee := .builtin .copy, args := #[d, s], argTypes := #[dT, sT] }) (elem : TypeId) (size : Nat) (hu : P.underlying dT = some (.slice elem)) (hsz : (P.info? elem).map (·.size) = some size)
    (sp : Option Addr) (n dCap sCap g : Nat) (hd : a.eval d = .slice (some ⟨g, 0, none⟩) n dCap) (hs : a.eval s = .slice sp n sCap)
    (cur : Array Value) (t : TypeId) (hg : w.heap[g]? = some (.cells cur t (0, 0))) (hcur : cur.size = n * size) (cs : List Value) (hc : cs.length = n * size)
    (hpos : 0 < n → ∃ ad, sp = some ad ∧ ∀ j v, cs[j]? = some v → w.cell? (ad.add j) = some v) (h1 : ∀ v ∈ cs, v.oneCell' = true) (B : Nat) (w0 : World) (hb : Below B w0 w) (hBg : B ≤ g)
    (h : ∀ w', Hid (w'.heap[g]? = some (.cells cs.toArray t (0, 0))) → Below B w0 w' → wpList P ops Q rest (a.put o.dst (goInt n)) w') :
    wpList P ops Q (o :: rest) a w := by
  by_cases h0 : n = 0
  · subst h0
    simp only [Nat.zero_mul] at hc hcur
    obtain rfl : cs = [] := List.eq_nil_of_length_eq_zero hc
    have hrun := run_copy_zero (P := P) w dT sT o.type elem (some ⟨g, 0, none⟩) sp 0 dCap 0 sCap size hu hsz rfl
    have hk := h w (by have : cur = #[] := Array.eq_empty_of_size_eq_zero hcur
                       show _ = _
                       rw [hg, this]) hb
    refine wpList_plain hgd fun K hK => ?_
    unfold Oper.wp
    simp [execOp, ho, resolve, invoke, builtin, hd, hs, hrun, Result.andThen]
    exact hK _ _ hk
  · obtain ⟨ad, rfl, hsrc⟩ := hpos (by omega)
    have hrun := run_copy_wide (P := P) w dT sT o.type elem g 0 n dCap ad n sCap size n cur t cs hu hsz hg (Nat.min_self n) hc hsrc (by omega) h1
    have hk := h _ (show _ = _ from setRow_heap w g cur cs.toArray t _ hg) (below_setRow hb hBg cs.toArray)
    have e : cur.toList.take 0 ++ cs ++ cur.toList.drop (0 + cs.length) = cs := by
      rw [List.take_zero, List.nil_append, List.drop_eq_nil_of_le (by simp; omega), List.append_nil]
    rw [e] at hrun
    refine wpList_plain hgd fun K hK => ?_
    unfold Oper.wp
    simp [execOp, ho, resolve, invoke, builtin, hd, hs, hrun, Result.andThen]
    exact hK _ _ hk

/-- a block that holds just these cells is an owned row -/
theorem own_of_block {w : World} {base g n size : Nat} {e : TypeId} {xs : List Value} (hg : w.heap[g]? = some (.cells xs.toArray e (0, 0))) (hb : base ≤ g) (hl : xs.length = n * size) (hn : n ≤ maxLen) : w.ownsRow base e size (.slice (some ⟨g, 0, none⟩) n n) n xs :=
  ⟨hl, .inr ⟨g, n, xs.toArray, rfl, hb, hg, Nat.le_refl _, hn, by simp [hl], by simp [List.take_of_length_le (Nat.le_of_eq hl)]⟩⟩
theorem own_block {w : World} {base g n size : Nat} {e : TypeId} {xs : List Value} (h : w.ownsRow base e size (.slice (some ⟨g, 0, none⟩) n n) n xs) : w.heap[g]? = some (.cells xs.toArray e (0, 0)) := by
  rcases h.2 with ⟨h', _⟩ | ⟨g', cap', cur, h', hb, hg, hnc, hcm, hcs, htake⟩
  · simp at h'
  · simp only [Value.slice.injEq, Option.some.injEq, Addr.mk.injEq, and_true, true_and] at h'
    obtain ⟨rfl, rfl⟩ := h'
    rw [List.take_of_length_le (by rw [Array.length_toList, hcs]; exact Nat.le_refl _)] at htake
    rw [hg, ← htake]
/-- its cells, by the walk's address -/
theorem own_src {w w0 : World} {base g n cap size : Nat} {e : TypeId} {xs : List Value} (h : w.ownsRow base e size (.slice (some ⟨g, 0, none⟩) n cap) n xs) (hb : Below w.heap.size w w0) : ∀ j v, xs[j]? = some v → w0.cell? ((⟨g, 0, none⟩ : Addr).add j) = some v := by
  intro j v hj
  have hjl := (List.getElem?_eq_some_iff.1 hj).1
  have hg := (h.lt g rfl).2
  rw [add_none, Nat.zero_add, hb.cell (p := ⟨g, j, none⟩) hg, h.cellAt j (by rw [← h.1]; exact hjl)]
  exact hj
def Cloned (e : TypeId) (size n : Nat) (xs : List Value) (w : World) (en : Ending) (w' : World) : Prop := ∃ v, en = .returned v ∧ w'.ownsRow w.heap.size e size v n xs ∧ Below w.heap.size w w'
theorem info42 : (Try.prog.info? 42).map (fun i => (i.zero, i.size, i.bytes)) = some (some (.agg #[.int .i64 0, .int .i64 0, .int .i64 0, .int .i64 0]), 4, 32) := by kernel_rfl
theorem size42 : (Try.prog.info? 42).map (·.size) = some 4 := by kernel_rfl
theorem clone10_own (w : World) (base n : Nat) (v : Value) (xs : List Value) (h : w.ownsRow base 3 1 v n xs) (h1 : ∀ v ∈ xs, v.oneCell' = true) (hl : n ≤ 4096) : Calls Try.prog 10 #[v] w (Cloned 3 1 n xs w) := by
  rcases own_form h with ⟨rfl, rfl, rfl⟩ | ⟨g, cap, rfl, _, hn, hg⟩
  · have hn := Lib.run_eql_slice_nil (P := Try.prog)
    clear h
    go_enter Try.func10, Try.ntmps10
    go_wp2_with fail
    go_ret
    exact ⟨_, rfl, World.ownsRow_nil _ _ _ _, Below.refl _ _⟩
  · obtain ⟨i0, hi, hz0, hz1, hz2⟩ := info_parts info3
    have hn := Lib.run_eql_slice_nil (P := Try.prog)
    have HO := Lib.hid h; have H1 := Lib.hid h1
    have hxl : Hid (xs.length = n * 1) := h.1
    clear h h1
    go_enter Try.func10, Try.ntmps10
    go_wp2_with (first | (at_make; refine wpList_make_full _ rfl _ _ 22 rfl w.heap.size 3 i0 (.int .i64 0) 1 Try.underlying22 hi hz0 hz1 .i64 .i64 _ _ n rfl rfl rfl rfl (by rw [hz2]; omega) (by unfold maxLen; omega) (Nat.le_refl _) ?_; intro w0 hown0 hgrow0; have hr0 := Lib.hid (own_block hown0); have hb0 : Hid (Below w.heap.size w w0) := (Below.refl _ _).grown hgrow0 (Nat.le_refl _) (fun k hk => by cases hk); have hl0 := Lib.hid hown0.1; clear hown0 hgrow0) | (have hguard := hr0; clear hguard; refine wpList_copy_whole rfl (.tmp 9) (.tmp 10) 22 22 rfl 3 1 Try.underlying22 size3 _ n n cap w.heap.size rfl rfl _ 3 hr0.out (by have := hl0.out; simp only [List.size_toArray]; exact this) xs hxl.out (fun _ => ⟨_, rfl, own_src HO.out hb0.out⟩) H1.out w.heap.size w hb0.out (Nat.le_refl _) ?_; intro w1 hg1 hb1; have HB1 := Lib.hid hb1; clear hb1))
    go_ret
    exact ⟨_, rfl, own_of_block hg1.out (Nat.le_refl _) hxl.out (by unfold maxLen; omega), HB1.out⟩
theorem clone27_own (w : World) (base n : Nat) (v : Value) (xs : List Value) (h : w.ownsRow base 42 4 v n xs) (h1 : ∀ v ∈ xs, v.oneCell' = true) (hl : n ≤ 4096) : Calls Try.prog 27 #[v] w (Cloned 42 4 n xs w) := by
  obtain ⟨i0, hi, hz0, hz1, hz2⟩ := info_parts info42
  have hxl : Hid (xs.length = n * 4) := h.1
  have HO := Lib.hid h; have H1 := Lib.hid h1
  rcases own_form h with ⟨rfl, rfl, rfl⟩ | ⟨g, cap, rfl, _, hn, hg⟩
  · clear h h1
    go_enter Try.func27, Try.ntmps27
    go_wp2_with (first | (at_make; refine wpList_make_full _ rfl _ _ 36 rfl w.heap.size 42 i0 (.agg #[.int .i64 0, .int .i64 0, .int .i64 0, .int .i64 0]) 4 Try.underlying36 hi hz0 hz1 .i64 .i64 _ _ 0 rfl rfl rfl rfl (by rw [hz2]; omega) (by unfold maxLen; omega) (Nat.le_refl _) ?_; intro w0 hown0 hgrow0; have hr0 := Lib.hid (own_block hown0); have hb0 : Hid (Below w.heap.size w w0) := (Below.refl _ _).grown hgrow0 (Nat.le_refl _) (fun k hk => by cases hk); have hl0 := Lib.hid hown0.1; clear hown0 hgrow0) | (have hguard := hr0; clear hguard; refine wpList_copy_whole rfl (.tmp 7) (.tmp 8) 36 36 rfl 42 4 Try.underlying36 size42 _ 0 0 0 w.heap.size rfl rfl _ 42 hr0.out (by have := hl0.out; simp only [List.size_toArray]; exact this) [] rfl (fun h => absurd h (Nat.lt_irrefl 0)) (fun _ h => by simp at h) w.heap.size w hb0.out (Nat.le_refl _) ?_; intro w1 hg1 hb1; have HB1 := Lib.hid hb1; clear hb1))
    go_ret
    exact ⟨_, rfl, own_of_block hg1.out (Nat.le_refl _) rfl (by unfold maxLen; omega), HB1.out⟩
  · clear h h1
    go_enter Try.func27, Try.ntmps27
    go_wp2_with (first | (at_make; refine wpList_make_full _ rfl _ _ 36 rfl w.heap.size 42 i0 (.agg #[.int .i64 0, .int .i64 0, .int .i64 0, .int .i64 0]) 4 Try.underlying36 hi hz0 hz1 .i64 .i64 _ _ n rfl rfl rfl rfl (by rw [hz2]; omega) (by unfold maxLen; omega) (Nat.le_refl _) ?_; intro w0 hown0 hgrow0; have hr0 := Lib.hid (own_block hown0); have hb0 : Hid (Below w.heap.size w w0) := (Below.refl _ _).grown hgrow0 (Nat.le_refl _) (fun k hk => by cases hk); have hl0 := Lib.hid hown0.1; clear hown0 hgrow0) | (have hguard := hr0; clear hguard; refine wpList_copy_whole rfl (.tmp 7) (.tmp 8) 36 36 rfl 42 4 Try.underlying36 size42 _ n n cap w.heap.size rfl rfl _ 42 hr0.out (by have := hl0.out; simp only [List.size_toArray]; exact this) xs hxl.out (fun _ => ⟨_, rfl, own_src HO.out hb0.out⟩) H1.out w.heap.size w hb0.out (Nat.le_refl _) ?_; intro w1 hg1 hb1; have HB1 := Lib.hid hb1; clear hb1))
    go_ret
    exact ⟨_, rfl, own_of_block hg1.out (Nat.le_refl _) hxl.out (by unfold maxLen; omega), HB1.out⟩
end Go.Proofs.Ytemifkcgmfincaa.wide
