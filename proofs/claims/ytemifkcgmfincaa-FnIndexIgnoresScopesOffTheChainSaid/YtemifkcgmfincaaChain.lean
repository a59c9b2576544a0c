/- The law's own helpers on chains of scopes: zzOuter, zzChain, zzChainHasId; and what index finds along a chain. -/
import Derived.Test.YtemifkcgmfincaaIdx
import Derived.Laws.AppendOwn
set_option linter.unusedVariables false
namespace Go.Proofs.Ytemifkcgmfincaa.chain
open Go.ChangeShapes Go.WideShapes Go.ChangeAt Go.RowKit
open upd env plain ops forks popf fill init steps idx

/-- the outer place of place i -/
def outer (s : Int) (i : Nat) : Int := wrap64 (wrap64 ((IntKind.u64.wrap s).tmod ((i : Int) + 1)) - 1)
theorem outer31 (s : Int) (i : Nat) (w : World) (hi : i ≤ 4096) : Calls Try.prog 31 #[.int .i64 s, .int .i64 i] w fun e w' => e = .returned (.int .i64 (outer s i)) ∧ w = w' := by
  have h0 : (0 : Int) ≤ i := by omega
  go_enter Try.func31, Try.ntmps31
  go_wp2_with fail
  go_ret
  exact ⟨rfl, rfl⟩
theorem outer_bd (s : Int) (i : Nat) (hi : i ≤ 4096) : -1 ≤ outer s i ∧ outer s i < i := by
  have h0 : 0 ≤ IntKind.u64.wrap s := by
    unfold IntKind.wrap
    simp only [show IntKind.u64.signed = false from rfl, Bool.false_and, Bool.false_eq_true, if_false]
    exact Int.emod_nonneg _ (by decide)
  unfold outer
  rw [IntWalk.rem_in _ _ h0]
  have h1 := Int.emod_nonneg (IntKind.u64.wrap s) (show ((i : Int) + 1) ≠ 0 by omega)
  have h2 := Int.emod_lt_of_pos (IntKind.u64.wrap s) (show 0 < ((i : Int) + 1) by omega)
  generalize IntKind.u64.wrap s % ((i : Int) + 1) = r at h1 h2
  rw [IntWalk.wrap64_in r (by omega), IntWalk.wrap64_in (r - 1) (by omega)]
  omega

/-- the chain from place j on -/
inductive Chn (o : Nat → Int) : Int → List Nat → Prop
  | nil : Chn o (-1) []
  | cons {j : Nat} {l : List Nat} : o j < j → Chn o (o j) l → Chn o j (j :: l)
theorem Chn.ge {o : Nat → Int} {j : Int} {l : List Nat} (h : Chn o j l) : -1 ≤ j ∧ (l.length : Int) ≤ j + 1 := by
  induction h with
  | nil => simp
  | cons h _ ih => simp; omega
theorem Chn.neg {o : Nat → Int} {j : Int} {l : List Nat} (h : Chn o j l) (hj : j < 0) : l = [] := by
  cases h with
  | nil => rfl
  | cons => omega
theorem Chn.pos {o : Nat → Int} {j : Int} {l : List Nat} (h : Chn o j l) (hj : 0 ≤ j) : ∃ (i : Nat) (r : List Nat), j = i ∧ l = i :: r ∧ o i < i ∧ Chn o (o i) r := by
  cases h with
  | nil => omega
  | cons h1 h2 => exact ⟨_, _, rfl, rfl, h1, h2⟩
theorem chn_ex (o : Nat → Int) (n : Nat) (ho : ∀ i, i < n → -1 ≤ o i ∧ o i < i) : ∀ (m : Nat) (j : Int), -1 ≤ j → j < n → j < m → ∃ l, Chn o j l := by
  intro m
  induction m with
  | zero => intro j h1 _ h2; obtain rfl : j = -1 := by omega
            exact ⟨[], .nil⟩
  | succ m ih =>
    intro j h1 h2 h3
    by_cases hj : j < 0
    · obtain rfl : j = -1 := by omega
      exact ⟨[], .nil⟩
    · obtain ⟨i, rfl⟩ : ∃ i : Nat, j = i := ⟨j.toNat, by omega⟩
      have hb := ho i (by omega)
      obtain ⟨l, hl⟩ := ih (o i) hb.1 (by omega) (by omega)
      exact ⟨i :: l, .cons hb.2 hl⟩
theorem Chn.lt {o : Nat → Int} {j : Int} {l : List Nat} (h : Chn o j l) : ∀ c ∈ l, (c : Int) ≤ j := by
  induction h with
  | nil => simp
  | @cons j l h1 _ ih =>
    intro c hc
    rcases List.mem_cons.1 hc with rfl | hc
    · omega
    · have := ih c hc; omega

/-- the scopes of the first environment -/
def f1 (bs : Nat → Int) (o : Nat → Int) (i : Nat) : Sc := (bs (3 * i), bs (3 * i + 1), 0, 0, o i)
/-- the scopes of the second one -/
def f2 (bs : Nat → Int) (full : List Nat) (p : Nat) : Sc := (bs (3 * full.getD (full.length - 1 - p) 0), bs (3 * full.getD (full.length - 1 - p) 0 + 1), 0, 0, (p : Int) - 1)
theorem both (bs : Nat → Int) (o : Nat → Int) (qid : Int) (full : List Nat) : ∀ (l vis : List Nat) (j : Int), full = vis ++ l → Chn o j l → (∃ c ∈ l, bs (3 * c) = qid) → ∃ r, Find (f1 bs o) qid j r ∧ Find (f2 bs full) qid ((l.length : Int) - 1) r := by
  intro l
  induction l with
  | nil => intro _ _ _ _ ⟨c, hc, _⟩; simp at hc
  | cons c r ih =>
    intro vis j hf hc hx
    have e : full.getD (full.length - 1 - r.length) 0 = c := by
      rw [hf]; simp
    have e2 : (((c :: r).length : Nat) : Int) - 1 = ((r.length : Nat) : Int) := by simp
    rw [e2]
    obtain ⟨i, r', rfl, hl, ho, hn⟩ := hc.pos (by cases hc; omega)
    simp only [List.cons.injEq] at hl
    obtain ⟨rfl, rfl⟩ := hl
    by_cases hq : bs (3 * c) = qid
    · refine ⟨bs (3 * c + 1), .here (i := c) hq, ?_⟩
      have := Find.here (f := f2 bs full) (q := qid) (i := r.length) (by simp only [f2, e]; exact hq)
      simpa only [f2, e] using this
    · have hx' : ∃ c ∈ r, bs (3 * c) = qid := by
        obtain ⟨c', hc', he⟩ := hx
        rcases List.mem_cons.1 hc' with rfl | hc'
        · exact absurd he hq
        · exact ⟨c', hc', he⟩
      obtain ⟨x, g1, g2⟩ := ih (vis ++ [c]) _ (by rw [hf]; simp) hn hx'
      exact ⟨x, .next (i := c) hq ho g1, .next (i := r.length) (by simp only [f2, e]; exact hq) (by simp only [f2]; omega) g2⟩

/-- an owned row of one-cell elements, as a slice that came in -/
theorem own_In {w : World} {base n : Nat} {e : TypeId} {v : Value} {xs : List Value} (h : w.ownsRow base e 1 v n xs) : ∃ a cap, v = .slice a n cap ∧ In w a n (fun i => xs.getD i .nilIface) ∧ (∀ x, a = some x → x.block < w.heap.size) := by
  rcases own_form h with ⟨rfl, rfl, _⟩ | ⟨g, cap, rfl, _, hn, hg⟩
  · exact ⟨none, 0, rfl, .inl ⟨rfl, rfl⟩, fun x hx => by cases hx⟩
  · refine ⟨_, _, rfl, .inr ⟨_, rfl, fun _ => hg, fun i hi => ?_⟩, fun x hx => by cases hx; exact hg⟩
    rw [add_none, Nat.zero_add]
    have hl : xs.length = n := by rw [h.1]; omega
    rw [h.cellAt i (by omega)]
    simp [hl, hi]

/-- numbers as values -/
def vals (l : List Nat) : List Value := l.map fun (c : Nat) => Value.int .i64 (c : Int)
theorem vals_snoc (l : List Nat) (c : Nat) : vals (l ++ [c]) = vals l ++ [.int .i64 (c : Int)] := by simp [vals]
theorem vals_len (l : List Nat) : (vals l).length = l.length := by simp [vals]

def Chained (w : World) (l : List Nat) (e : Ending) (w' : World) : Prop := ∃ a cap, e = .returned (.slice a l.length cap) ∧ w'.ownsRow w.heap.size 3 1 (.slice a l.length cap) l.length (vals l) ∧ Below w.heap.size w w'
set_option maxHeartbeats 1000000 in
theorem chain29 (a : Option Addr) (len cap q : Nat) (bs : Nat → Int) (full : List Nat) (w : World) (hin : In w a len (fI bs)) (hl : len ≤ 4096) (hq : 3 * q ≤ len) (hch : Chn (fun i => outer (bs (3 * i + 2)) i) ((q : Int) - 1) full) :
    Calls Try.prog 29 #[.slice a len cap, .int .i64 q] w (Chained w full) := by
  obtain ⟨i0, hi, hz0, hz1, hz2⟩ := info_parts info3
  have HIN := Lib.hid hin; have HCH := Lib.hid hch
  have hfl : full.length ≤ 4096 := by have := hch.ge; omega
  have hq1 : q ≤ 4096 := by omega
  clear hin hch
  go_enter Try.func29, Try.ntmps29
  go_wp2_with fail
  go_loopw [5, 6] (fun v u wr => ∃ (vis l : List Nat) (j : Int) (ao : Option Addr) (cv : Nat), u = .int .i64 j ∧ v = .slice ao vis.length cv ∧ -1 ≤ j ∧ j < q ∧ Hid (Chn (fun i => outer (bs (3 * i + 2)) i) j l) ∧ Hid (full = vis ++ l) ∧ Hid (wr.ownsRow w.heap.size 3 1 (.slice ao vis.length cv) vis.length (vals vis)) ∧ Hid (Below w.heap.size w wr)) (fun _ u _ => (intOf u + 1).toNat)
  case atStart => exact ⟨[], full, (q : Int) - 1, none, 0, rfl, rfl, by omega, by omega, HCH, rfl, World.ownsRow_nil _ _ _ _, Below.refl _ _⟩
  case round =>
    obtain ⟨vis, l, j, ao, cv, rfl, rfl, hj0, hj1, HC, HF, HO, HB⟩ := hrel
    clear HCH
    have hvl : vis.length ≤ 4096 := by have := congrArg List.length HF.out; simp at this; omega
    have hsz := HB.out.size
    by_cases hj : 0 ≤ j
    · obtain ⟨i, r, rfl, hlr, ho, hn⟩ := HC.out.pos hj
      obtain ⟨p, hp⟩ : ∃ p : Nat, p = 3 * i := ⟨_, rfl⟩
      obtain ⟨xa, rfl, hxb, hxc⟩ := cp_cell HIN.out (k := p + 2) (by omega)
      rw [add_succ] at hxc
      have hol := outer_bd (bs (p + 2)) i (by omega)
      have hoe : Hid (outer (bs (3 * i + 2)) i = outer (bs (p + 2)) i) := by unfold Hid; rw [hp]
      have HN := Lib.hid hn; have HL := Lib.hid hlr; have HX := Lib.hid hxc; have HP := Lib.hid hp
      have q1 : (3 : Int) * i = p := by omega
      have i3 : (p : Int) + 2 < len := by omega
      have i5 : (0 : Int) ≤ (p : Int) + 2 := by omega
      have hpl : p ≤ 20000 := by omega
      have t2 : ((p : Int) + 2).toNat = p + 2 := by omega
      have hi4 : i ≤ 4096 := by omega
      clear hn hlr hxc hp ho
      go_wp2_with (first | (at_builtin; refine wpList_append_own _ rfl _ _ 22 rfl w.heap.size 3 i0 (.int .i64 0) 1 8 Try.underlying22 hi hz0 hz1 hz2 rfl (by decide) _ _ _ rfl (HO.out.alloc _) ⟨wr.heap.size, 0, none⟩ 1 1 [.int .i64 (i : Int)] rfl rfl (cell_one_new _ _ _) (fun x hx => by simp at hx; subst hx; rfl) (by unfold maxLen; omega) (by omega) (by simp; omega) ?_; intro v' w3 hown' hgrow3 hnil3; have hb3 := (HB.out.alloc hsz _).grown hgrow3 (by simp; omega) (fun q hq => (HO.out.lt q hq).1); have c2 := (hb3.cell (p := ⟨xa.block, xa.off + (p + 2), none⟩) hxb).trans HX.out; simp only [fI] at c2; have HB3 := Lib.hid hb3; have HO3 := Lib.hid hown'; clear hown' hgrow3 hnil3 hb3) | (go_at_call 31; refine (outer31 _ _ _ (by omega)).mono ?_; rintro e w4 ⟨rfl, rfl⟩))
      obtain ⟨ao', cv', rfl⟩ := own_slice HO3.out
      go_roundw
      case rel => exact ⟨vis ++ [i], r, _, ao', cv', rfl, by simp, by omega, by omega, (by rw [← hoe.out]; exact HN), (by unfold Hid; rw [HF.out, HL.out]; simp), (by unfold Hid; rw [vals_snoc, List.length_append]; exact HO3.out), HB3⟩
      case measure => simp [intOf] <;> omega
    · have hln := HC.out.neg (by omega)
      have hfe : full = vis := by rw [HF.out, hln]; simp
      have HFE := Lib.hid hfe
      obtain rfl : j = -1 := by omega
      clear hln hfe hj
      go_wp2_with fail
      go_ret
      exact ⟨ao, cv, by rw [HFE.out]; rfl, by rw [HFE.out]; exact HO.out, HB.out⟩
def Has (P : Prop) (w : World) (e : Ending) (w' : World) : Prop := ∃ b, e = .returned (.bool b) ∧ (b = true → P) ∧ w = w'
theorem has30 (a ac : Option Addr) (len cap cc : Nat) (qid : Int) (bs : Nat → Int) (l : List Nat) (w : World) (hin : In w a len (fI bs)) (hl : len ≤ 4096) (hc : In w ac l.length (fun i => (vals l).getD i .nilIface)) (hlt : ∀ c ∈ l, 3 * c + 2 < len) (hll : l.length ≤ 4096) :
    Calls Try.prog 30 #[.slice a len cap, .slice ac l.length cc, .int .i64 qid] w (Has (∃ c ∈ l, bs (3 * c) = qid) w) := by
  have HIN := Lib.hid hin; have HC := Lib.hid hc; have HLT := Lib.hid hlt
  clear hin hc hlt
  obtain ⟨n, hn⟩ : ∃ n, n = l.length := ⟨_, rfl⟩
  rw [← hn] at HC hll ⊢
  have HNL := Lib.hid hn
  clear hn
  go_enter Try.func30, Try.ntmps30
  go_wp2_with fail
  go_loop [8, 11] (fun _ u => ∃ k : Nat, k ≤ n ∧ u = .int .i64 k) (fun _ u => n - (intOf u).toNat)
  case atStart => exact ⟨0, Nat.zero_le _, rfl⟩
  case round =>
    obtain ⟨k, hk, rfl⟩ := hrel
    by_cases hlt : k < n
    · obtain ⟨xc, rfl, hxb, hxc⟩ := cp_cell HC.out (k := k) hlt
      obtain ⟨c, hcl⟩ : ∃ c, c = l[k]'(by rw [← HNL.out]; exact hlt) := ⟨_, rfl⟩
      have hv : (vals l).getD k .nilIface = .int .i64 (c : Int) := by rw [hcl]; simp [vals, List.getD, HNL.out ▸ hlt]
      rw [hv] at hxc
      have hcm : c ∈ l := by rw [hcl]; exact List.getElem_mem _
      have hcb := HLT.out c hcm
      obtain ⟨p, hp⟩ : ∃ p : Nat, p = 3 * c := ⟨_, rfl⟩
      obtain ⟨xa, rfl, hxb', hx0⟩ := cp_cell HIN.out (k := p) (by omega)
      have q1 : (3 : Int) * c = p := by omega
      have i1 : (p : Int) < len := by omega
      have i0 : (0 : Int) ≤ p := by omega
      have hpl : p ≤ 20000 := by omega
      have hx1 : w.cell? (xa.add p) = some (.int .i64 (bs p)) := hx0
      have HCM := Lib.hid hcm; have HP := Lib.hid hp
      clear hv hcl hcm hcb hp hx0
      by_cases hq : bs p = qid
      · have hq' : (bs p == qid) = true := by simpa using hq
        have HQ := Lib.hid hq
        clear hq
        go_wp2_with fail
        go_ret
        exact ⟨true, rfl, fun _ => ⟨c, HCM.out, by rw [← HP.out]; exact HQ.out⟩, rfl⟩
      · have hq' : (bs p == qid) = false := by simpa using hq
        clear hq
        go_wp2_with fail
        go_round
        case rel => exact ⟨k + 1, by omega, by go_num⟩
        case measure => simp [intOf] <;> omega
    · obtain rfl : k = n := by omega
      clear hlt
      go_wp2_with fail
      go_ret
      exact ⟨false, rfl, (fun h => by cases h), rfl⟩
end Go.Proofs.Ytemifkcgmfincaa.chain
