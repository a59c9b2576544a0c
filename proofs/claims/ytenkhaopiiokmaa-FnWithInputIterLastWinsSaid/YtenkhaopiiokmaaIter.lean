/- The input iterators: what makes them, what installs them, what they yield. -/
import Derived.Test.YtenkhaopiiokmaaProg
import Derived.Test.YtenkhaopiiokmaaUpd
import Derived.Test.YtenkhaopiiokmaaFill
import Derived.WalkKit
import Derived.KernelRfl
import Derived.ProofKit
import Derived.OpenShut
import Derived.LoopTactic
import Derived.WalkLawsBesides
import Derived.WalkSpells
import Derived.Laws.EntriesVeiled
namespace Go.Proofs.Ytenkhaopiiokmaa.iter
open Go.ChangeShapes Go.WideShapes Go.ChangeAt Go.RowKit
open upd fill

theorem info3 : (Try.prog.info? 3).map (fun i => (i.zero, i.size, i.bytes)) = some (some (.int .i64 0), 1, 8) := by kernel_rfl
def SomeBool (w : World) (e : Ending) (w' : World) : Prop := ∃ b, e = .returned (.bool b) ∧ w = w'
theorem zb13 (a : Option Addr) (n cap : Nat) (w : World) (hn : n ≤ 9223372036854775807) : Calls Try.prog 13 #[.slice a n cap] w (SomeBool w) := by
  go_enter Try.func13, Try.ntmps13
  go_wp2_with fail
  all_goals (go_ret; exact ⟨_, rfl, rfl⟩)
theorem zb5 (a a' : Option Addr) (n cap n' cap' : Nat) (b : Bool) (w : World) (hn : n ≤ 9223372036854775807) (hn' : n' ≤ 9223372036854775807) : Calls Try.prog 5 #[.slice a n cap, .slice a' n' cap', .bool b] w (SomeBool w) := by
  go_enter Try.func5, Try.ntmps5
  go_wp2_with fail
  all_goals (go_ret; exact ⟨_, rfl, rfl⟩)

/-- numbers as values -/
def fB (bs : Nat → Int) (i : Nat) : Value := .int .i64 (bs i)
/-- the copy of a list -/
def Copied (bs : Nat → Int) (n : Nat) (w : World) (e : Ending) (w' : World) : Prop := ∃ (a : Option Addr) (cap : Nat), e = .returned (.slice a n cap) ∧ (n = 0 ∨ ∃ g, a = some ⟨g, 0, none⟩ ∧ cap = n ∧ Row w' g 3 ((List.range n).map (fB bs))) ∧ Below w.heap.size w w'
theorem clone_nil (bs : Nat → Int) (w : World) : Calls Try.prog 6 #[.slice none 0 0] w (Copied bs 0 w) := by
  have hn := Lib.run_eql_slice_nil (P := Try.prog)
  go_enter Try.func6, Try.ntmps6
  go_wp2_with fail
  go_ret
  exact ⟨none, 0, rfl, .inl rfl, Below.refl _ _⟩
theorem clone_some (x : Addr) (cap n : Nat) (bs : Nat → Int) (w : World) (hc : In w (some x) n (fB bs)) (hl : n ≤ 131072) : Calls Try.prog 6 #[.slice (some x) n cap] w (Copied bs n w) := by
  obtain ⟨i0, hi, hz0, hz1, hz2⟩ := info_parts info3
  have hn := Lib.run_eql_slice_nil (P := Try.prog)
  have HC := Lib.hid hc
  clear hc
  go_enter Try.func6, Try.ntmps6
  go_wp2_with (at_make; refine wpList_make_full _ rfl _ _ 22 rfl w.heap.size 3 i0 (.int .i64 0) 1 Try.underlying22 hi hz0 hz1 .i64 .i64 _ _ n rfl rfl rfl rfl (by rw [hz2]; omega) (by unfold maxLen; omega) (Nat.le_refl _) ?_; intro w0 hown0 hgrow0)
  have hr0 : Row w0 w.heap.size 3 (fpart n 0 (fB bs) (.int .i64 0)) := by rw [fpart_zero]; exact Row.of_made rfl hown0
  have hb0 : Below w.heap.size w w0 := (Below.refl _ _).grown hgrow0 (Nat.le_refl _) (fun k hk => by cases hk)
  clear hown0 hgrow0
  go_loopw [4] (fun i wr => ∃ k : Nat, k ≤ n ∧ i = .int .i64 k ∧ Hid (Row wr w.heap.size 3 (fpart n k (fB bs) (.int .i64 0))) ∧ Hid (Below w.heap.size w wr)) (fun i _ => n - (intOf i).toNat)
  case atStart => exact ⟨0, Nat.zero_le _, rfl, hr0, hb0⟩
  case round =>
    obtain ⟨k, hk, rfl, HR, HB⟩ := hrel
    clear hr0 hb0
    by_cases hlt : k < n
    · have c0 := HR.out.cell (fpart_at n k (fB bs) (.int .i64 0) k hlt hk)
      rw [if_neg (by omega)] at c0
      have f0 := HR.out.free k
      have c1 : wr.cell? (x.add k) = some (fB bs k) := by
        rcases HC.out with ⟨h, _⟩ | ⟨y, hy, hyl, hyc⟩
        · cases h
        · cases hy
          exact later hyl hyc HB.out k hlt
      have HN : Hid (Row (wr.setCell ⟨w.heap.size, k, none⟩ (fB bs k)) w.heap.size 3 (fpart n (k + 1) (fB bs) (.int .i64 0))) := by
        have := HR.out.set k (fB bs k)
        rwa [fpart_set _ k _ _ hlt] at this
      have HB2 : Hid (Below w.heap.size w (wr.setCell ⟨w.heap.size, k, none⟩ (fB bs k))) := HB.out.setCell (Nat.le_refl _) _
      unfold fB at HN HB2 c1
      go_wp2_with fail
      go_roundw
      case rel => exact ⟨k + 1, by omega, by go_num, HN, HB2⟩
      case measure => simp [intOf]; omega
    · have HF : Hid (Row wr w.heap.size 3 ((List.range n).map (fB bs))) := by
        have e : k = n := by omega
        unfold Hid; rw [← fpart_all _ _ (.int .i64 0)]; have := HR.out; rwa [e] at this
      go_wp2_with fail
      go_ret
      exact ⟨_, _, rfl, .inr ⟨_, rfl, rfl, HF.out⟩, HB.out⟩
theorem clone (a : Option Addr) (cap n : Nat) (bs : Nat → Int) (w : World) (hin : In w a n (fB bs)) (hnil : a = none → n = 0 ∧ cap = 0) (hl : n ≤ 131072) : Calls Try.prog 6 #[.slice a n cap] w (Copied bs n w) := by
  cases a with
  | none => obtain ⟨rfl, rfl⟩ := hnil rfl; exact clone_nil bs w
  | some x => exact clone_some x cap n bs w hin hl


/-- a fresh compiler's cells, but for its input iterator -/
def comp (v : Value) : Array Value := #[.nilIface, .nilFunc, .slice none 0 0, .map none, v, .slice none 0 0, .slice none 0 0, .pointer none, .slice none 0 0, .int .i64 0, .int .u32 0, .int .i32 0, .int .u32 0, .pointer none, .nilFunc, .nilFunc, .int .u64 0]
theorem newc (w : World) : Calls Try.prog 7 #[] w fun e w' => e = .returned (.pointer (some ⟨w.heap.size, 0, none⟩)) ∧ w' = w.alloc (.cells (comp .nilIface) 71) := by
  go_enter Try.func7, Try.ntmps7
  go_wp2_with fail
  go_ret
  exact ⟨rfl, rfl⟩
theorem within_nil (w : World) : Calls Try.prog 9 #[.nilIface] w fun e w' => e = .returned (.func (.func 15) #[] #[.pointer (some ⟨w.heap.size, 0, none⟩)]) ∧ w' = w.alloc (.cells #[.nilIface] 32) := by
  go_enter Try.func9, Try.ntmps9
  go_wp2_with fail
  go_ret
  exact ⟨rfl, rfl⟩
theorem within_it (t : Nat) (p : Value) (w : World) : Calls Try.prog 9 #[.iface t p] w fun e w' => e = .returned (.func (.func 15) #[] #[.pointer (some ⟨w.heap.size, 0, none⟩)]) ∧ w' = w.alloc (.cells #[.iface t p] 32) := by
  go_enter Try.func9, Try.ntmps9
  go_wp2_with fail
  go_ret
  exact ⟨rfl, rfl⟩
theorem clos_nil (w : World) (c b : Nat) (v0 : Value) (h : w.cell? ⟨b, 0, none⟩ = some .nilIface) (hc : Blk w c (comp v0) 71) : Calls Try.prog 15 #[.pointer (some ⟨c, 0, none⟩), .pointer (some ⟨b, 0, none⟩)] w fun e w' => e = .returned (.tuple #[]) ∧ w' = w.setCell ⟨c, 4, none⟩ .nilIface := by
  have c4 : w.cell? ⟨c, 4, none⟩ = some v0 := by rw [hc.cell]; rfl
  have f4 := hc.free 4
  clear hc
  go_enter Try.func15, Try.ntmps15
  go_wp2_with fail
  go_end0
  exact ⟨rfl, rfl⟩
theorem apply_nil (w : World) (c b : Nat) (v0 : Value) (h : w.cell? ⟨b, 0, none⟩ = some .nilIface) (hc : Blk w c (comp v0) 71) : Calls Try.prog 8 #[.pointer (some ⟨c, 0, none⟩), .func (.func 15) #[] #[.pointer (some ⟨b, 0, none⟩)]] w fun e w' => e = .returned (.tuple #[]) ∧ w' = w.setCell ⟨c, 4, none⟩ .nilIface := by
  have HC := Lib.hid (clos_nil _ _ _ _ h hc)
  clear h hc
  go_enter Try.func8, Try.ntmps8
  go_wp2_with (go_at_call 15; refine HC.out.mono ?_; rintro e w1 ⟨rfl, rfl⟩)
  go_end0
  exact ⟨rfl, rfl⟩
theorem clos_it (w : World) (c b t : Nat) (p v0 : Value) (h : w.cell? ⟨b, 0, none⟩ = some (.iface t p)) (hc : Blk w c (comp v0) 71) : Calls Try.prog 15 #[.pointer (some ⟨c, 0, none⟩), .pointer (some ⟨b, 0, none⟩)] w fun e w' => e = .returned (.tuple #[]) ∧ w' = w.setCell ⟨c, 4, none⟩ (.iface t p) := by
  have c4 : w.cell? ⟨c, 4, none⟩ = some v0 := by rw [hc.cell]; rfl
  have f4 := hc.free 4
  clear hc
  go_enter Try.func15, Try.ntmps15
  go_wp2_with fail
  go_end0
  exact ⟨rfl, rfl⟩
theorem apply_it (w : World) (c b t : Nat) (p v0 : Value) (h : w.cell? ⟨b, 0, none⟩ = some (.iface t p)) (hc : Blk w c (comp v0) 71) : Calls Try.prog 8 #[.pointer (some ⟨c, 0, none⟩), .func (.func 15) #[] #[.pointer (some ⟨b, 0, none⟩)]] w fun e w' => e = .returned (.tuple #[]) ∧ w' = w.setCell ⟨c, 4, none⟩ (.iface t p) := by
  have HC := Lib.hid (clos_it _ _ _ _ _ _ h hc)
  clear h hc
  go_enter Try.func8, Try.ntmps8
  go_wp2_with (go_at_call 15; refine HC.out.mono ?_; rintro e w1 ⟨rfl, rfl⟩)
  go_end0
  exact ⟨rfl, rfl⟩
theorem initer (w : World) (c : Nat) (v0 : Value) (hc : Blk w c (comp v0) 71) : Calls Try.prog 11 #[.pointer (some ⟨c, 0, none⟩)] w fun e w' => e = .returned v0 ∧ w = w' := by
  have c4 : w.cell? ⟨c, 4, none⟩ = some v0 := by rw [hc.cell]; rfl
  clear hc
  go_enter Try.func11, Try.ntmps11
  go_wp2_with fail
  go_ret
  exact ⟨rfl, rfl⟩
theorem count (w : World) (c : Nat) (v0 : Value) (hc : Blk w c (comp v0) 71) : Calls Try.prog 14 #[.pointer (some ⟨c, 0, none⟩)] w fun e w' => e = .returned (.int .i64 0) ∧ w = w' := by
  have c4 : w.cell? ⟨c, 3, none⟩ = some (.map none) := by rw [hc.cell]; rfl
  clear hc
  go_enter Try.func14, Try.ntmps14
  go_wp2
  go_ret
  exact ⟨rfl, rfl⟩
theorem ta_3_3 (x : Value) (w : World) : (Instr.typeAssert (.iface 3 x) 20 3 true).run Try.prog w = .ok (.tuple #[x, .bool true]) w := by kernel_rfl
theorem asint (x : Int) (w : World) : Calls Try.prog 12 #[.iface 3 (.int .i64 x)] w fun e w' => e = .returned (.tuple #[.int .i64 x, .bool true]) ∧ w = w' := by
  have t := ta_3_3
  go_enter Try.func12, Try.ntmps12
  go_wp2_with fail
  go_ret2
  exact ⟨rfl, rfl⟩
theorem new0 (a : Option Addr) (cap : Nat) (w : World) : Calls Try.prog 10 #[.slice a 0 cap] w fun e w' => e = .returned (.iface 72 (.agg #[])) ∧ w = w' := by
  go_enter Try.func10, Try.ntmps10
  go_wp2_with fail
  go_ret
  exact ⟨rfl, rfl⟩
theorem new1 (g cap : Nat) (x : Int) (w : World) (h : w.cell? ⟨g, 0, none⟩ = some (.int .i64 x)) : Calls Try.prog 10 #[.slice (some ⟨g, 0, none⟩) 1 cap] w fun e w' => e = .returned (.iface 73 (.pointer (some ⟨w.heap.size, 0, none⟩))) ∧ w' = w.alloc (.cells #[.iface 3 (.int .i64 x), .bool false] 75) := by
  go_enter Try.func10, Try.ntmps10
  go_wp2_with fail
  go_ret
  exact ⟨rfl, rfl⟩
theorem new2 (g n cap : Nat) (w : World) (h : 2 ≤ n) : Calls Try.prog 10 #[.slice (some ⟨g, 0, none⟩) n cap] w fun e w' => e = .returned (.iface 77 (.pointer (some ⟨w.heap.size, 0, none⟩))) ∧ w' = w.alloc (.cells #[.slice (some ⟨g, 0, none⟩) n cap] 76) := by
  have h0 : ((n : Int) == 0) = false := by simp; omega
  have h1 : ((n : Int) == 1) = false := by simp; omega
  go_enter Try.func10, Try.ntmps10
  go_wp2_with fail
  go_ret
  exact ⟨rfl, rfl⟩
/-- what the next call hands over: a number and true; nil and false -/
def some_ (x : Int) : Value := .tuple #[.iface 3 (.int .i64 x), .bool true]
def none_ : Value := .tuple #[.nilIface, .bool false]
theorem next0 (w : World) : Calls Try.prog 33 #[.agg #[]] w fun e w' => e = .returned none_ ∧ Below w.heap.size w w' := by
  go_enter Try.func33, Try.ntmps33
  go_wp2_with fail
  go_ret2
  exact ⟨rfl, (Below.refl _ _).alloc (Nat.le_refl _) _⟩
theorem next1 (w : World) (p : Nat) (x : Int) (h : Blk w p #[.iface 3 (.int .i64 x), .bool false] 75) : Calls Try.prog 34 #[.pointer (some ⟨p, 0, none⟩)] w fun e w' => e = .returned (some_ x) ∧ w' = w.setCell ⟨p, 1, none⟩ (.bool true) := by
  have c0 : w.cell? ⟨p, 0, none⟩ = some (.iface 3 (.int .i64 x)) := by rw [h.cell]; rfl
  have c1 : w.cell? ⟨p, 1, none⟩ = some (.bool false) := by rw [h.cell]; rfl
  have f1 := h.free 1
  clear h
  go_enter Try.func34, Try.ntmps34
  go_wp2_with fail
  go_ret2
  exact ⟨rfl, rfl⟩
theorem next1e (w : World) (p : Nat) (v : Value) (h : Blk w p #[v, .bool true] 75) : Calls Try.prog 34 #[.pointer (some ⟨p, 0, none⟩)] w fun e w' => e = .returned none_ ∧ w = w' := by
  have c1 : w.cell? ⟨p, 1, none⟩ = some (.bool true) := by rw [h.cell]; rfl
  clear h
  go_enter Try.func34, Try.ntmps34
  go_wp2_with fail
  go_ret2
  exact ⟨rfl, rfl⟩
theorem next2 (w : World) (p g k m : Nat) (x : Int) (h : Blk w p #[.slice (some ⟨g, k, none⟩) (m + 2) (m + 2)] 76) (hx : w.cell? ⟨g, k, none⟩ = some (.int .i64 x)) (hm : m ≤ 1000000) : Calls Try.prog 35 #[.pointer (some ⟨p, 0, none⟩)] w fun e w' => e = .returned (some_ x) ∧ w' = w.setCell ⟨p, 0, none⟩ (.slice (some ⟨g, k + 1, none⟩) (m + 1) (m + 1)) := by
  have c0 : w.cell? ⟨p, 0, none⟩ = some (.slice (some ⟨g, k, none⟩) (m + 2) (m + 2)) := by rw [h.cell]; rfl
  have f0 := h.free 0
  clear h
  go_enter Try.func35, Try.ntmps35
  go_wp2_with fail
  go_ret2
  exact ⟨rfl, rfl⟩
theorem next2l (w : World) (p g k : Nat) (x : Int) (h : Blk w p #[.slice (some ⟨g, k, none⟩) 1 1] 76) (hx : w.cell? ⟨g, k, none⟩ = some (.int .i64 x)) : Calls Try.prog 35 #[.pointer (some ⟨p, 0, none⟩)] w fun e w' => e = .returned (some_ x) ∧ w' = w.setCell ⟨p, 0, none⟩ (.slice (some ⟨g, k, none⟩) 0 0) := by
  have c0 : w.cell? ⟨p, 0, none⟩ = some (.slice (some ⟨g, k, none⟩) 1 1) := by rw [h.cell]; rfl
  have f0 := h.free 0
  clear h
  go_enter Try.func35, Try.ntmps35
  go_wp2_with fail
  go_ret2
  exact ⟨rfl, rfl⟩
theorem next2e (w : World) (p : Nat) (a : Option Addr) (h : Blk w p #[.slice a 0 0] 76) : Calls Try.prog 35 #[.pointer (some ⟨p, 0, none⟩)] w fun e w' => e = .returned none_ ∧ w = w' := by
  have c0 : w.cell? ⟨p, 0, none⟩ = some (.slice a 0 0) := by rw [h.cell]; rfl
  clear h
  go_enter Try.func35, Try.ntmps35
  go_wp2_with fail
  go_ret2
  exact ⟨rfl, rfl⟩

/-! ### the same, in words on blocks -/
theorem newcB (w : World) : Calls Try.prog 7 #[] w fun e w' => e = .returned (.pointer (some ⟨w.heap.size, 0, none⟩)) ∧ Blk w' w.heap.size (comp .nilIface) 71 ∧ Below w.heap.size w w' :=
  (newc w).mono fun _ _ ⟨h1, h2⟩ => by subst h2; exact ⟨h1, Blk.new _ _ _, (Below.refl _ _).alloc (Nat.le_refl _) _⟩
theorem withinB (t : Nat) (p : Value) (w : World) : Calls Try.prog 9 #[.iface t p] w fun e w' => e = .returned (.func (.func 15) #[] #[.pointer (some ⟨w.heap.size, 0, none⟩)]) ∧ Blk w' w.heap.size #[.iface t p] 32 ∧ Below w.heap.size w w' :=
  (within_it t p w).mono fun _ _ ⟨h1, h2⟩ => by subst h2; exact ⟨h1, Blk.new _ _ _, (Below.refl _ _).alloc (Nat.le_refl _) _⟩
theorem withinN (w : World) : Calls Try.prog 9 #[.nilIface] w fun e w' => e = .returned (.func (.func 15) #[] #[.pointer (some ⟨w.heap.size, 0, none⟩)]) ∧ Blk w' w.heap.size #[.nilIface] 32 ∧ Below w.heap.size w w' :=
  (within_nil w).mono fun _ _ ⟨h1, h2⟩ => by subst h2; exact ⟨h1, Blk.new _ _ _, (Below.refl _ _).alloc (Nat.le_refl _) _⟩
theorem applyB (w : World) (c b t : Nat) (p v0 : Value) (h : Blk w b #[.iface t p] 32) (hc : Blk w c (comp v0) 71) : Calls Try.prog 8 #[.pointer (some ⟨c, 0, none⟩), .func (.func 15) #[] #[.pointer (some ⟨b, 0, none⟩)]] w fun e w' => e = .returned (.tuple #[]) ∧ Blk w' c (comp (.iface t p)) 71 ∧ Upd (· = c) w w' :=
  (apply_it w c b t p v0 (by rw [h.cell]; rfl) hc).mono fun _ _ ⟨h1, h2⟩ => by subst h2; exact ⟨h1, hc.set 4 _, Upd.setCell (S := (· = c)) (Upd.refl _ _) (p := ⟨c, 4, none⟩) (.inl rfl) _⟩
theorem applyN (w : World) (c b : Nat) (v0 : Value) (h : Blk w b #[.nilIface] 32) (hc : Blk w c (comp v0) 71) : Calls Try.prog 8 #[.pointer (some ⟨c, 0, none⟩), .func (.func 15) #[] #[.pointer (some ⟨b, 0, none⟩)]] w fun e w' => e = .returned (.tuple #[]) ∧ Blk w' c (comp .nilIface) 71 ∧ Upd (· = c) w w' :=
  (apply_nil w c b v0 (by rw [h.cell]; rfl) hc).mono fun _ _ ⟨h1, h2⟩ => by subst h2; exact ⟨h1, hc.set 4 _, Upd.setCell (S := (· = c)) (Upd.refl _ _) (p := ⟨c, 4, none⟩) (.inl rfl) _⟩
theorem Blk.low {w w' : World} {b : Nat} {cs : Array Value} {t : TypeId} (h : Blk w b cs t) (hb : Below w.heap.size w w') : Blk w' b cs t := (hb.block b h.lt).trans h

/-- an iterator value: of which type, where it lies, what it holds while k of n numbers have been handed over -/
def It (w : World) (v : Value) (p g n : Nat) (bs : Nat → Int) (k : Nat) : Prop :=
  (n = 0 ∧ v = .iface 72 (.agg #[])) ∨
  (n = 1 ∧ v = .iface 73 (.pointer (some ⟨p, 0, none⟩)) ∧ Blk w p #[.iface 3 (.int .i64 (bs 0)), .bool (decide (1 ≤ k))] 75) ∨
  (2 ≤ n ∧ v = .iface 77 (.pointer (some ⟨p, 0, none⟩)) ∧ Row w g 3 ((List.range n).map (fB bs)) ∧ p ≠ g ∧ ((k < n ∧ Blk w p #[.slice (some ⟨g, k, none⟩) (n - k) (n - k)] 76) ∨ (k = n ∧ ∃ a, Blk w p #[.slice a 0 0] 76)))
end Go.Proofs.Ytenkhaopiiokmaa.iter
