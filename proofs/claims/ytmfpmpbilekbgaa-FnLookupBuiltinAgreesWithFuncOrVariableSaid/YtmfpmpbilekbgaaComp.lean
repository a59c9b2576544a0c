/- The compiler's scopes in memory: which blocks hold what, told by colours; no function of the program in sight. -/
import Derived.Test.YtmfpmpbilekbgaaProg
import Derived.Test.YtmfpmpbilekbgaaUpd
import Derived.WalkKit
import Derived.KernelRfl
import Derived.ProofKit
import Derived.OpenShut
import Derived.LoopTactic
import Derived.WalkLawsBesides
import Derived.WalkSpells
import Derived.Laws.EntriesVeiled
import Derived.Deep.QuietTactic
import Derived.BigQuiet
import Derived.Deep.RegionLaw
import Derived.Deep.AppendLies
import Derived.StillTailTactics
import Derived.IntWalk
import Derived.Lib.Strings
set_option linter.unusedVariables false
namespace Go.Proofs.Ytmfpmpbilekbgaa.comp
open Go.ChangeShapes Go.WideShapes Go.ChangeAt Go.RowKit
open upd

/-- a scope: its number, its variables in order, its functions in order (name, pc, arity) -/
structure Sc where
  id : Int
  vars : List ByteArray
  funcs : List (ByteArray × Int × Int)

def ptr (p : Nat) : Value := .pointer (some ⟨p, 0, none⟩)
def ptrs (l : List Nat) : List Value := l.map ptr
theorem ptrs_len (l : List Nat) : (ptrs l).length = l.length := by simp [ptrs]
theorem ptrs_at {l : List Nat} {j p : Nat} (h : l[j]? = some p) : (ptrs l)[j]? = some (ptr p) := by simp [ptrs, h]
theorem ptrs_snoc (l : List Nat) (p : Nat) : ptrs (l ++ [p]) = ptrs l ++ [ptr p] := by simp [ptrs]
def VarAt (w : World) (p : Nat) (nm : ByteArray) (id : Int) (j : Nat) : Prop := Blk w p #[.string nm, .int .i64 id, .int .i64 j, .int .i64 0] 109
def FunAt (w : World) (p : Nat) (f : ByteArray × Int × Int) : Prop := Blk w p #[.string f.1, .int .i64 f.2.1, .int .i64 f.2.2] 105

/-- the block of v has colour c -/
def Col (col : Nat → Nat) (c : Nat) (v : Value) : Prop := ∀ g, v.ownBlock = some g → col g = c
theorem Col.nil (col : Nat → Nat) (c : Nat) : Col col c (.slice none 0 0) := fun g h => by simp [Value.ownBlock] at h
theorem Col.re {base : Nat} {w : World} {e : TypeId} {size n : Nat} {xs : List Value} {col col' : Nat → Nat} {c : Nat} {v : Value} (h : Col col c v) (ho : w.ownsRow base e size v n xs) (hk : ∀ k, k < w.heap.size → col' k = col k) : Col col' c v :=
  fun g hg => (hk g (ho.lt g hg).2).trans (h g hg)

/-- a row of pointers, of colour c; every pointer leads to a block of colour 7 that A holds of -/
structure Ptrs (base : Nat) (w : World) (col : Nat → Nat) (e : TypeId) (c : Nat) (v : Value) (ps : List Nat) (A : Nat → Nat → Prop) : Prop where
  row : w.ownsRow base e 1 v ps.length (ptrs ps)
  clr : Col col c v
  at' : ∀ j p, ps[j]? = some p → (base ≤ p ∧ p < w.heap.size ∧ col p = 7) ∧ A j p
theorem Ptrs.step {base : Nat} {w w' : World} {col col' : Nat → Nat} {e : TypeId} {c : Nat} {v : Value} {ps : List Nat} {A A' : Nat → Nat → Prop} {S : Nat → Prop} (h : Ptrs base w col e c v ps A) (hu : Upd S w w') (hS : ∀ k, S k → k < w.heap.size → col k ≠ c ∧ col k ≠ 7) (hk : ∀ k, k < w.heap.size → col' k = col k)
    (hA : ∀ j p, ¬ S p → A j p → A' j p) : Ptrs base w' col' e c v ps A' :=
  ⟨own_kept h.row hu (fun g hg s => (hS g s (h.row.lt g hg).2).1 (h.clr g hg)), h.clr.re h.row hk, fun j p hp => by
    obtain ⟨⟨h1, h2, h3⟩, h4⟩ := h.at' j p hp
    exact ⟨⟨h1, Nat.lt_of_lt_of_le h2 hu.size, (hk p h2).trans h3⟩, hA j p (fun s => (hS p s h2).2 h3) h4⟩⟩

/-- a scope in memory: colours q (its block), q + 1 (its variables' row), q + 2 (its functions' row) -/
structure ScAt (base : Nat) (w : World) (col : Nat → Nat) (q b : Nat) (s : Sc) (vv fv : Value) (ps fs : List Nat) : Prop where
  blk : Blk w b #[vv, fv, .int .i64 s.id, .int .i64 0, .int .i64 s.vars.length] 114
  clr : col b = q
  low : base ≤ b
  vars : Ptrs base w col 47 (q + 1) vv ps (fun j p => ∃ nm, s.vars[j]? = some nm ∧ VarAt w p nm s.id j)
  funcs : Ptrs base w col 37 (q + 2) fv fs (fun j p => ∃ f, s.funcs[j]? = some f ∧ FunAt w p f)
  plen : ps.length = s.vars.length
  flen : fs.length = s.funcs.length
theorem ScAt.step {base : Nat} {w w' : World} {col col' : Nat → Nat} {q b : Nat} {s : Sc} {vv fv : Value} {ps fs : List Nat} {S : Nat → Prop} (h : ScAt base w col q b s vv fv ps fs) (hu : Upd S w w') (hS : ∀ k, S k → k < w.heap.size → col k ≠ q ∧ col k ≠ q + 1 ∧ col k ≠ q + 2 ∧ col k ≠ 7) (hk : ∀ k, k < w.heap.size → col' k = col k) :
    ScAt base w' col' q b s vv fv ps fs :=
  ⟨h.blk.kept hu (fun s => (hS b s h.blk.lt).1 h.clr), (hk b h.blk.lt).trans h.clr, h.low,
    h.vars.step hu (fun k s l => ⟨(hS k s l).2.1, (hS k s l).2.2.2⟩) hk (fun j p hn ⟨nm, h1, h2⟩ => ⟨nm, h1, h2.kept hu hn⟩),
    h.funcs.step hu (fun k s l => ⟨(hS k s l).2.2.1, (hS k s l).2.2.2⟩) hk (fun j p hn ⟨nm, h1, h2⟩ => ⟨nm, h1, h2.kept hu hn⟩), h.plen, h.flen⟩
/-- the same, the parts not named -/
def ScIn (base : Nat) (w : World) (col : Nat → Nat) (q b : Nat) (s : Sc) : Prop := ∃ vv fv ps fs, ScAt base w col q b s vv fv ps fs
theorem ScIn.step {base : Nat} {w w' : World} {col col' : Nat → Nat} {q b : Nat} {s : Sc} {S : Nat → Prop} (h : ScIn base w col q b s) (hu : Upd S w w') (hS : ∀ k, S k → k < w.heap.size → col k ≠ q ∧ col k ≠ q + 1 ∧ col k ≠ q + 2 ∧ col k ≠ 7) (hk : ∀ k, k < w.heap.size → col' k = col k) :
    ScIn base w' col' q b s := by
  obtain ⟨vv, fv, ps, fs, h⟩ := h
  exact ⟨vv, fv, ps, fs, h.step hu hS hk⟩

/-- a compiler's cells -/
def comp (cv : Value) (bb : Nat) (sv : Value) (cnt : Int) : Array Value := #[.nilIface, .nilFunc, .slice none 0 0, .map none, .nilIface, cv, .slice none 0 0, ptr bb, sv, .int .i64 cnt, .int .u32 0, .int .i32 0, .int .u32 0, .pointer none, .nilFunc, .nilFunc, .int .u64 0]
/-- the compiler c: its codes, its builtin scope B, its scopes L, its scopes' count -/
structure CompAt (base : Nat) (w : World) (col : Nat → Nat) (c : Nat) (cv : Value) (bb : Nat) (sv : Value) (bs : List Nat) (B : Sc) (L : List Sc) (cnt : Int) : Prop where
  blk : Blk w c (comp cv bb sv cnt) 95
  clr : col c = 1
  low : base ≤ c
  bi : B.id = 0 → ScIn base w col 3 bb B
  al : B.id = 1 → bs[0]? = some bb
  row : w.ownsRow base 71 1 sv bs.length (ptrs bs)
  rcol : Col col 2 sv
  len : bs.length = L.length
  sc : ∀ k s, L[k]? = some s → ∃ b, bs[k]? = some b ∧ ScIn base w col (10 + 3 * k) b s
theorem CompAt.step {base : Nat} {w w' : World} {col col' : Nat → Nat} {c : Nat} {cv : Value} {bb : Nat} {sv : Value} {bs : List Nat} {B : Sc} {L : List Sc} {cnt : Int} {S : Nat → Prop} (h : CompAt base w col c cv bb sv bs B L cnt) (hu : Upd S w w') (hS : ∀ k, S k → k < w.heap.size → col k = 0) (hk : ∀ k, k < w.heap.size → col' k = col k) :
    CompAt base w' col' c cv bb sv bs B L cnt :=
  ⟨h.blk.kept hu (fun s => by have := hS c s h.blk.lt; have := h.clr; omega), (hk c h.blk.lt).trans h.clr, h.low, fun e => (h.bi e).step hu (fun k s l => by have := hS k s l; omega) hk, h.al,
    own_kept h.row hu (fun g hg s => by have := hS g s (h.row.lt g hg).2; have := h.rcol g hg; omega), h.rcol.re h.row hk, h.len,
    fun k s hs => by
      obtain ⟨b, h1, h2⟩ := h.sc k s hs
      exact ⟨b, h1, h2.step hu (fun k s l => by have := hS k s l; omega) hk⟩⟩
theorem slice_form {w : World} {base : Nat} {e : TypeId} {size : Nat} {v : Value} {n : Nat} {xs : List Value} (h : w.ownsRow base e size v n xs) : ∃ ao cp, v = .slice ao n cp := by
  rcases own_form h with ⟨rfl, rfl, _⟩ | ⟨g, cap, rfl, _⟩
  · exact ⟨_, _, rfl⟩
  · exact ⟨_, _, rfl⟩
/-- the j-th pointer of a row -/
theorem row_at {w : World} {base : Nat} {e : TypeId} {ao : Option Addr} {cp n j p : Nat} {ps : List Nat} (h : w.ownsRow base e 1 (.slice ao n cp) n (ptrs ps)) (hj : ps[j]? = some p) :
    ∃ g, ao = some ⟨g, 0, none⟩ ∧ j < n ∧ n ≤ cp ∧ base ≤ g ∧ g < w.heap.size ∧ w.cell? ⟨g, j, none⟩ = some (ptr p) := by
  have hn : n = ps.length := by have := h.1; simpa [ptrs_len] using this.symm
  have hjl : j < ps.length := (List.getElem?_eq_some_iff.1 hj).1
  rcases own_form h with ⟨h0, h1, _⟩ | ⟨g, cap, h0, hb, hc, hl⟩
  · omega
  · simp only [Value.slice.injEq, true_and] at h0
    obtain ⟨rfl, rfl⟩ := h0
    exact ⟨g, rfl, by omega, hc, hb, hl, by rw [h.cellAt j (by omega)]; exact ptrs_at hj⟩
end Go.Proofs.Ytmfpmpbilekbgaa.comp
