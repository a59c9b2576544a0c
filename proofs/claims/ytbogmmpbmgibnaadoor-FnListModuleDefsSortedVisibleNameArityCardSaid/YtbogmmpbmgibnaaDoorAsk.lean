/- The shim's call on a query that is built for it. -/
import Derived.Test.YtbogmmpbmgibnaaDoorMake
set_option linter.unusedVariables false
namespace Go.Proofs.YtbogmmpbmgibnaaDoor.askq
open Go.ChangeShapes Go.WideShapes Go.ChangeAt Go.RowKit
open upd zs guard defsg less order sort' coll fill list13 copy shim make

theorem Tab.up {B B' : Nat} {w : World} (h : Tab B w) (hB : B ≤ B') : Tab B' w := fun w' h' => h w' (h'.mono hB)
/-- the query's cells -/
def qCells (V : Value) : Array Value := #[.pointer none, .slice none 0 0, V, .pointer none, .pointer none, .pointer none, .slice none 0 0, .int .i64 0]
theorem ask9 (W : World) (g n cap : Nat) (L : List (ByteArray × Int)) (hD : Defs W g n cap L) (hF : Fine L) (hn : n ≤ 8192) (hT : Tab W.heap.size W) :
    Calls Tryd.prog 9 #[.pointer (some ⟨W.heap.size, 0, none⟩)] (W.alloc (.cells #[.pointer none, .slice none 0 0, .slice (some ⟨g, 0, none⟩) n cap, .pointer none, .pointer none, .pointer none, .slice none 0 0, .int .i64 0] 42)) fun e w' => ∃ K' v, K'.Perm (visK L) ∧ InOrder K' ∧ e = .returned (.tuple #[v, .bool true]) ∧ StrRow w' v (K'.map strK) ∧ Below W.heap.size W w' := by
  have hb : Below W.heap.size W (W.alloc (.cells #[.pointer none, .slice none 0 0, .slice (some ⟨g, 0, none⟩) n cap, .pointer none, .pointer none, .pointer none, .slice none 0 0, .int .i64 0] 42)) := (Below.refl _ _).alloc (Nat.le_refl _) _
  refine (shim9 _ W.heap.size g n cap L ?_ (Defs.kept hD hb) hF hn (Tab.up (hT.on hb) hb.size)).mono ?_
  · rw [(Blk.new W #[.pointer none, .slice none 0 0, .slice (some ⟨g, 0, none⟩) n cap, .pointer none, .pointer none, .pointer none, .slice none 0 0, .int .i64 0] 42).cell]; rfl
  · rintro e w' ⟨K', v, h1, h2, h3, h4, h5⟩
    exact ⟨K', v, h1, h2, h3, h4, hb.trans (h5.mono hb.size)⟩
theorem RS.defs' {wf wr : World} {KS : List (ByteArray × Int)} {g n cp : Nat} (h : RS wf KS (.slice (some ⟨g, 0, none⟩) n cp) wr) (h0 : 0 < KS.length) : Defs wr g n cp KS := by
  obtain ⟨g', cp', h1, h2⟩ := RS.defs h h0
  simp only [Value.slice.injEq, Option.some.injEq, Addr.mk.injEq, and_true] at h1
  obtain ⟨rfl, rfl, rfl⟩ := h1
  exact h2
theorem RS.below {wf wr : World} {KS : List (ByteArray × Int)} {V : Value} (h : RS wf KS V wr) : Below wf.heap.size wf wr := by
  obtain ⟨_, _, _, h, _⟩ := h; exact h
end Go.Proofs.YtbogmmpbmgibnaaDoor.askq
