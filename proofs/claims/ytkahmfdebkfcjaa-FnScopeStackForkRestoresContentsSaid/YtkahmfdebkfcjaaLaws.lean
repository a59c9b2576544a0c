/- What the three statements share: a script's bytes, the runner at whatever script. -/
import Derived.Test.YtkahmfdebkfcjaaApply
import Derived.Test.YtkahmfdebkfcjaaDrain
import Derived.Test.YtkahmfdebkfcjaaInit
namespace Go.Proofs.Ytkahmfdebkfcjaa.laws
open Go.ChangeShapes Go.WideShapes Go.ChangeAt Go.RowKit
open upd stack full plain step fill init

theorem apply_any (base b mb : Nat) (w : World) (a : Option Addr) (n cap : Nat) (bs : Nat → Int) (W : World) (hst : State base b mb w 0) (hn : n ≤ 65536) (hbs : ∀ i, 0 ≤ bs i ∧ bs i < 256) (hin : In W a n (fB bs)) (hW : W.heap.size ≤ base) (hWw : Below W.heap.size W w) (hbase : base ≤ w.heap.size) :
    Calls Try.prog 10 #[.pointer (some ⟨b, 0, none⟩), .pointer (some ⟨mb, 0, none⟩), .slice a n cap, .int .i64 0] w fun e w' => e = .returned (.bool true) ∧ State base b mb w' n ∧ Below base w w' := by
  rcases hin with ⟨rfl, rfl⟩ | ⟨x, rfl, hx, hc⟩
  · exact apply_nil base b mb w 0 cap hst hbase
  · exact apply.apply base b mb w x n cap bs 0 hst hn hbs (fun h => Nat.lt_of_lt_of_le (hx h) hW) (fun i hi => later hx hc hWw i hi) hbase (by omega)

/-- the bytes of a slice that came in -/
theorem open_in (a : Option Addr) (len cap : Nat) (zs : List Int) (w : World) (h : inp.IsRow .u8 w a len cap zs) : ∃ bs : Nat → Int, (∀ i, 0 ≤ bs i ∧ bs i < 256) ∧ In w a len (fB bs) ∧ (a = none → len = 0 ∧ cap = 0) ∧ len ≤ 9223372036854775807 := by
  refine ⟨fun i => zs.getD i 0, fun i => ?_, In.of_ints h, ?_, ?_⟩
  · by_cases hi : i < zs.length
    · have e : zs.getD i 0 = zs[i] := by simp [hi]
      rcases h with ⟨_, _, _, rfl⟩ | ⟨x, _, _, _, _, _, hw⟩
      · simp at hi
      · have := hw _ (List.getElem_mem hi)
        show 0 ≤ zs.getD i 0 ∧ zs.getD i 0 < 256
        rw [e]
        have e1 : IntKind.u8.min = 0 := by decide
        have e2 : IntKind.u8.max = 255 := by decide
        simp [Lit.wf, e1, e2] at this
        omega
    · have e : zs.getD i 0 = 0 := by rw [List.getD, List.getElem?_eq_none (by omega)]; rfl
      show 0 ≤ zs.getD i 0 ∧ zs.getD i 0 < 256
      rw [e]; omega
  · rcases h with ⟨_, rfl, rfl, _⟩ | ⟨x, rfl, _⟩
    · exact fun _ => ⟨rfl, rfl⟩
    · exact fun e => by cases e
  · rcases h with ⟨_, rfl, rfl, _⟩ | ⟨x, rfl, h1, h2, _⟩
    · omega
    · unfold maxLen at h2; omega
end Go.Proofs.Ytkahmfdebkfcjaa.laws
