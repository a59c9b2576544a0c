/- The scopes that the statements' description stands for; steps of the compiler put together. No function of the program in sight but the doors. -/
import Derived.Test.YtmfpmpbilekbgaaDoors
import Derived.Test.YtmfpmpbilekbgaaGuard
import Derived.Test.YtmfpmpbilekbgaaAt
import Derived.Test.YtmfpmpbilekbgaaFill
set_option linter.unusedVariables false
namespace Go.Proofs.Ytmfpmpbilekbgaa.model
open Go.ChangeShapes Go.WideShapes Go.ChangeAt Go.RowKit
open upd comp grow add lookv var newc push wrap pushv lookf doors zs guard

def zd (D : List Zs) (j : Nat) : Zs := (D[j]?).getD ⟨[], [], []⟩
theorem zd_at {D : List Zs} {j : Nat} {z : Zs} (h : D[j]? = some z) : zd D j = z := by simp [zd, h]
/-- the number of functions ahead of scope k -/
def pcAt (D : List Zs) : Nat → Nat
  | 0 => 0
  | k + 1 => pcAt D k + (zd D k).funcs.length
/-- the first m functions of a scope whose first has this pc -/
def funs (z : Zs) (pc m : Nat) : List (ByteArray × Int × Int) := (List.range m).map fun i => (z.funcs.getD i ByteArray.empty, ((pc + i : Nat) : Int), z.ars.getD i 0)
theorem funs_zero (z : Zs) (pc : Nat) : funs z pc 0 = [] := rfl
theorem funs_len (z : Zs) (pc m : Nat) : (funs z pc m).length = m := by simp [funs]
theorem funs_snoc (z : Zs) (pc m : Nat) (s : ByteArray) (h : z.funcs[m]? = some s) : funs z pc (m + 1) = funs z pc m ++ [(s, ((pc + m : Nat) : Int), z.ars.getD m 0)] := by
  simp [funs, List.range_succ, List.getD, h]
theorem funs_at (z : Zs) (pc m i : Nat) (h : i < m) : (funs z pc m)[i]? = some (z.funcs.getD i ByteArray.empty, ((pc + i : Nat) : Int), z.ars.getD i 0) := by
  simp [funs, h]
def sc (D : List Zs) (k : Nat) : Sc := ⟨(k : Int) + 1, (zd D k).vars, funs (zd D k) (pcAt D k) (zd D k).funcs.length⟩
def scs (D : List Zs) (k : Nat) : List Sc := (List.range k).map (sc D)
theorem scs_len (D : List Zs) (k : Nat) : (scs D k).length = k := by simp [scs]
theorem scs_snoc (D : List Zs) (k : Nat) : scs D (k + 1) = scs D k ++ [sc D k] := by simp [scs, List.range_succ]
theorem scs_at (D : List Zs) (k j : Nat) (h : j < k) : (scs D k)[j]? = some (sc D j) := by simp [scs, h]
theorem take_snoc {l : List ByteArray} {j : Nat} {s : ByteArray} (h : l[j]? = some s) : l.take (j + 1) = l.take j ++ [s] := by
  rw [List.take_add_one, h]; rfl
theorem pc_small (D : List Zs) (hs : ShortTo D D.length) : ∀ k, k ≤ D.length → pcAt D k ≤ k * 1048576
  | 0, _ => by simp [pcAt]
  | k + 1, h => by
    have ih := pc_small D hs k (by omega)
    obtain ⟨z, hz⟩ : ∃ z, D[k]? = some z := ⟨_, List.getElem?_eq_getElem (by omega)⟩
    have := (hs k z (by omega) hz).2.1
    simp only [pcAt, zd_at hz]
    omega

theorem nx_trans {base : Nat} {w w' w'' : World} {col col' col'' : Nat → Nat} (h : Nx base w col w' col') (k : Nx base w' col' w'' col'') : Nx base w col w'' col'' := by
  refine ⟨fun j hj => (k.old j (Nat.lt_of_lt_of_le hj h.upd.size)).trans (h.old j hj), ⟨k.upd.os.trans h.upd.os, k.upd.tape.trans h.upd.tape, k.upd.output.trans h.upd.output, Nat.le_trans h.upd.size k.upd.size, fun j hj hs => ?_⟩⟩
  refine (k.upd.block j (Nat.lt_of_lt_of_le hj h.upd.size) (fun s => hs ?_)).trans (h.upd.block j hj hs)
  rw [← h.old j hj]; exact s
theorem now_trans {base c bb : Nat} {w w' w'' : World} {col col' : Nat → Nat} {cv : Value} {B : Sc} {L : List Sc} {cnt : Int} (h : Nx base w col w' col') (k : Now base w' col' c cv bb B L cnt w'') : Now base w col c cv bb B L cnt w'' := by
  obtain ⟨col'', sv, bs, hN, hC⟩ := k
  exact ⟨col'', sv, bs, nx_trans h hN, hC⟩
theorem now_below {base c bb : Nat} {w w' : World} {col : Nat → Nat} {cv : Value} {B : Sc} {L : List Sc} {cnt : Int} (h : Now base w col c cv bb B L cnt w') (hb : base ≤ w.heap.size) : Below base w w' := by
  obtain ⟨_, _, _, hN, _⟩ := h
  exact hN.upd.below hb (fun k hk => hk.1)
theorem now_drew {base c bb : Nat} {w w' : World} {col : Nat → Nat} {cv : Value} {B : Sc} {L : List Sc} {cnt : Int} (h : Now base w col c cv bb B L cnt w') (d : Nat) : Now base w col c cv bb B L cnt (w'.drewN d) := by
  obtain ⟨col', sv, bs, hN, hC⟩ := h
  exact ⟨col', sv, bs, ⟨hN.old, hN.upd.drewN d⟩, hC.step (S := fun _ => False) ((Upd.refl _ _).drewN d) (fun _ h => h.elim) (fun _ _ => rfl)⟩
/-- a block of one's own laid beside the compiler -/
theorem enterU {base c bb : Nat} {w W : World} {col : Nat → Nat} {cv sv : Value} {bs : List Nat} {B : Sc} {L : List Sc} {cnt : Int} (h : CompAt base w col c cv bb sv bs B L cnt) (hu : Upd (fun _ => False) w W) : Now base W (cut col w.heap.size) c cv bb B L cnt W :=
  ⟨cut col w.heap.size, sv, bs, ⟨fun _ _ => rfl, Upd.refl _ _⟩, h.step (S := fun _ => False) hu (fun _ h => h.elim) (fun k hk => cut_old _ _ _ hk)⟩
theorem keepU {base c bb S : Nat} {w W w1 : World} {col : Nat → Nat} {cv : Value} {B : Sc} {L : List Sc} {cnt : Int} {cs : Array Value} {t : TypeId} (h : Now base W (cut col w.heap.size) c cv bb B L cnt w1) (hb : Blk W S cs t) (hS : w.heap.size ≤ S) : Blk w1 S cs t := by
  obtain ⟨col', sv, bs, hN, _⟩ := h
  exact hb.kept hN.upd (fun s => by have := s.2; rw [cut_new _ _ _ hS] at this; omega)
theorem leaveU {base c bb : Nat} {w W w1 : World} {col : Nat → Nat} {cv : Value} {B : Sc} {L : List Sc} {cnt : Int} (h : Now base W (cut col w.heap.size) c cv bb B L cnt w1) (hu : Upd (fun _ => False) w W) : Now base w col c cv bb B L cnt w1 := by
  obtain ⟨col', sv, bs, hN, hC⟩ := h
  refine ⟨col', sv, bs, ⟨fun k hk => (hN.old k (Nat.lt_of_lt_of_le hk hu.size)).trans (cut_old _ _ _ hk), ?_⟩, hC⟩
  refine (hu.mono (fun _ _ h => h.elim)).trans (hN.upd.mono (fun k hk s => ⟨s.1, ?_⟩))
  rcases Nat.lt_or_ge k w.heap.size with hlt | hge
  · have := s.2; rwa [cut_old _ _ _ hlt] at this
  · have := s.2; rw [cut_new _ _ _ hge] at this; omega

theorem createN {base c bb : Nat} {W w : World} {col : Nat → Nat} {cv : Value} {B s : Sc} {L : List Sc} {cnt : Int} (h : Now base W col c cv bb B (L ++ [s]) cnt w) (nm : ByteArray) (hn : L.length ≤ 2097152) (hf : s.vars.length ≤ 2097152) (hbase : base ≤ W.heap.size) :
    Calls Try.prog 40 #[.pointer (some ⟨c, 0, none⟩), .string nm] w fun e w' => e = .returned (lookv.two s.id s.vars.length) ∧ Now base W col c cv bb B (L ++ [{ s with vars := s.vars ++ [nm] }]) cnt w' := by
  obtain ⟨col', sv, bs, hN, hC⟩ := h
  exact (zcreate hC nm hn hf (Nat.le_trans hbase hN.upd.size)).mono fun e w' ⟨h1, h2⟩ => ⟨h1, now_trans hN h2⟩
theorem addN {base c bb : Nat} {W w : World} {col : Nat → Nat} {cv : Value} {B s : Sc} {L : List Sc} {cnt : Int} (h : Now base W col c cv bb B (L ++ [s]) cnt w) (nm : ByteArray) (pc ac : Int) (hn : L.length ≤ 2097152) (hf : s.funcs.length ≤ 2097152) (hbase : base ≤ W.heap.size) :
    Calls Try.prog 49 #[.pointer (some ⟨c, 0, none⟩), .string nm, .int .i64 pc, .int .i64 ac] w fun e w' => e = .returned (.tuple #[]) ∧ Now base W col c cv bb B (L ++ [{ s with funcs := s.funcs ++ [(nm, pc, ac)] }]) cnt w' := by
  obtain ⟨col', sv, bs, hN, hC⟩ := h
  exact (addF hC nm pc ac hn hf (Nat.le_trans hbase hN.upd.size)).mono fun e w' ⟨h1, h2⟩ => ⟨h1, now_trans hN h2⟩
theorem pushN {base c bb : Nat} {W w : World} {col : Nat → Nat} {cv : Value} {B : Sc} {L : List Sc} {cnt : Int} (h : Now base W col c cv bb B L cnt w) (hbase : base ≤ W.heap.size) (hn : L.length ≤ 2097152) (h0 : 0 ≤ cnt) (h1 : cnt ≤ 2097152) :
    Calls Try.prog 48 #[.pointer (some ⟨c, 0, none⟩)] w fun e w' => e = .returned (.tuple #[]) ∧ Now base W col c cv bb B (L ++ [⟨cnt, [], []⟩]) (cnt + 1) w' := by
  obtain ⟨col', sv, bs, hN, hC⟩ := h
  exact (pushScope hC (Nat.le_trans hbase hN.upd.size) hn h0 h1).mono fun e w' ⟨h1, h2⟩ => ⟨h1, now_trans hN h2⟩
theorem atD (w : World) (v : Value) (l : List Int) (h : IntRow w v l) (j d : Nat) : Calls Try.prog 18 #[v, .int .i64 j] (w.drewN d) fun e w' => e = .returned (.int .i64 (l.getD j 0)) ∧ w' = w.drewN d :=
  (at'.zzAt (w.drewN d) v l (h.kept (w' := w.drewN d) ⟨rfl, rfl, rfl, Nat.le_refl _, fun _ _ => rfl⟩) j).mono fun e w' ⟨h1, h2⟩ => ⟨h1, h2.symm⟩
theorem cell_kept {w wr : World} {x : Addr} {j : Nat} {v : Value} (hb : Below w.heap.size w wr) (hc : w.cell? (x.add j) = some v) : wr.cell? (x.add j) = some v :=
  (hb.cell (p := x.add j) (by rw [zs.add_block]; exact fill.addr_lt hc)).trans hc
end Go.Proofs.Ytmfpmpbilekbgaa.model
