/- sort.Slice (f14) over pointers to names and arities: after the shelf's contract. -/
import Derived.Test.YtbogmmpbmgibnaaDoorOrder
import Derived.Test.YtbogmmpbmgibnaaDoorShelf
import Derived.Lib.SortBridge
set_option linter.unusedVariables false
namespace Go.Proofs.YtbogmmpbmgibnaaDoor.sort'
open Go.Shelf Go.RowKit Go.Lib Go.Sort
open upd zs less order

noncomputable def siT : TypeInfo := (Tryd.prog.info? 50).get (by kernel_rfl)
noncomputable def siE : TypeInfo := (Tryd.prog.info? 51).get (by kernel_rfl)
theorem upd_put {α : Type} [Inhabited α] (enc : α → Value) (w : World) (g m : Nat) (d : Array α) (os : Array Obj) : Upd (· = g) w (grow (putRow enc (Sort.ahead w m) g 0 d) os) := by
  refine ⟨rfl, rfl, rfl, ?_, fun k hk hs => ?_⟩
  · simp [putRow, mapBlock, Sort.ahead, Sort.grow]
  · have h1 : (putRow enc (Sort.ahead w m) g 0 d).heap.size = w.heap.size := by simp [putRow, mapBlock, Sort.ahead]
    rw [heap_grow_old _ _ (by rw [h1]; exact hk)]
    simp [putRow, mapBlock, Sort.ahead, Array.getElem?_modify, Ne.symm hs]
/-- the pointers' row, its blocks told by K -/
def PRow (w : World) (X g n c : Nat) (K : List (ByteArray × Int)) (ps : List Nat) : Prop :=
  w.cell? ⟨X, 0, none⟩ = some (.slice (some ⟨g, 0, none⟩) n c) ∧ n = K.length ∧ ps.length = n ∧ n ≤ c ∧ X ≠ g ∧ X < w.heap.size ∧ g < w.heap.size ∧
  ∀ j p, ps[j]? = some p → w.cell? ⟨g, j, none⟩ = some (.pointer (some ⟨p, 0, none⟩)) ∧ w.frozen? ⟨g, j, none⟩ = false ∧ p ≠ g ∧ ∃ k, K[j]? = some k ∧ Blk w p #[.string k.1, .int .i64 k.2] 53
theorem siK (n : Nat) (h2 : 2 ≤ n) : Lib.swapperK n siE 22 = 3 := by
  have a : siE.hasPointers = true := by kernel_rfl
  have b : siE.bytes = 8 := by kernel_rfl
  have c : (n == 0) = false := by simp; omega
  have d : (n == 1) = false := by simp; omega
  simp [Lib.swapperK, a, b, c, d]

set_option maxRecDepth 100000 in
set_option maxHeartbeats 4000000 in
theorem many (w : World) (X g n c : Nat) (K : List (ByteArray × Int)) (ps : List Nat) (h : PRow w X g n c K ps) (h2 : 2 ≤ n) (hn : n ≤ 1048576) :
    Calls Tryd.prog 14 #[.iface 50 (.slice (some ⟨g, 0, none⟩) n c), .func (.func 15) #[] #[.pointer (some ⟨X, 0, none⟩)]] w fun e w' => e = .returned (.tuple #[]) ∧ ∃ K' qs, K'.Perm K ∧ InOrder K' ∧ PRow w' X g n c K' qs ∧ Upd (· = g) w w' := by
  obtain ⟨hX, hnK, hpn, hnc, hXg, hXl, hgl, hat⟩ := h
  haveI : Inhabited (Fin n) := ⟨⟨0, by omega⟩⟩
  let enc : Fin n → Value := fun i => .pointer (some ⟨ps.getD i.val 0, 0, none⟩)
  let kf : Fin n → ByteArray × Int := fun i => K.getD i.val (ByteArray.empty, 0)
  have hfin : ∀ i : Fin n, w.cell? ⟨g, i.val, none⟩ = some (enc i) ∧ w.frozen? ⟨g, i.val, none⟩ = false ∧ ps.getD i.val 0 ≠ g ∧ Blk w (ps.getD i.val 0) #[.string (kf i).1, .int .i64 (kf i).2] 53 := by
    intro i
    have hp : ps[i.val]? = some (ps.getD i.val 0) := by rw [List.getElem?_eq_getElem (by omega)]; simp [List.getD, hpn]
    obtain ⟨h1, h2, h3, k, hk, hb⟩ := hat i.val _ hp
    have e : kf i = k := by simp [kf, List.getD, hk]
    rw [← e] at hb
    exact ⟨h1, h2, h3, hb⟩
  let d : Array (Fin n) := Array.ofFn fun i : Fin n => i
  have hds : d.size = n := by simp [d]
  have hdt : ∀ t (ht : t < n), d[t]! = ⟨t, ht⟩ := fun t ht => by rw [getElem!_pos d t (by omega)]; simp [d]
  have hH : Holds enc w g 0 d := fun j hj => by
    rw [hds] at hj
    rw [hdt j hj, Nat.zero_add]
    exact ⟨(hfin ⟨j, hj⟩).1, (hfin ⟨j, hj⟩).2.1⟩
  have hless : LessReads Tryd.prog 15 #[.pointer (some ⟨X, 0, none⟩)] enc (fun x y => keyLt (kf x) (kf y)) g 0 d.size w := by
    intro m os dk hs i j hi hj
    rw [hds] at hs hi hj
    have e : sortWorld enc w g 0 m dk os = putRow enc (grow (Sort.ahead w m) os) g 0 dk := by
      unfold sortWorld; rw [putRow_grow _ (Sort.ahead w m) _ g 0 _ hgl]
    have hHg : Holds enc (grow (Sort.ahead w m) os) g 0 d := holds_grow _ _ _ g 0 d hgl (holds_ahead _ _ _ _ _ _ hH)
    have hrow : ∀ t, t < n → (sortWorld enc w g 0 m dk os).cell? ⟨g, t, none⟩ = some (enc dk[t]!) := fun t ht => by
      have := cell?_putRow enc (grow (Sort.ahead w m) os) g 0 d dk hHg (by omega) t (by omega)
      rw [Nat.zero_add] at this
      rw [e]; exact this
    have hoth : ∀ (b o : Nat) (v : Value), b ≠ g → b < w.heap.size → w.cell? ⟨b, o, none⟩ = some v → (sortWorld enc w g 0 m dk os).cell? ⟨b, o, none⟩ = some v := fun b o v hb hl hv => by
      rw [e, cell?_putRow_other _ _ g 0 dk _ (Or.inl hb), cell?_grow _ _ _ hl]; exact hv
    obtain ⟨_, _, pi1, pi2⟩ := hfin dk[i]!
    obtain ⟨_, _, pj1, pj2⟩ := hfin dk[j]!
    exact less15 _ X g n c i j _ _ (kf dk[i]!).1 (kf dk[j]!).1 (kf dk[i]!).2 (kf dk[j]!).2 (hoth X 0 _ hXg hXl hX) hi hj hnc (hrow i hi) (hrow j hj)
      (hoth _ 0 _ pi1 pi2.lt (by rw [pi2.cell]; rfl)) (hoth _ 1 _ pi1 pi2.lt (by rw [pi2.cell]; rfl)) (hoth _ 0 _ pj1 pj2.lt (by rw [pj2.cell]; rfl)) (hoth _ 1 _ pj1 pj2.lt (by rw [pj2.cell]; rfl))
  have hS := Any.sort_Slice_sorted Tryd.laysGg6 50 51 siT siE (by kernel_rfl) (by kernel_rfl) (by kernel_rfl) (by kernel_rfl) 22 (fun _ => by kernel_rfl) (by kernel_rfl) (fun _ => by kernel_rfl) enc (fun _ => rfl) (fun x y => keyLt (kf x) (kf y)) (swo_key kf) 15 #[.pointer (some ⟨X, 0, none⟩)]
    (enters_of Tryd.func15 (by kernel_rfl) rfl) g 0 c d (by omega) (by omega) 25 (by rw [siK _ (by omega)]; kernel_rfl) true
    (fun args W => run_callFunc_extern Tryd.func25 (by kernel_rfl) (by kernel_rfl) (by kernel_rfl) (e := Extern.ReflectliteSwapper.swap true) (by kernel_rfl) args W) w hless hH hgl
  change Calls Tryd.prog 14 _ _ _ at hS
  rw [hds] at hS
  refine hS.mono fun e w' ⟨he, d', m, os, hp, hso, hw⟩ => ⟨he, ?_⟩
  obtain ⟨hsz, _, hperm⟩ := hp
  have hsz' : d'.size = n := by omega
  have e1 : d'.extract 0 n = d' := by simp [← hsz']
  have e2 : d.extract 0 n = d := by simp [d]
  rw [e1, e2] at hperm
  have hu : Upd (· = g) w w' := by rw [hw]; exact upd_put enc w g m d' os
  have hKd : d.toList.map kf = K := by
    apply List.ext_getElem?
    intro t
    rcases Nat.lt_or_ge t n with ht | ht
    · rw [List.getElem?_map, List.getElem?_eq_getElem (by simp [d]; exact ht)]
      simp [d, kf, List.getD, hnK ▸ ht]
    · rw [List.getElem?_eq_none (by simp [d]; exact ht), List.getElem?_eq_none (by omega)]
  have hcell : ∀ t, t < n → w'.cell? ⟨g, t, none⟩ = some (enc d'[t]!) := fun t ht => by
    have e : w' = putRow enc (grow (Sort.ahead w m) os) g 0 d' := by rw [hw, putRow_grow _ (Sort.ahead w m) _ g 0 _ hgl]
    have hHg : Holds enc (grow (Sort.ahead w m) os) g 0 d := holds_grow _ _ _ g 0 d hgl (holds_ahead _ _ _ _ _ _ hH)
    have := cell?_putRow enc (grow (Sort.ahead w m) os) g 0 d d' hHg (by omega) t (by omega)
    rw [Nat.zero_add] at this
    rw [e]; exact this
  have hfree : ∀ t, t < n → w'.frozen? ⟨g, t, none⟩ = false := fun t ht => by
    rw [hw, frozen?_grow _ _ _ (by simp [putRow, mapBlock, Sort.ahead]; exact hgl), frozen?_putRow]
    exact (hfin ⟨t, ht⟩).2.1
  refine ⟨d'.toList.map kf, d'.toList.map (fun i => ps.getD i.val 0), ?_, ?_, ⟨(hu.cell (p := ⟨X, 0, none⟩) hXl hXg).trans hX, by simp [hsz'], by simp [hsz'], hnc, hXg, Nat.lt_of_lt_of_le hXl hu.size, Nat.lt_of_lt_of_le hgl hu.size, fun j p hj => ?_⟩, hu⟩
  · have := hperm.map kf
    rwa [hKd] at this
  · unfold InOrder
    rw [List.pairwise_map, List.pairwise_iff_getElem]
    intro i j hi hj hij
    have h1 := hso i j (Nat.zero_le _) hij (by simp at hj; omega)
    simp at hi hj
    rw [getElem!_pos d' i (by omega), getElem!_pos d' j (by omega)] at h1
    simpa using h1
  · have hjn : j < n := by have := (List.getElem?_eq_some_iff.1 hj).1; simp at this; omega
    have hd : d'.toList[j]? = some d'[j]! := by rw [getElem!_pos d' j (by omega)]; simp [hsz', hjn]
    rw [List.getElem?_map, hd] at hj
    simp only [Option.map_some, Option.some.injEq] at hj
    obtain ⟨_, _, q1, q2⟩ := hfin d'[j]!
    rw [hj] at q1 q2
    refine ⟨by rw [hcell j hjn]; simp only [enc]; rw [hj], hfree j hjn, q1, kf d'[j]!, by rw [List.getElem?_map, hd]; rfl, q2.kept hu q1⟩
theorem below_grow (w : World) (os : Array Obj) : _root_.Go.RowKit.Below w.heap.size w (Sort.grow w os) :=
  ⟨rfl, rfl, rfl, by rw [Sort.size_grow]; omega, fun k hk => heap_grow_old w os hk⟩
theorem few (w : World) (X n c : Nat) (p : Option Addr) (h1 : n ≤ 1) :
    Calls Tryd.prog 14 #[.iface 50 (.slice p n c), .func (.func 15) #[] #[.pointer (some ⟨X, 0, none⟩)]] w fun e w' => e = .returned (.tuple #[]) ∧ _root_.Go.RowKit.Below w.heap.size w w' := by
  have hK : Lib.swapperK n siE 22 = n + 1 := by
    rcases Nat.eq_zero_or_pos n with h | h
    · subst h; simp [Lib.swapperK]
    · obtain rfl : n = 1 := by omega
      simp [Lib.swapperK]
  have hS := Any.sort_Slice_tiny Tryd.laysGg6 50 51 siT siE (by kernel_rfl) (by kernel_rfl) (by kernel_rfl) (by kernel_rfl) 22 (fun _ => by kernel_rfl) p n c h1 (23 + n) (by
    rw [hK]
    rcases Nat.eq_zero_or_pos n with h | h
    · subst h; kernel_rfl
    · obtain rfl : n = 1 := by omega
      kernel_rfl) (.func 15) #[] #[.pointer (some ⟨X, 0, none⟩)] w
  change Calls Tryd.prog 14 _ _ _ at hS
  exact hS.mono fun e w' ⟨he, os, hw⟩ => ⟨he, by rw [hw]; exact below_grow w os⟩
end Go.Proofs.YtbogmmpbmgibnaaDoor.sort'
