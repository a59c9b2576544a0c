/- Maps keyed by strings, whatever their elements: what they hold, key by key; the laws at the operations. No program in sight. -/
import Derived.Maps.RangeWalk
import Derived.Maps.OwnSet
import Derived.Sort.KeysCollected
import Derived.Lib.Hide
set_option linter.unusedVariables false
namespace Go.Proofs.YtenkhaopiiokmaaFmt.mapr
open Go Go.Maps Go.WideShapes Go.WideMaps Go.ChangeShapes Go.WideAt

/-- what a map holds: at each key, if it is there, a value -/
abbrev M := List UInt8 → Option Value
/-- an element of a map of whatever values, held as it is -/
def anyElem (v : Value) : Option (DataW Value × List MemPlace) := some (.held v, [])
def M.put (m : M) (x : List UInt8) (v : Value) : M := fun y => if y = x then some v else m y
def M.del (m : M) (x : List UInt8) : M := fun y => if y = x then none else m y

/-- D holds just what m says -/
structure Says (D : DataW Value) (m : M) : Prop where
  map : IsMap D
  has : ∀ x, Maps.has D (.string x) = (m x).isSome
  val : ∀ x v, m x = some v → ∀ zd, D.atKey (.string x) zd = .held v
theorem lit_ne {x y : List UInt8} (h : ¬ y = x) : Lit.string y ≠ .string x := fun e => h (by injection e)
theorem Says.empty : Says (.map []) (fun _ => none) := ⟨isMap_empty, fun x => rfl, fun x v h => by cases h⟩
theorem Says.put {D : DataW Value} {m : M} (h : Says D m) (x : List UInt8) (v : Value) : Says (D.put (.string x) (.held v)) (m.put x v) := by
  refine ⟨h.map.put _ _, fun y => ?_, fun y u hu zd => ?_⟩
  · by_cases e : y = x
    · subst e; rw [has_put_same h.map (k := .string y) trivial]; simp [M.put]
    · rw [has_put_other (lit_ne e), h.has]; simp [M.put, e]
  · by_cases e : y = x
    · subst e
      have : v = u := by simpa [M.put] using hu
      rw [atKey_put_same h.map (k := .string y) trivial, this]
    · rw [atKey_put_other (lit_ne e)]; exact h.val y u (by simpa [M.put, e] using hu) zd
theorem Says.del {D : DataW Value} {m : M} (h : Says D m) (x : List UInt8) : Says (D.del (.string x)) (m.del x) := by
  refine ⟨h.map.del _, fun y => ?_, fun y u hu zd => ?_⟩
  · by_cases e : y = x
    · subst e; rw [has_del_same]; simp [M.del]
    · rw [has_del_other (lit_ne e), h.has]; simp [M.del, e]
  · by_cases e : y = x
    · subst e; simp [M.del] at hu
    · rw [atKey_del_other (lit_ne e)]; exact h.val y u (by simpa [M.del, e] using hu) zd
theorem Says.at {D : DataW Value} {m : M} (h : Says D m) {x : List UInt8} {v : Value} (hat : ∀ zd, D.atKey (.string x) zd = .held v) : m x = some v := by
  have h1 := h.has x
  rw [has_true_of_atKey hat] at h1
  obtain ⟨u, hu⟩ := Option.isSome_iff_exists.1 h1.symm
  have h2 := (h.val x u hu .nil).symm.trans (hat .nil)
  rw [hu]; injection h2 with e; rw [e]
theorem Says.congr {D : DataW Value} {m m' : M} (h : Says D m) (e : ∀ x, m x = m' x) : Says D m' := by
  have : m = m' := funext e
  rw [← this]; exact h

/-- block b is a map keyed by strings that holds just what m says, of at most n entries -/
def HoldsM (P : Program) (k : TypeId) (w : World) (b n : Nat) (m : M) : Prop := ∃ D, w.ownsMap P k anyElem b n D ∧ Says D m
theorem HoldsM.made (P : Program) (k : TypeId) (w : World) : HoldsM P k (w.alloc (.map #[] 0)) w.heap.size 0 (fun _ => none) := ⟨_, World.ownsMap_made w P k anyElem, Says.empty⟩
theorem HoldsM.kept {P : Program} {k : TypeId} {w w' : World} {b n : Nat} {m : M} {row : Option Nat} (h : HoldsM P k w b n m) (hg : w.grownBy w' row) (hne : some b ≠ row) : HoldsM P k w' b n m := by
  obtain ⟨D, h1, h2⟩ := h; exact ⟨D, h1.kept hg hne, h2⟩
theorem HoldsM.setCell {P : Program} {k : TypeId} {w : World} {b n : Nat} {m : M} (h : HoldsM P k w b n m) {a : Addr} (ha : b ≠ a.block) (u : Value) : HoldsM P k (w.setCell a u) b n m := by
  obtain ⟨D, h1, h2⟩ := h; exact ⟨D, h1.setCell ha u, h2⟩
theorem HoldsM.alloc {P : Program} {k : TypeId} {w : World} {b n : Nat} {m : M} (h : HoldsM P k w b n m) (o : Obj) : HoldsM P k (w.alloc o) b n m := by
  obtain ⟨D, h1, h2⟩ := h; exact ⟨D, h1.alloc o, h2⟩
theorem HoldsM.lt {P : Program} {k : TypeId} {w : World} {b n : Nat} {m : M} (h : HoldsM P k w b n m) : b < w.heap.size := by
  obtain ⟨D, h1, h2⟩ := h; exact h1.lt
theorem HoldsM.same {P : Program} {k : TypeId} {w w' : World} {b n : Nat} {m : M} (h : HoldsM P k w b n m) (e : w'.heap[b]? = w.heap[b]?) : HoldsM P k w' b n m := by
  obtain ⟨D, ⟨es, clock, hb, r⟩, h2⟩ := h; exact ⟨D, ⟨es, clock, e.trans hb, r⟩, h2⟩
theorem HoldsM.congr {P : Program} {k : TypeId} {w : World} {b n : Nat} {m m' : M} (h : HoldsM P k w b n m) (e : ∀ x, m x = m' x) : HoldsM P k w b n m' := by
  obtain ⟨D, h1, h2⟩ := h; exact ⟨D, h1, h2.congr e⟩

/-- how many entries: as many as a list of just its keys, none twice, is long -/
theorem size_of {P : Program} {k : TypeId} {w : World} {b n : Nat} {D : DataW Value} (hs : P.underlying k = some .string) (h : w.ownsMap P k anyElem b n D) {l : List (List UInt8)} (hnd : l.Nodup) (hm : ∀ x, x ∈ l ↔ Maps.has D (.string x) = true) : Maps.size D = l.length := by
  have hC : Collected D (fun _ => false) l := ⟨hnd, fun x => by rw [hm x]; simp⟩
  rw [(hC.perm h (string_keyed hs) hs (fun _ => rfl)).length_eq]
  obtain ⟨es, rfl, _⟩ := h.entries (string_keyed hs)
  simp [strKeys, Maps.size]

section
variable {P : Program} (w : World) {ops : Array Oper} {rest : List Oper} {o : Oper} {a : Act} {Q : Exit → Act → World → Prop}

/-- the look-up as an equation on the run -/
theorem HoldsM.run_yes {w : World} {t k e : TypeId} (hs : P.underlying k = some .string) (ht : P.underlying t = some (.map k e)) {z : Value} (hz : (zeroValue e).run P w = .ok z w) {b n : Nat} {m : M} (hown : HoldsM P k w b n m) {s : ByteArray} (hl : s.size ≤ maxLen) {v : Value} (hv : m s.data.toList = some v) :
    (Instr.lookup t (.map (some b)) (.string s) true).run P w = .ok (.tuple #[v, .bool true]) w := by
  obtain ⟨D, h1, h2⟩ := hown
  obtain ⟨u, ps, hrun, hu⟩ := h1.look_ok (string_keyed hs) ht hz (zd := .held z) (zp := []) rfl (keyOf_string_mk hs hl)
  have : u = v := by
    rw [h2.val _ v hv] at hu
    simp [anyElem] at hu; exact hu.1
  subst this
  rw [h2.has, hv] at hrun
  exact hrun
theorem HoldsM.run_no {w : World} {t k e : TypeId} (hs : P.underlying k = some .string) (ht : P.underlying t = some (.map k e)) {z : Value} (hz : (zeroValue e).run P w = .ok z w) {b n : Nat} {m : M} (hown : HoldsM P k w b n m) {s : ByteArray} (hl : s.size ≤ maxLen) (hv : m s.data.toList = none) :
    (Instr.lookup t (.map (some b)) (.string s) true).run P w = .ok (.tuple #[z, .bool false]) w := by
  obtain ⟨D, h1, h2⟩ := hown
  obtain ⟨u, ps, hrun, hu⟩ := h1.look_ok (string_keyed hs) ht hz (zd := .held z) (zp := []) rfl (keyOf_string_mk hs hl)
  have hno : Maps.has D (.string s.data.toList) = false := by rw [h2.has, hv]; rfl
  have : u = z := by
    rw [atKey_of_not_has hno] at hu
    simp [anyElem] at hu; exact hu.1
  subst this
  rw [hno] at hrun
  exact hrun

/-- 'm[k] = v' -/
theorem wpList_put (hg : o.guard = none) (mm x v : Operand) (t : TypeId) (hop : o.op = Op.mapUpdate t mm x v) (k e : TypeId) (hs : P.underlying k = some .string) (ht : P.underlying t = some (.map k e)) (b n : Nat) (m : M)
    (hm : a.eval mm = .map (some b)) (hown : HoldsM P k w b n m) (hn : n < maxLen) (s : ByteArray) (val : Value) (hx : a.eval x = .string s) (hv : a.eval v = val) (hl : s.size ≤ maxLen)
    (hK : ∀ w', HoldsM P k w' b (n + 1) (m.put s.data.toList val) → w.grownBy w' (some b) → wpList P ops Q rest (a.put o.dst undef) w') : wpList P ops Q (o :: rest) a w := by
  obtain ⟨D, h1, h2⟩ := hown
  exact wpList_mapUpdate_own w hg mm x v t hop k e (string_keyed hs) ht anyElem b n D hm h1 hn _ _ _ hx hv (keyOf_string_mk hs hl) _ [] rfl (fun w' ho hg' => hK w' ⟨_, ho, h2.put _ _⟩ hg')
/-- 'm[k]', the key is there -/
theorem wpList_look (hg : o.guard = none) (mm x : Operand) (t : TypeId) (hop : o.op = Op.lookup t mm x false) (k e : TypeId) (hs : P.underlying k = some .string) (ht : P.underlying t = some (.map k e)) {z : Value} (hz : (zeroValue e).run P w = .ok z w) (b n : Nat) (m : M)
    (hm : a.eval mm = .map (some b)) (hown : HoldsM P k w b n m) (s : ByteArray) (hx : a.eval x = .string s) (hl : s.size ≤ maxLen) (v : Value) (hv : m s.data.toList = some v)
    (hK : wpList P ops Q rest (a.put o.dst v) w) : wpList P ops Q (o :: rest) a w := by
  obtain ⟨D, h1, h2⟩ := hown
  refine wpList_plain hg fun K' hK' => ?_
  obtain ⟨u, ps, hrun, hu⟩ := h1.lookup (string_keyed hs) ht hz (zd := .held z) (zp := []) rfl (keyOf_string_mk hs hl)
  have : u = v := by
    rw [h2.val _ v hv] at hu
    simp [anyElem] at hu; exact hu.1
  subst this
  unfold Oper.wp
  simp [execOp, hop, hm, hx, hrun, Result.andThen]
  exact hK' _ _ hK
/-- 'v, ok := m[k]', the key is there -/
theorem wpList_look_yes (hg : o.guard = none) (mm x : Operand) (t : TypeId) (hop : o.op = Op.lookup t mm x true) (k e : TypeId) (hs : P.underlying k = some .string) (ht : P.underlying t = some (.map k e)) {z : Value} (hz : (zeroValue e).run P w = .ok z w) (b n : Nat) (m : M)
    (hm : a.eval mm = .map (some b)) (hown : HoldsM P k w b n m) (s : ByteArray) (hx : a.eval x = .string s) (hl : s.size ≤ maxLen) (v : Value) (hv : m s.data.toList = some v)
    (hK : wpList P ops Q rest (a.put o.dst (.tuple #[v, .bool true])) w) : wpList P ops Q (o :: rest) a w := by
  obtain ⟨D, h1, h2⟩ := hown
  refine wpList_plain hg fun K' hK' => ?_
  obtain ⟨u, ps, hrun, hu⟩ := h1.look_ok (string_keyed hs) ht hz (zd := .held z) (zp := []) rfl (keyOf_string_mk hs hl)
  have : u = v := by
    rw [h2.val _ v hv] at hu
    simp [anyElem] at hu; exact hu.1
  subst this
  rw [h2.has, hv] at hrun
  unfold Oper.wp
  simp [execOp, hop, hm, hx, hrun, Result.andThen]
  exact hK' _ _ hK
/-- 'v, ok := m[k]', the key is not there -/
theorem wpList_look_no (hg : o.guard = none) (mm x : Operand) (t : TypeId) (hop : o.op = Op.lookup t mm x true) (k e : TypeId) (hs : P.underlying k = some .string) (ht : P.underlying t = some (.map k e)) {z : Value} (hz : (zeroValue e).run P w = .ok z w) (b n : Nat) (m : M)
    (hm : a.eval mm = .map (some b)) (hown : HoldsM P k w b n m) (s : ByteArray) (hx : a.eval x = .string s) (hl : s.size ≤ maxLen) (hv : m s.data.toList = none)
    (hK : wpList P ops Q rest (a.put o.dst (.tuple #[z, .bool false])) w) : wpList P ops Q (o :: rest) a w := by
  obtain ⟨D, h1, h2⟩ := hown
  refine wpList_plain hg fun K' hK' => ?_
  obtain ⟨u, ps, hrun, hu⟩ := h1.look_ok (string_keyed hs) ht hz (zd := .held z) (zp := []) rfl (keyOf_string_mk hs hl)
  have hno : Maps.has D (.string s.data.toList) = false := by rw [h2.has, hv]; rfl
  have : u = z := by
    rw [atKey_of_not_has hno] at hu
    simp [anyElem] at hu; exact hu.1
  subst this
  rw [hno] at hrun
  unfold Oper.wp
  simp [execOp, hop, hm, hx, hrun, Result.andThen]
  exact hK' _ _ hK
/-- 'len(m)' -/
theorem wpList_lenM (hg : o.guard = none) (mm : Operand) (t : TypeId) (hop : o.op = Op.call { callee := Callee.builtin Builtin.len, args := #[mm], argTypes := #[t] }) (k e : TypeId) (hs : P.underlying k = some .string) (ht : P.underlying t = some (.map k e)) (b n : Nat) (m : M)
    (hm : a.eval mm = .map (some b)) (hown : HoldsM P k w b n m) {l : List (List UInt8)} (hnd : l.Nodup) (hl : ∀ x, x ∈ l ↔ (m x).isSome = true)
    (hK : wpList P ops Q rest (a.put o.dst (.int .i64 l.length)) w) : wpList P ops Q (o :: rest) a w := by
  obtain ⟨D, h1, h2⟩ := hown
  refine wpList_len_own w hg mm t hop k e ht anyElem b n D hm h1 ?_
  rw [size_of hs h1 hnd (fun x => by rw [hl x, h2.has])]
  exact hK
end
end Go.Proofs.YtenkhaopiiokmaaFmt.mapr
