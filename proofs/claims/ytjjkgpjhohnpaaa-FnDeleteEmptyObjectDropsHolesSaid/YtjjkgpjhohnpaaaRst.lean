/- A store at a key that is there, into the map that is ranged over: the law, and the law at the operation. No program in sight. -/
import Derived.Maps.RangeWalk
set_option linter.unusedVariables false
namespace Go.Proofs.Ytjjkgpjhohnpaaa.rst
open Go Go.ChangeMaps Go.MapKept Go.WideShapes
open Go.WideElems (Fit rd rg pl rd_key rd_val rg_of rd_mk other_key)
open Go.Maps (Keyed)

section
variable {H : Type} {P : Program} {k : TypeId} {R : Value → Option (DataW H × List MemPlace)} {w : World} {b r n : Nat} {D : DataW H} {left : Lit → Bool} {cnt : Nat}

theorem store (h : w.ranges P k R b r n D left cnt) {t e : TypeId} (K : Keyed P k) (ht : P.underlying t = some (.map k e)) (hn : n < maxLen) {key val : Value} {kl : Lit} {yv : DataW H × List MemPlace}
    (hkey : keyOf P k key = some kl) (hhas : Maps.has D kl = true) (hv : R val = some yv) :
    ∃ w', (Instr.mapUpdate t (.map (some b)) key val).run P w = .ok () w' ∧ w'.ranges P k R b r n (D.put kl yv.1) left cnt ∧ w.grownBy w' (some b) ∧ w'.heap.size = w.heap.size := by
  have hne := h.ne
  obtain ⟨es, clock, since, seen, c0, hb, F, hs, rfl, hr, hold, rfl, hl1, hl2, hsc, hsk⟩ := h
  obtain ⟨es2, clock2, hrun2, F2, hput, _⟩ := Maps.fit_store (R' := R) K ht hb F (Nat.lt_of_le_of_lt hs hn) (fun _ _ _ _ hz => hz) hkey hv
  rcases K.find w hkey es.toList F.keys with ⟨h1, h2⟩ | ⟨j, e0, h1, h2, h3⟩
  · exfalso
    obtain ⟨p, hp, hpk⟩ := List.any_eq_true.1 hhas
    obtain ⟨x, hx, rfl⟩ := List.mem_map.1 (mem_sorted.1 hp)
    obtain ⟨y, hy⟩ := F.reads x hx
    have e1 := WideAt.sameKey_eq hpk
    rw [rg_of hy] at e1
    exact h2 x hx (K.inj (e1 ▸ rd_key hy) hkey)
  · have hj : es[j]? = some e0 := by simpa using h2
    have hem : e0 ∈ es.toList := List.mem_of_getElem? h2
    have hlist : (es.modify j (fun e' => { e' with key := key, val := val })).toList = es.toList.set j { e0 with key := key, val := val } := by rw [Array.toList_modify, modify_eq_set _ _ _ _ h2]
    have hrun : (Instr.mapUpdate t (.map (some b)) key val).run P w = .ok () (setBlock w b (.map (es.modify j (fun e' => { e' with key := key, val := val })) clock)) := by
      simp [Instr.mapUpdate, run_underlying ht, MapKept.run_getObj_map hb, K.check w false hkey, h1, hj, h3, K.stays w hkey, MapKept.run_setObj_map _ hb, Result.andThen, setBlock]
    have heq : Obj.map es2 clock2 = .map (es.modify j (fun e' => { e' with key := key, val := val })) clock := by
      rw [hrun] at hrun2
      have hw : setBlock w b (.map (es.modify j (fun e' => { e' with key := key, val := val })) clock) = setBlock w b (.map es2 clock2) := by injection hrun2
      have a1 := heap_setBlock_same hb (.map es2 clock2)
      rw [← hw, heap_setBlock_same hb _] at a1
      exact (Option.some.inj a1).symm
    injection heq with he hc
    subst he hc
    have hk0 : (rg P k R e0).1 = kl := by
      obtain ⟨y, hy⟩ := F.reads e0 hem
      have m1 := rd_key hy
      rw [h3, hkey] at m1
      rw [rg_of hy]; exact (Option.some.inj m1).symm
    have hk1 : (rg P k R { e0 with key := key, val := val }).1 = kl := by rw [rg_of (rd_mk hkey hv)]
    have who : ∀ x ∈ es.toList.set j { e0 with key := key, val := val }, x = { e0 with key := key, val := val } ∨ x ∈ es.toList := fun x hx => (List.mem_or_eq_of_mem_set hx).symm
    have hborn : (es.toList.set j { e0 with key := key, val := val }).map (·.born) = es.toList.map (·.born) := by
      rw [List.map_set]
      have : (es.toList.map (·.born))[j]? = some e0.born := by simp [h2]
      have hjl : j < (es.toList.map (·.born)).length := (List.getElem?_eq_some_iff.1 this).1
      have h0 : (es.toList.map (·.born))[j] = e0.born := (List.getElem?_eq_some_iff.1 this).2
      show (es.toList.map (·.born)).set j e0.born = _
      rw [← h0]; exact List.set_getElem_self hjl
    refine ⟨_, hrun, ⟨es.modify j (fun e' => { e' with key := key, val := val }), _, since, seen, c0, heap_setBlock_same hb _, F2, by simpa using hs, by rw [DataW.put_eq, hput], (heap_setBlock_other hb _ hne).trans hr, fun x hx => ?_, ?_, fun x hx => ?_, fun x0 hx0 => ?_, hsc, hsk⟩, ⟨rfl, rfl, rfl, by simp [setBlock], fun i _ hi => heap_setBlock_other hb _ (fun e => hi (by rw [e]))⟩, by simp [setBlock]⟩
    · rw [hlist] at hx
      rcases who x hx with rfl | hx
      · exact hold e0 hem
      · exact hold x hx
    · have e1 : ∀ a : Array MapEntry, (leftOf a seen).size = ((a.toList.map (·.born)).filter fun c => !seen.contains c).length := fun a => by
        unfold leftOf
        rw [← Array.length_toList, Array.toList_filter, List.filter_map, List.length_map]; rfl
      rw [e1, e1, hlist, hborn]
    · rw [hlist] at hx
      rcases who x hx with rfl | hx
      · rw [hk1, ← hk0]; exact hl1 e0 hem
      · exact hl1 x hx
    · obtain ⟨x, hx, rfl⟩ := hl2 x0 hx0
      by_cases e : x = e0
      · subst e
        refine ⟨{ x with key := key, val := val }, ?_, by rw [hk1, hk0]⟩
        rw [hlist]
        exact List.mem_set (List.getElem?_eq_some_iff.1 h2).1 _
      · refine ⟨x, ?_, rfl⟩
        rw [hlist]
        obtain ⟨i, hi, hx2⟩ := List.getElem_of_mem hx
        have hij : j ≠ i := fun e2 => e (by subst e2; have := (List.getElem?_eq_some_iff.1 h2).2; rw [← hx2, this])
        exact List.mem_iff_getElem?.2 ⟨i, by rw [List.getElem?_set_ne hij, List.getElem?_eq_getElem hi, hx2]⟩

/-- 'm[k] = v' in the round, k a key that is there -/
theorem wpList_store_ranges (w : World) {ops : Array Oper} {rest : List Oper} {o : Oper} {a : Act} {Q : Exit → Act → World → Prop}
    (hg : o.guard = none) (m x v : Operand) (t : TypeId) (hop : o.op = Op.mapUpdate t m x v)
    (k e : TypeId) (K : Keyed P k) (ht : P.underlying t = some (.map k e)) (R : Value → Option (DataW H × List MemPlace)) (b r n : Nat) (D : DataW H) (left : Lit → Bool) (cnt : Nat)
    (hm : a.eval m = .map (some b)) (h : w.ranges P k R b r n D left cnt) (hn : n < maxLen) (key val : Value) (kl : Lit) (hx : a.eval x = key) (hv : a.eval v = val) (hkey : keyOf P k key = some kl) (hhas : Maps.has D kl = true)
    (d : DataW H) (ps : List MemPlace) (hval : R val = some (d, ps))
    (hK : ∀ w', w'.ranges P k R b r n (D.put kl d) left cnt → w.grownBy w' (some b) → w'.heap.size = w.heap.size → wpList P ops Q rest (a.put o.dst undef) w') :
    wpList P ops Q (o :: rest) a w := by
  refine wpList_plain hg fun K' hK' => ?_
  obtain ⟨w', hrun, r1, r2, r3⟩ := store h K ht hn hkey hhas hval
  unfold Oper.wp
  simp [execOp, hop, hm, hx, hv, hrun, Result.andThen]
  exact hK' _ _ (hK w' r1 r2 r3)
end
end Go.Proofs.Ytjjkgpjhohnpaaa.rst
