/- The shim over listModuleDefs (f9): its texts as a slice of strings. -/
import Derived.Test.YtbogmmpbmgibnaaDoorList13
import Derived.Test.YtbogmmpbmgibnaaDoorCopy
set_option linter.unusedVariables false
namespace Go.Proofs.YtbogmmpbmgibnaaDoor.shim
open Go.ChangeShapes Go.WideShapes Go.ChangeAt Go.RowKit
open upd zs less order sort' coll fill list13 copy

theorem ta9 (x : Value) (w : World) : (Instr.typeAssert (.iface 9 x) 20 9 true).run Tryd.prog w = .ok (.tuple #[x, .bool true]) w := by kernel_rfl
theorem str_size {k : ByteArray × Int} (h1 : k.1.size ≤ 1048576) (h2 : 0 ≤ k.2) (h3 : k.2 ≤ 65536) : (strK k).size ≤ maxLen := by
  have := digits_le k.2.toNat (by omega)
  have e : (strK k).size = k.1.size + 1 + (Lib.decDigits k.2.toNat).length := by
    unfold strK; simp [ByteArray.size_append]; rfl
  rw [e]; unfold maxLen; omega
/-- the answer's strings -/
def gK (K : List (ByteArray × Int)) (j : Nat) : Value := .string (strK (K.getD j (ByteArray.empty, 0)))
set_option maxRecDepth 100000 in
set_option maxHeartbeats 4000000 in
theorem shim9 (w : World) (Q g n cap : Nat) (L : List (ByteArray × Int)) (hQ : w.cell? ⟨Q, 2, none⟩ = some (.slice (some ⟨g, 0, none⟩) n cap)) (hD : Defs w g n cap L) (hF : Fine L) (hn : n ≤ 8192) (hT : Tab w.heap.size w) :
    Calls Tryd.prog 9 #[.pointer (some ⟨Q, 0, none⟩)] w fun e w' => ∃ K' v, K'.Perm (visK L) ∧ InOrder K' ∧ e = .returned (.tuple #[v, .bool true]) ∧ StrRow w' v (K'.map strK) ∧ Below w.heap.size w w' := by
  have HL := Lib.hid (list13 w Q g n cap L hQ hD hF hn hT)
  have HLN : Hid (∀ K' : List (ByteArray × Int), K'.Perm (visK L) → K'.length ≤ 8192 ∧ ∀ k ∈ K', (strK k).size ≤ maxLen) := fun K' hp => by
    refine ⟨?_, fun k hk => ?_⟩
    · rw [hp.length_eq]
      have h1 := List.length_filter_le (fun x : ByteArray × Int => vis x.1) L
      unfold visK
      have := hD.1
      omega
    · have h2 : k ∈ L := (List.mem_filter.1 (hp.mem_iff.1 hk)).1
      obtain ⟨i, hi⟩ := List.mem_iff_getElem?.1 h2
      obtain ⟨_, f2, f3, f4⟩ := hF i k hi
      exact str_size f2 f3 f4
  obtain ⟨i0, hi, hz0, hz1, hz2⟩ := info_parts info9
  have hta := ta9
  clear hQ hD hF hn hT
  go_enter Tryd.func9, Tryd.ntmps9
  go_wp2_with fail
  go_at_call 13
  refine HL.out.mono ?_
  rintro e w1 ⟨K', v, hp, ho, rfl, ⟨b, rfl, hr⟩, hb⟩
  obtain ⟨m, hm⟩ : ∃ m, m = K'.length := ⟨_, rfl⟩
  have HM := Lib.hid hm
  have hml : m ≤ 8192 := by rw [hm]; exact (HLN.out K' hp).1
  have HP := Lib.hid hp
  have HO := Lib.hid ho
  have HB := Lib.hid hb
  rw [← hm] at hr ⊢
  have HR := Lib.hid hr
  clear HL hp ho hb hr hm
  go_wp2_with (at_make; refine wpList_make_full _ rfl _ _ 22 rfl w1.heap.size 9 i0 (.string ⟨#[]⟩) 1 Tryd.underlying22 hi hz0 hz1 .i64 .i64 _ _ m rfl rfl rfl rfl (by rw [hz2]; omega) (by unfold maxLen; omega) (Nat.le_refl _) ?_; intro w2 hown0 hgrow0)
  have hr0 : Row w2 w1.heap.size 9 (fpart m 0 (gK K') (.string ⟨#[]⟩)) := by rw [fpart_zero]; exact Row.of_made rfl hown0
  have hb0 : Below w1.heap.size w1 w2 := (Below.refl _ _).grown hgrow0 (Nat.le_refl _) (fun k hk => by cases hk)
  obtain ⟨B, hBe⟩ : ∃ B, B = w1.heap.size := ⟨_, rfl⟩
  have HBE := Lib.hid hBe
  rw [← hBe] at hr0 ⊢
  have HR0 := Lib.hid hr0
  have HB0 := Lib.hid hb0
  clear hown0 hgrow0 hr0 hBe hb0
  go_loopw [6, 7, 8, 9, 17] (fun _ _ _ _ i wr => ∃ j : Nat, j ≤ m ∧ i = .int .i64 j ∧ Hid (Row wr B 9 (fpart m j (gK K') (.string ⟨#[]⟩))) ∧ Hid (Below w1.heap.size w1 wr)) (fun _ _ _ _ i _ => m - (intOf i).toNat)
  case atStart => exact ⟨0, Nat.zero_le _, rfl, HR0, HB0⟩
  case round =>
    obtain ⟨j, hj, rfl, HRW, HBW⟩ := hrel
    clear HR0 HB0
    by_cases hjm : j < m
    · have c0 : wr.cell? ⟨b, j, none⟩ = some (.iface 9 (gK K' j)) := by
        have h1 := HR.out.cell (j := j) (v := fK K' j) (by simp [hjm])
        exact (HBW.out.cell (p := ⟨b, j, none⟩) HR.out.lt).trans h1
      have z0 := HRW.out.cell (fpart_at m j (gK K') (.string ⟨#[]⟩) j hjm hj)
      rw [if_neg (by omega)] at z0
      have z1 := HRW.out.free j
      have z2 := HRW.out.lt
      have HRN : Hid (Row (wr.setCell ⟨B, j, none⟩ (gK K' j)) B 9 (fpart m (j + 1) (gK K') (.string ⟨#[]⟩))) := by
        have := HRW.out.set j (gK K' j)
        rwa [fpart_set m j (gK K') (.string ⟨#[]⟩) hjm] at this
      have HBN : Hid (Below w1.heap.size w1 (wr.setCell ⟨B, j, none⟩ (gK K' j))) := HBW.out.setCell (p := ⟨B, j, none⟩) (by rw [HBE.out]; exact Nat.le_refl _) _
      unfold gK at HRN HBN c0
      have j0 : (0 : Int) ≤ j := by omega
      have j1 : (j : Int) < m := by omega
      clear HRW HBW
      go_wp2_with fail
      refine ⟨⟨j + 1, by omega, by go_num, HRN, HBN⟩, ?_⟩
      simp [intOf] <;> omega
    · obtain rfl : m = j := by omega
      have HFI : Hid (Row wr B 9 ((List.range m).map (gK K'))) := by unfold Hid; rw [← fpart_all m (gK K') (.string ⟨#[]⟩)]; exact HRW.out
      have HS : Hid (StrRow wr (.slice (some ⟨B, 0, none⟩) m m) (K'.map strK)) := by
        have hl : (K'.map strK).length = m := by rw [List.length_map, HM.out]
        refine .inr ⟨⟨B, 0, none⟩, m, by rw [hl], by rw [hl]; exact Nat.le_refl _, by unfold maxLen; omega, fun t s hs => ⟨?_, ?_⟩⟩
        · rw [fill.add_none, Nat.zero_add]
          have ht : t < m := by have := (List.getElem?_eq_some_iff.1 hs).1; omega
          refine HFI.out.cell ?_
          rw [List.getElem?_map] at hs
          obtain ⟨k, hk, rfl⟩ := Option.map_eq_some_iff.1 hs
          simp [ht, gK, List.getD, hk]
        · rw [List.getElem?_map] at hs
          obtain ⟨k, hk, rfl⟩ := Option.map_eq_some_iff.1 hs
          exact (HLN.out K' HP.out).2 k (List.mem_of_getElem? hk)
      go_wp2_with fail
      go_ret2
      exact ⟨K', .slice (some ⟨B, 0, none⟩) m m, HP.out, HO.out, rfl, HS.out, HB.out.trans (HBW.out.mono HB.out.size)⟩
end Go.Proofs.YtbogmmpbmgibnaaDoor.shim
