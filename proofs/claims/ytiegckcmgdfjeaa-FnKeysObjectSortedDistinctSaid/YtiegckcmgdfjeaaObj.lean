/- The object that the statements build from a list of keys, its length; and how many different keys the statement's model counts. -/
import Derived.Test.YtiegckcmgdfjeaaStrs
import Derived.Test.YtiegckcmgdfjeaaDist
import Derived.Test.YtiegckcmgdfjeaaKeys
namespace Go.Proofs.Ytiegckcmgdfjeaa.obj
open Go.ChangeShapes Go.WideShapes Go.ChangeAt Go.RowKit Go.Maps Go.WideMaps
open types fill strs dist

/-- an element of a map of whatever values, held as it is -/
def anyElem (v : Value) : Option (DataW Value × List MemPlace) := some (.held v, [])
theorem law : Keyed Try.prog 9 := string_keyed Try.underlying9

/-- block B is a map with just the keys ks, each with nil -/
def IsObj (w : World) (B : Nat) (ks : List ByteArray) : Prop := w.ownsMap Try.prog 9 anyElem B ks.length (setOf (.held .nilIface) (klits ks))

def Made (ks : List ByteArray) (w : World) (e : Ending) (w' : World) : Prop := ∃ B, e = .returned (.map (some B)) ∧ IsObj w' B ks ∧ Below w.heap.size w w' ∧ w.heap.size ≤ B

theorem make_some (n : Nat) (w : World) : (Instr.makeMap 63 (some (.int .i64 n))).run Try.prog w = .ok (.map (some w.heap.size)) (w.alloc (.map #[] 0)) := by kernel_rfl

theorem make_zero (w : World) : (Instr.makeMap 63 (some (.int .i64 0))).run Try.prog w = .ok (.map (some w.heap.size)) (w.alloc (.map #[] 0)) := by kernel_rfl

theorem lits_take (ks : List ByteArray) (k : Nat) (h : k < ks.length) : klits (ks.take (k + 1)) = klits (ks.take k) ++ [.string (ks.getD k ByteArray.empty).data.toList] := by
  unfold klits
  rw [List.take_succ_eq_append_getElem h, List.map_append]
  simp [h]

theorem make_obj (a : Option Addr) (cap : Nat) (ks : List ByteArray) (w : World) (hin : InS w a ks) (hl : ks.length ≤ 4096) (hs : ∀ s ∈ ks, s.size ≤ maxLen) : Calls Try.prog 47 #[.slice a ks.length cap] w (Made ks w) := by
  have hmk := make_some
  rcases hin with ⟨rfl, h0⟩ | ⟨x, rfl, hx, hc⟩
  · obtain rfl : ks = [] := List.length_eq_zero_iff.1 h0
    clear h0
    have hmz := make_zero
    show Calls Try.prog 47 #[.slice none 0 cap] w (Made [] w)
    go_enter Try.func47, Try.ntmps47
    go_wp2_with fail
    have hm0 : IsObj (w.alloc (.map #[] 0)) w.heap.size [] := by
      simpa [IsObj, klits, setOf] using World.ownsMap_made w Try.prog 9 anyElem
    have HM := Lib.hid hm0
    clear hm0
    go_loop [4] (fun i => i = .int .i64 0) (fun _ => 0)
    case atStart => exact rfl
    case round =>
      obtain rfl := hrel
      go_wp2_with fail
      go_ret
      exact ⟨_, rfl, HM.out, (Below.refl _ _).alloc (Nat.le_refl _) _, Nat.le_refl _⟩
  · have HC := Lib.hid hc
    have HS := Lib.hid hs
    clear hc hs
    go_enter Try.func47, Try.ntmps47
    go_wp2_with fail
    have hm0 : (w.alloc (.map #[] 0)).ownsMap Try.prog 9 anyElem w.heap.size 0 (setOf (.held .nilIface) (klits (ks.take 0))) := by
      simpa [klits, setOf] using World.ownsMap_made w Try.prog 9 anyElem
    go_loopw [4] (fun i wr => ∃ k : Nat, k ≤ ks.length ∧ i = .int .i64 k ∧ Hid (wr.ownsMap Try.prog 9 anyElem w.heap.size k (setOf (.held .nilIface) (klits (ks.take k)))) ∧ Hid (Below w.heap.size w wr)) (fun i _ => ks.length - (intOf i).toNat)
    case atStart => exact ⟨0, Nat.zero_le _, rfl, hm0, (Below.refl _ _).alloc (Nat.le_refl _) _⟩
    case round =>
      obtain ⟨k, hk, rfl, HM, HB⟩ := hrel
      clear hm0
      by_cases hlt : k < ks.length
      · have c1 : wr.cell? (x.add k) = some (fS ks k) := later hx HC.out HB.out k hlt
        have hsz : (ks.getD k ByteArray.empty).size ≤ maxLen := by
          have : ks.getD k ByteArray.empty = ks[k] := by simp [hlt]
          rw [this]; exact HS.out _ (List.getElem_mem hlt)
        have hown := HM.out
        have HL := Lib.hid (lits_take ks k hlt)
        unfold fS at c1
        generalize ks.getD k ByteArray.empty = s at *
        have hkey := Lib.hid (keyOf_string_mk (P := Try.prog) (k := 9) Try.underlying9 hsz)
        go_wp2_with (at_mapUpdate; refine wpList_mapUpdate_own _ rfl _ _ _ 63 rfl 9 20 law Try.underlying63 anyElem w.heap.size k _ rfl hown (by unfold maxLen; omega) _ _ _ rfl rfl hkey.out _ [] rfl ?_; intro w1 hown1 hgrow1)
        have HM1 : Hid (w1.ownsMap Try.prog 9 anyElem w.heap.size (k + 1) (setOf (.held .nilIface) (klits (ks.take (k + 1))))) := by
          unfold Hid; rw [HL.out, setOf_snoc]; exact hown1
        have HB1 : Hid (Below w.heap.size w w1) := HB.out.grown hgrow1 HB.out.size (fun j hj => by cases hj; exact Nat.le_refl _)
        clear hown hown1 hgrow1
        go_wp2_with fail
        go_roundw
        case rel => exact ⟨k + 1, by omega, by go_num, HM1, HB1⟩
        case measure => simp [intOf]; omega
      · have HF : Hid (IsObj wr w.heap.size ks) := by
          have e : k = ks.length := by omega
          have := HM.out
          rw [e, List.take_of_length_le (Nat.le_refl _)] at this
          exact this
        go_wp2_with fail
        go_ret
        exact ⟨_, rfl, HF.out, HB.out, Nat.le_refl _⟩

/-- length at such an object -/
theorem len_map (B : Nat) (ks : List ByteArray) (w : World) (h : IsObj w B ks) : Calls Try.prog 44 #[.iface 63 (.map (some B))] w fun e w' => e = .returned (.iface 3 (.int .i64 (dist ks ks.length))) ∧ w = w' := by
  have t1 := ta_63_3; have t2 := ta_63_39; have t3 := ta_63_66; have t4 := ta_63_76; have t5 := ta_63_9; have t6 := ta_63_61; have t7 := ta_63_63
  have HZ := Lib.hid (size_set (.held Value.nilIface) ks)
  unfold IsObj at h
  have HO := Lib.hid h
  clear h
  go_enter Try.func44, Try.ntmps44
  go_wp2_with (at_len; refine wpList_len_own _ rfl _ 63 rfl 9 20 Try.underlying63 anyElem B ks.length _ rfl HO.out ?_; rw [HZ.out])
  go_ret
  exact ⟨rfl, rfl⟩
theorem zlen_obj (a : Option Addr) (cap : Nat) (ks : List ByteArray) (w : World) (hin : InS w a ks) (hl : ks.length ≤ 4096) (hs : ∀ s ∈ ks, s.size ≤ maxLen) :
    Calls Try.prog 29 #[.slice a ks.length cap] w fun e w' => e = .returned (.tuple #[.int .i64 (dist ks ks.length), .bool true]) ∧ Below w.heap.size w w' := by
  have HM := Lib.hid (make_obj a cap ks w hin hl hs)
  have t1 := ta_3_3
  clear hin hs
  go_enter Try.func29, Try.ntmps29
  go_wp2_with (first | (go_at_call 47; refine HM.out.mono ?_; rintro e w1 ⟨B, rfl, hobj, hb1, _⟩) | (go_at_call 44; refine (len_map _ ks _ hobj).mono ?_; rintro e w2 ⟨rfl, rfl⟩))
  go_ret2
  exact ⟨rfl, hb1⟩
theorem len_arr (n B : Nat) (w : World) : Calls Try.prog 44 #[.iface 61 (.slice (some ⟨B, 0, none⟩) n n)] w fun e w' => e = .returned (.iface 3 (.int .i64 n)) ∧ w = w' := by
  have t1 := ta_61_3; have t2 := ta_61_39; have t3 := ta_61_66; have t4 := ta_61_76; have t5 := ta_61_9; have t6 := ta_61_61
  go_enter Try.func44, Try.ntmps44
  go_wp2_with fail
  go_ret
  exact ⟨rfl, rfl⟩
theorem zlen_arr (n : Nat) (w : World) (hn : n ≤ 65536) : Calls Try.prog 31 #[.int .i64 n] w fun e w' => e = .returned (.tuple #[.int .i64 n, .bool true]) ∧ Below w.heap.size w w' := by
  obtain ⟨i0, hi, hz0, hz1, hz2⟩ := info_parts keysarr.info20
  have t1 := ta_3_3
  go_enter Try.func31, Try.ntmps31
  go_wp2_with (first | (at_make; refine wpList_make_full _ rfl _ _ 61 rfl w.heap.size 20 i0 .nilIface 1 Try.underlying61 hi hz0 hz1 .i64 .i64 _ _ n rfl rfl rfl rfl (by rw [hz2]; omega) (by unfold maxLen; omega) (Nat.le_refl _) ?_; intro w0 hown0 hgrow0) | (go_at_call 44; refine (len_arr _ _ _).mono ?_; rintro e w1 ⟨rfl, rfl⟩))
  go_ret2
  exact ⟨rfl, (Below.refl _ _).grown hgrow0 (Nat.le_refl _) (fun k hk => by cases hk)⟩
end Go.Proofs.Ytiegckcmgdfjeaa.obj
