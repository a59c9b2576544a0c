/- The great switch of the law FnForkScriptMatchesModel: each of its eight cases, from the frame ahead of it to the frame behind it. Printed by gen_cases.py. -/
import Derived.Test.YtemifkcgmfincaaSnapC
import Derived.Deep.RegionLaw
import Derived.Deep.DeepCutAuto
import Derived.Deep.CutBlock
set_option linter.unusedVariables false
namespace Go.Proofs.Ytemifkcgmfincaa.cases
open Go.ChangeShapes Go.WideShapes Go.ChangeAt Go.RowKit
open upd env plain ops forks popf fill init steps snap wide snapm snapc
theorem info40 : (Try.prog.info? 40).map (fun i => (i.zero, i.size, i.bytes)) = some (some (.agg #[.int .i64 0, .slice none 0 0, .slice none 0 0, .int .i64 0, .int .i64 0, .int .i64 0]), 6, 80) := by kernel_rfl
theorem emp {α : Type} (l : List α) : l = [] ↔ ((l.length : Int) == 0) = true := by
  cases l with
  | nil => simp
  | cons x r => simp; omega
theorem map_snoc {L : List (Fk × Sp)} {r : List Sp} {sp : Sp} (h : L.map (·.2) = r ++ [sp]) : ∃ L' f, L = L' ++ [(f, sp)] ∧ L'.map (·.2) = r := by
  rcases List.eq_nil_or_concat L with rfl | ⟨L', ⟨f, sp'⟩, rfl⟩
  · simp at h
  · rw [List.concat_eq_append, List.map_append] at h
    have := List.append_inj' h rfl
    simp at this
    exact ⟨L', f, by rw [List.concat_eq_append, this.2], this.1⟩
/-- the block of number n -/
def findBlock (n : Nat) : Code → Option Code
  | .block m c => if m = n then some (.block m c) else findBlock n c
  | .loop c => findBlock n c
  | .seq a b => match findBlock n a with
    | some c => some c
    | none => findBlock n b
  | .scope c => findBlock n c
  | .cond _ a b => match findBlock n a with
    | some c => some c
    | none => findBlock n b
  | _ => none
set_option maxRecDepth 1000000 in
/-- what the frame behind the switch is -/
def Post (eb k : Nat) (w2 : World) (vv : Int) (x0 x1 x2 x3 x13 x14 x15 x21 x22 x23 x24 x25 x26 x27 x28 x29 x30 x31 x32 x33 x34 x35 x36 x37 x38 x39 x40 x41 x42 x43 x44 x45 x46 x47 : Value) (J : Act → World → Prop) : Prop := ∀ (a' : Act) (w' : World), (∃ u4 u6 u7 u8 u9 u10 u11 u12 u17 u18 u19 u20 u48 u49 u50 u51 u52 u53 u54 u55 u56 u57 u58 u59 u60 u61 u62 u63 u64 u65 u66 u67 u68 u69 u70 u71 u72 u73 u74 u75 u76 u77 u78 u79 u80 u81 u82 u83 u84 u85 u86 u87 u88 u89 u90 u91 u92 u93 u94 u95 u96 u97 u98 u99 u100 u101 u102 u103 u104 u105 u106 u107 u108 u109 u110 u111 u112 u113 u114 u115 u116 u117 u118 u119 u120 u121 u122 u123 u124 u125 u126 u127 u128 u129 u130 u131 u132 u133 u134 u135 u136 u137 u138 u139 u140 u141 u142 u143 u144 u145 u146 u147 u148 u149 u150 u151 u152 u153 u154 u155 u156 u157 u158 u159 u160 u161 u162 u163 u164 u165 u166 u167 u168 u169 u170 u171 u172 u173 u174 u175 u176 u177 u178 u179 u180 u181 u182 u183 u184 u185 u186 u187 u188 u189 u190 u191 u192 u193 u194 u195 u196 u197 u198 u199 u200 u201 u202 u203 u204 u205 u206 u207 u208 u209 u210 u211 u212 u213 u214 u215 u216 u217 u218 u219 u220 u221 u222 u223 u224 u225 u226 u227 u228 u229 u230 u231 u232 u233 u234 u235 u236 u237 u238 u239 : Value, (∃ (nA nB nF : Nat) (st : List Int) (sc : List Ms) (sps : List Sp) (L : List (Fk × Sp)) (off ex ser nser : Int) (a b f : Option Addr) (ca cb cf : Nat), nA ≤ k + 1 ∧ nB ≤ k + 1 ∧ nF ≤ k + 1 ∧ 0 ≤ nser ∧ nser ≤ (k : Int) + 1 ∧ u6 = .slice a nA ca ∧ u7 = .slice b nB cb ∧ u8 = .slice f nF cf ∧ u9 = .int .i64 off ∧ u10 = .int .i64 ex ∧ u11 = .int .i64 ser ∧ u12 = .int .i64 nser ∧ Hid (nA = st.length ∧ nB = sc.length ∧ nF = sps.length) ∧ Hid (sps = L.map (·.2)) ∧ Hid (MT w2.heap.size eb w2 w' (.slice a nA ca) (.slice b nB cb) (.slice f nF cf) st sc sps st sc off ex ser nser L (k + 1))) ∧ a' = ⟨#[x0, x1, x2, x3, u4, .pointer (some ⟨eb, 0, none⟩), u6, u7, u8, u9, u10, u11, u12, x13, x14, x15, .int .i64 vv, u17, u18, u19, u20, x21, x22, x23, x24, x25, x26, x27, x28, x29, x30, x31, x32, x33, x34, x35, x36, x37, x38, x39, x40, x41, x42, x43, x44, x45, x46, x47, u48, u49, u50, u51, u52, u53, u54, u55, u56, u57, u58, u59, u60, u61, u62, u63, u64, u65, u66, u67, u68, u69, u70, u71, u72, u73, u74, u75, u76, u77, u78, u79, u80, u81, u82, u83, u84, u85, u86, u87, u88, u89, u90, u91, u92, u93, u94, u95, u96, u97, u98, u99, u100, u101, u102, u103, u104, u105, u106, u107, u108, u109, u110, u111, u112, u113, u114, u115, u116, u117, u118, u119, u120, u121, u122, u123, u124, u125, u126, u127, u128, u129, u130, u131, u132, u133, u134, u135, u136, u137, u138, u139, u140, u141, u142, u143, u144, u145, u146, u147, u148, u149, u150, u151, u152, u153, u154, u155, u156, u157, u158, u159, u160, u161, u162, u163, u164, u165, u166, u167, u168, u169, u170, u171, u172, u173, u174, u175, u176, u177, u178, u179, u180, u181, u182, u183, u184, u185, u186, u187, u188, u189, u190, u191, u192, u193, u194, u195, u196, u197, u198, u199, u200, u201, u202, u203, u204, u205, u206, u207, u208, u209, u210, u211, u212, u213, u214, u215, u216, u217, u218, u219, u220, u221, u222, u223, u224, u225, u226, u227, u228, u229, u230, u231, u232, u233, u234, u235, u236, u237, u238, u239], []⟩) → J a' w'
set_option maxRecDepth 1000000 in
set_option maxHeartbeats 20000000 in
theorem case0 {eb k : Nat} {w2 wr : World} {vv : Int} {x0 x1 x2 x3 x13 x14 x15 x21 x22 x23 x24 x25 x26 x27 x28 x29 x30 x31 x32 x33 x34 x35 x36 x37 x38 x39 x40 x41 x42 x43 x44 x45 x46 x47 : Value} {y4 y17 y18 y19 y20 y48 y49 y50 y51 y52 y53 y54 y55 y56 y57 y58 y59 y60 y61 y62 y63 y64 y65 y67 y68 y69 y70 y71 y72 y73 y74 y75 y76 y77 y78 y79 y80 y81 y82 y83 y84 y85 y86 y87 y88 y89 y90 y91 y92 y93 y94 y95 y96 y97 y98 y99 y100 y101 y102 y103 y104 y105 y106 y107 y108 y109 y110 y111 y112 y113 y114 y115 y116 y117 y118 y119 y120 y121 y122 y123 y124 y125 y126 y127 y128 y129 y130 y131 y132 y133 y134 y135 y136 y137 y138 y139 y140 y141 y142 y143 y144 y145 y146 y147 y148 y149 y150 y151 y152 y153 y154 y155 y156 y157 y158 y159 y160 y161 y162 y163 y164 y165 y166 y167 y168 y169 y170 y171 y172 y173 y174 y175 y176 y177 y178 y179 y180 y181 y182 y183 y184 y185 y186 y187 y188 y189 y190 y191 y192 y193 y194 y195 y196 y197 y198 y199 y200 y201 y202 y203 y204 y205 y206 y207 y208 y209 y210 y211 y212 y213 y214 y215 y216 y217 y218 y219 y220 y221 y222 y223 y224 y225 y226 y227 y228 y229 y230 y231 y232 y233 y234 y235 y236 y237 y238 y239 : Value}
    {st : List Int} {sc : List Ms} {sps : List Sp} {L : List (Fk × Sp)} {off ex ser nser : Int} {a b3 f : Option Addr} {ca cb cf : Nat} (hk1 : k < 1024) (hns0 : 0 ≤ nser) (hns1 : nser ≤ (k : Int)) (HSP : Hid (sps = L.map (·.2))) (hnA : st.length ≤ k) (hnB : sc.length ≤ k) (hnF : sps.length ≤ k)
    (HM : Hid (MT w2.heap.size eb w2 wr (.slice a st.length ca) (.slice b3 sc.length cb) (.slice f sps.length cf) st sc sps st sc off ex ser nser L k)) {J K' K1 R1 K2 : Act → World → Prop} {w : World}
    (HJ : Post eb k w2 vv x0 x1 x2 x3 x13 x14 x15 x21 x22 x23 x24 x25 x26 x27 x28 x29 x30 x31 x32 x33 x34 x35 x36 x37 x38 x39 x40 x41 x42 x43 x44 x45 x46 x47 J) (hK : ∀ (a' : Act) (w' : World), Met J a' w' → K' a' w') :
    Code.wp Try.prog ((Try.f4.body.bind (findBlock 2)).getD .skip) (Exit.then K' (Exit.inBlock 1 (Exit.then K1 (Exit.then R1 (Exit.inBlock 0 (Exit.then K2 (bodyPost Try.prog Try.f4 fun e w' => e = .returned (.bool true) ∧ Below w.heap.size w w'))))))) ⟨#[x0, x1, x2, x3, y4, .pointer (some ⟨eb, 0, none⟩), .slice a st.length ca, .slice b3 sc.length cb, .slice f sps.length cf, .int .i64 off, .int .i64 ex, .int .i64 ser, .int .i64 nser, x13, x14, x15, .int .i64 vv, y17, y18, y19, y20, x21, x22, x23, x24, x25, x26, x27, x28, x29, x30, x31, x32, x33, x34, x35, x36, x37, x38, x39, x40, x41, x42, x43, x44, x45, x46, x47, y48, y49, y50, y51, y52, y53, y54, y55, y56, y57, y58, y59, y60, y61, y62, y63, y64, y65, .int .u8 0, y67, y68, y69, y70, y71, y72, y73, y74, y75, y76, y77, y78, y79, y80, y81, y82, y83, y84, y85, y86, y87, y88, y89, y90, y91, y92, y93, y94, y95, y96, y97, y98, y99, y100, y101, y102, y103, y104, y105, y106, y107, y108, y109, y110, y111, y112, y113, y114, y115, y116, y117, y118, y119, y120, y121, y122, y123, y124, y125, y126, y127, y128, y129, y130, y131, y132, y133, y134, y135, y136, y137, y138, y139, y140, y141, y142, y143, y144, y145, y146, y147, y148, y149, y150, y151, y152, y153, y154, y155, y156, y157, y158, y159, y160, y161, y162, y163, y164, y165, y166, y167, y168, y169, y170, y171, y172, y173, y174, y175, y176, y177, y178, y179, y180, y181, y182, y183, y184, y185, y186, y187, y188, y189, y190, y191, y192, y193, y194, y195, y196, y197, y198, y199, y200, y201, y202, y203, y204, y205, y206, y207, y208, y209, y210, y211, y212, y213, y214, y215, y216, y217, y218, y219, y220, y221, y222, y223, y224, y225, y226, y227, y228, y229, y230, y231, y232, y233, y234, y235, y236, y237, y238, y239], []⟩ wr := by
  conv => arg 2; whnf
  obtain ⟨i0, hi, hz0, hz1, hz2⟩ := info_parts info3
  obtain ⟨j0, ji, jz0, jz1, jz2⟩ := info_parts info40
  obtain ⟨k0, ki, kz0, kz1, kz2⟩ := info_parts info42
  have hA1 : ((st.length : Int) + 1 == 0) = false := beq_eq_false_iff_ne.mpr (by omega)
  go_wp2_with (first | (go_at_call 12; refine (HM.out.push _ (by omega)).mono ?_; rintro e w4 ⟨rfl, h4⟩; have H4 := Lib.hid h4; have z4 := h4.below.2; clear h4) | (at_builtin; refine wpList_append_lies _ rfl (.tmp 107) (.tmp 109) 22 rfl w2.heap.size 3 i0 (.int .i64 0) 1 8 Try.underlying22 hi hz0 hz1 hz2 rfl (by decide) _ st.length (ic st) rfl (by obtain ⟨s, hs⟩ := H4.out.ft; exact World.ownsRow.alloc hs.ownA _) ⟨w4.heap.size, 0, none⟩ 1 1 [.int .i64 vv] rfl rfl (cell_one_new _ _ _) (by intro u hu; simp at hu; subst hu; rfl) (by decide) (by unfold maxLen; omega) (by omega) (by simp; omega) _ rfl ?_; intro g5 cp5 w5 hown hgrow hat hlt5; have HZ := Lib.hid (H4.out.appA hown hgrow hat (by simp)); clear hown hgrow hat hlt5 H4))
  have hJ := HJ; unfold Post at hJ
  go_meet
  exact ⟨st.length + 1, sc.length, sps.length, st ++ [vv], sc, sps, L, off, ex, ser, nser, some ⟨g5, 0, none⟩, b3, f, cp5, cb, cf, by omega, by omega, by omega, by omega, by omega, rfl, rfl, rfl, rfl, rfl, rfl, by first | rfl | go_num, ⟨by first | rfl | simp, by first | rfl | simp, by first | rfl | simp⟩, HSP, HZ.out.up (by omega)⟩
set_option maxRecDepth 1000000 in
set_option maxHeartbeats 20000000 in
theorem case1 {eb k : Nat} {w2 wr : World} {vv : Int} {x0 x1 x2 x3 x13 x14 x15 x21 x22 x23 x24 x25 x26 x27 x28 x29 x30 x31 x32 x33 x34 x35 x36 x37 x38 x39 x40 x41 x42 x43 x44 x45 x46 x47 : Value} {y4 y17 y18 y19 y20 y48 y49 y50 y51 y52 y53 y54 y55 y56 y57 y58 y59 y60 y61 y62 y63 y64 y65 y67 y68 y69 y70 y71 y72 y73 y74 y75 y76 y77 y78 y79 y80 y81 y82 y83 y84 y85 y86 y87 y88 y89 y90 y91 y92 y93 y94 y95 y96 y97 y98 y99 y100 y101 y102 y103 y104 y105 y106 y107 y108 y109 y110 y111 y112 y113 y114 y115 y116 y117 y118 y119 y120 y121 y122 y123 y124 y125 y126 y127 y128 y129 y130 y131 y132 y133 y134 y135 y136 y137 y138 y139 y140 y141 y142 y143 y144 y145 y146 y147 y148 y149 y150 y151 y152 y153 y154 y155 y156 y157 y158 y159 y160 y161 y162 y163 y164 y165 y166 y167 y168 y169 y170 y171 y172 y173 y174 y175 y176 y177 y178 y179 y180 y181 y182 y183 y184 y185 y186 y187 y188 y189 y190 y191 y192 y193 y194 y195 y196 y197 y198 y199 y200 y201 y202 y203 y204 y205 y206 y207 y208 y209 y210 y211 y212 y213 y214 y215 y216 y217 y218 y219 y220 y221 y222 y223 y224 y225 y226 y227 y228 y229 y230 y231 y232 y233 y234 y235 y236 y237 y238 y239 : Value}
    {st : List Int} {sc : List Ms} {sps : List Sp} {L : List (Fk × Sp)} {off ex ser nser : Int} {a b3 f : Option Addr} {ca cb cf : Nat} (hk1 : k < 1024) (hns0 : 0 ≤ nser) (hns1 : nser ≤ (k : Int)) (HSP : Hid (sps = L.map (·.2))) (hnA : st.length ≤ k) (hnB : sc.length ≤ k) (hnF : sps.length ≤ k)
    (HM : Hid (MT w2.heap.size eb w2 wr (.slice a st.length ca) (.slice b3 sc.length cb) (.slice f sps.length cf) st sc sps st sc off ex ser nser L k)) {J K' K1 R1 K2 : Act → World → Prop} {w : World}
    (HJ : Post eb k w2 vv x0 x1 x2 x3 x13 x14 x15 x21 x22 x23 x24 x25 x26 x27 x28 x29 x30 x31 x32 x33 x34 x35 x36 x37 x38 x39 x40 x41 x42 x43 x44 x45 x46 x47 J) (hK : ∀ (a' : Act) (w' : World), Met J a' w' → K' a' w') :
    Code.wp Try.prog ((Try.f4.body.bind (findBlock 2)).getD .skip) (Exit.then K' (Exit.inBlock 1 (Exit.then K1 (Exit.then R1 (Exit.inBlock 0 (Exit.then K2 (bodyPost Try.prog Try.f4 fun e w' => e = .returned (.bool true) ∧ Below w.heap.size w w'))))))) ⟨#[x0, x1, x2, x3, y4, .pointer (some ⟨eb, 0, none⟩), .slice a st.length ca, .slice b3 sc.length cb, .slice f sps.length cf, .int .i64 off, .int .i64 ex, .int .i64 ser, .int .i64 nser, x13, x14, x15, .int .i64 vv, y17, y18, y19, y20, x21, x22, x23, x24, x25, x26, x27, x28, x29, x30, x31, x32, x33, x34, x35, x36, x37, x38, x39, x40, x41, x42, x43, x44, x45, x46, x47, y48, y49, y50, y51, y52, y53, y54, y55, y56, y57, y58, y59, y60, y61, y62, y63, y64, y65, .int .u8 1, y67, y68, y69, y70, y71, y72, y73, y74, y75, y76, y77, y78, y79, y80, y81, y82, y83, y84, y85, y86, y87, y88, y89, y90, y91, y92, y93, y94, y95, y96, y97, y98, y99, y100, y101, y102, y103, y104, y105, y106, y107, y108, y109, y110, y111, y112, y113, y114, y115, y116, y117, y118, y119, y120, y121, y122, y123, y124, y125, y126, y127, y128, y129, y130, y131, y132, y133, y134, y135, y136, y137, y138, y139, y140, y141, y142, y143, y144, y145, y146, y147, y148, y149, y150, y151, y152, y153, y154, y155, y156, y157, y158, y159, y160, y161, y162, y163, y164, y165, y166, y167, y168, y169, y170, y171, y172, y173, y174, y175, y176, y177, y178, y179, y180, y181, y182, y183, y184, y185, y186, y187, y188, y189, y190, y191, y192, y193, y194, y195, y196, y197, y198, y199, y200, y201, y202, y203, y204, y205, y206, y207, y208, y209, y210, y211, y212, y213, y214, y215, y216, y217, y218, y219, y220, y221, y222, y223, y224, y225, y226, y227, y228, y229, y230, y231, y232, y233, y234, y235, y236, y237, y238, y239], []⟩ wr := by
  conv => arg 2; whnf
  obtain ⟨i0, hi, hz0, hz1, hz2⟩ := info_parts info3
  obtain ⟨j0, ji, jz0, jz1, jz2⟩ := info_parts info40
  obtain ⟨k0, ki, kz0, kz1, kz2⟩ := info_parts info42
  rcases List.eq_nil_or_concat st with rfl | ⟨r, v, rfl⟩
  · have HZ := HM
    clear HM
    go_wp2_with fail
    have hJ := HJ; unfold Post at hJ
    go_meet
    exact ⟨0, sc.length, sps.length, [], sc, sps, L, off, ex, ser, nser, a, b3, f, ca, cb, cf, by omega, by omega, by omega, by omega, by omega, rfl, rfl, rfl, rfl, rfl, rfl, by first | rfl | go_num, ⟨by first | rfl | simp, by first | rfl | simp, by first | rfl | simp⟩, HSP, HZ.out.up (by omega)⟩
  · rw [List.concat_eq_append] at HM hnA ⊢
    have eA : (r ++ [v]).length = r.length + 1 := by simp
    rw [eA] at HM hnA ⊢
    obtain ⟨ga, cax, ea, hca⟩ := HM.out.lastA
    simp only [Value.slice.injEq, true_and] at ea
    obtain ⟨rfl, rfl⟩ := ea
    have e1 := HM.out.cellA
    have y0 : (0 : Int) ≤ r.length := by omega
    have y1 : (r.length : Int) < (r.length : Int) + 1 := by omega
    have y2 : r.length < r.length + 1 := by omega
    have y3 : (r.length : Int) ≤ ca := by omega
    have y4 : r.length ≤ ca := by omega
    have y5 : IntKind.i64.wrap ((r.length : Int) + 1 - 1) = r.length := (IntWalk.i64_in _ (by omega)).trans (by omega)
    have y6 : IntKind.i64.wrap (r.length : Int) = r.length := IntWalk.i64_in _ (by omega)
    have y7 : (0 : Int) < (r.length : Int) + 1 := by omega
    clear eA
    go_wp2_with fail
    go_region_law (first | (go_simp; go_at_call 17; refine (MT.pop (HM.out.still (by repeat (first | exact Upd.refl _ _ | apply Upd.drew | apply Upd.drewN | apply Upd.alloc)))).mono ?_; rintro e w4 ⟨rfl, h4⟩; have e2 := h4.cellA; have HZ := Lib.hid h4.cutA; clear h4))
    all_goals go_wp2_with fail
    all_goals
      have hJ := HJ; unfold Post at hJ
      go_meet
      exact ⟨r.length, sc.length, sps.length, r, sc, sps, L, off, ex, ser, nser, some ⟨ga, 0, none⟩, b3, f, ca, cb, cf, by omega, by omega, by omega, by omega, by omega, rfl, rfl, rfl, rfl, rfl, rfl, by first | rfl | go_num, ⟨by first | rfl | simp, by first | rfl | simp, by first | rfl | simp⟩, HSP, (HZ.out.still (by repeat (first | exact Upd.refl _ _ | apply Upd.drew | apply Upd.drewN | apply Upd.alloc))).up (by omega)⟩
set_option maxRecDepth 1000000 in
set_option maxHeartbeats 20000000 in
theorem case2 {eb k : Nat} {w2 wr : World} {vv : Int} {x0 x1 x2 x3 x13 x14 x15 x21 x22 x23 x24 x25 x26 x27 x28 x29 x30 x31 x32 x33 x34 x35 x36 x37 x38 x39 x40 x41 x42 x43 x44 x45 x46 x47 : Value} {y4 y17 y18 y19 y20 y48 y49 y50 y51 y52 y53 y54 y55 y56 y57 y58 y59 y60 y61 y62 y63 y64 y65 y67 y68 y69 y70 y71 y72 y73 y74 y75 y76 y77 y78 y79 y80 y81 y82 y83 y84 y85 y86 y87 y88 y89 y90 y91 y92 y93 y94 y95 y96 y97 y98 y99 y100 y101 y102 y103 y104 y105 y106 y107 y108 y109 y110 y111 y112 y113 y114 y115 y116 y117 y118 y119 y120 y121 y122 y123 y124 y125 y126 y127 y128 y129 y130 y131 y132 y133 y134 y135 y136 y137 y138 y139 y140 y141 y142 y143 y144 y145 y146 y147 y148 y149 y150 y151 y152 y153 y154 y155 y156 y157 y158 y159 y160 y161 y162 y163 y164 y165 y166 y167 y168 y169 y170 y171 y172 y173 y174 y175 y176 y177 y178 y179 y180 y181 y182 y183 y184 y185 y186 y187 y188 y189 y190 y191 y192 y193 y194 y195 y196 y197 y198 y199 y200 y201 y202 y203 y204 y205 y206 y207 y208 y209 y210 y211 y212 y213 y214 y215 y216 y217 y218 y219 y220 y221 y222 y223 y224 y225 y226 y227 y228 y229 y230 y231 y232 y233 y234 y235 y236 y237 y238 y239 : Value}
    {st : List Int} {sc : List Ms} {sps : List Sp} {L : List (Fk × Sp)} {off ex ser nser : Int} {a b3 f : Option Addr} {ca cb cf : Nat} (hk1 : k < 1024) (hns0 : 0 ≤ nser) (hns1 : nser ≤ (k : Int)) (HSP : Hid (sps = L.map (·.2))) (hnA : st.length ≤ k) (hnB : sc.length ≤ k) (hnF : sps.length ≤ k)
    (HM : Hid (MT w2.heap.size eb w2 wr (.slice a st.length ca) (.slice b3 sc.length cb) (.slice f sps.length cf) st sc sps st sc off ex ser nser L k)) {J K' K1 R1 K2 : Act → World → Prop} {w : World}
    (HJ : Post eb k w2 vv x0 x1 x2 x3 x13 x14 x15 x21 x22 x23 x24 x25 x26 x27 x28 x29 x30 x31 x32 x33 x34 x35 x36 x37 x38 x39 x40 x41 x42 x43 x44 x45 x46 x47 J) (hK : ∀ (a' : Act) (w' : World), Met J a' w' → K' a' w') :
    Code.wp Try.prog ((Try.f4.body.bind (findBlock 2)).getD .skip) (Exit.then K' (Exit.inBlock 1 (Exit.then K1 (Exit.then R1 (Exit.inBlock 0 (Exit.then K2 (bodyPost Try.prog Try.f4 fun e w' => e = .returned (.bool true) ∧ Below w.heap.size w w'))))))) ⟨#[x0, x1, x2, x3, y4, .pointer (some ⟨eb, 0, none⟩), .slice a st.length ca, .slice b3 sc.length cb, .slice f sps.length cf, .int .i64 off, .int .i64 ex, .int .i64 ser, .int .i64 nser, x13, x14, x15, .int .i64 vv, y17, y18, y19, y20, x21, x22, x23, x24, x25, x26, x27, x28, x29, x30, x31, x32, x33, x34, x35, x36, x37, x38, x39, x40, x41, x42, x43, x44, x45, x46, x47, y48, y49, y50, y51, y52, y53, y54, y55, y56, y57, y58, y59, y60, y61, y62, y63, y64, y65, .int .u8 2, y67, y68, y69, y70, y71, y72, y73, y74, y75, y76, y77, y78, y79, y80, y81, y82, y83, y84, y85, y86, y87, y88, y89, y90, y91, y92, y93, y94, y95, y96, y97, y98, y99, y100, y101, y102, y103, y104, y105, y106, y107, y108, y109, y110, y111, y112, y113, y114, y115, y116, y117, y118, y119, y120, y121, y122, y123, y124, y125, y126, y127, y128, y129, y130, y131, y132, y133, y134, y135, y136, y137, y138, y139, y140, y141, y142, y143, y144, y145, y146, y147, y148, y149, y150, y151, y152, y153, y154, y155, y156, y157, y158, y159, y160, y161, y162, y163, y164, y165, y166, y167, y168, y169, y170, y171, y172, y173, y174, y175, y176, y177, y178, y179, y180, y181, y182, y183, y184, y185, y186, y187, y188, y189, y190, y191, y192, y193, y194, y195, y196, y197, y198, y199, y200, y201, y202, y203, y204, y205, y206, y207, y208, y209, y210, y211, y212, y213, y214, y215, y216, y217, y218, y219, y220, y221, y222, y223, y224, y225, y226, y227, y228, y229, y230, y231, y232, y233, y234, y235, y236, y237, y238, y239], []⟩ wr := by
  conv => arg 2; whnf
  obtain ⟨i0, hi, hz0, hz1, hz2⟩ := info_parts info3
  obtain ⟨j0, ji, jz0, jz1, jz2⟩ := info_parts info40
  obtain ⟨k0, ki, kz0, kz1, kz2⟩ := info_parts info42
  go_wp2_with (first | (go_at_call 10; refine (clone10_own _ w2.heap.size _ _ _ (by obtain ⟨s, hs⟩ := HM.out.ft; exact hs.ownA) (ic_one st) (by omega)).mono ?_; rintro e w4 ⟨v1, rfl, ho1, hb4⟩; obtain ⟨x1, y1, rfl⟩ := own_slice ho1; have HO1 := Lib.hid ho1; have HB4 := Lib.hid hb4; clear ho1 hb4) | (go_at_call 27; refine (clone27_own _ w2.heap.size _ _ _ (by obtain ⟨s, hs⟩ := (HM.out.still (Upd.of_below HB4.out)).ft; exact hs.ownB) (mcs_one sc) (by omega)).mono ?_; rintro e w5 ⟨v2, rfl, ho2, hb5⟩; obtain ⟨x2, y2, rfl⟩ := own_slice ho2; have HO2 := Lib.hid ho2; have HB5 := Lib.hid hb5; have z5 : w2.heap.size ≤ w5.heap.size := Nat.le_trans HM.out.below.2 (Nat.le_trans HB4.out.size hb5.size); clear ho2 hb5) | (at_builtin; refine wpList_append_lies _ rfl (.tmp 132) (.tmp 142) 37 rfl w2.heap.size 40 j0 (.agg #[.int .i64 0, .slice none 0 0, .slice none 0 0, .int .i64 0, .int .i64 0, .int .i64 0]) 6 80 Try.underlying37 ji jz0 jz1 jz2 rfl (by decide) _ sps.length (pcss sps) rfl (by obtain ⟨s, hs⟩ := ((HM.out.still (Upd.of_below HB4.out)).still (Upd.of_below HB5.out)).ft; exact World.ownsRow.alloc hs.ownF _) ⟨w5.heap.size, 0, none⟩ 1 1 [.int .i64 vv, .slice x1 st.length y1, .slice x2 sc.length y2, .int .i64 off, .int .i64 ex, .int .i64 ser] rfl rfl (World.news_of_block (heap_alloc_last _ _)) (by intro u hu; simp at hu; rcases hu with rfl | rfl | rfl | rfl | rfl | rfl <;> rfl) (by decide) (by unfold maxLen; omega) (by omega) (by simp; omega) _ rfl ?_; intro g6 cp6 w6 hown hgrow hat hlt6; have HF6 := Lib.hid (HM.out.appF (sp := (⟨vv, .slice x1 st.length y1, st, .slice x2 sc.length y2, sc, off, ex, ser⟩ : Sp)) (HB4.out.trans (HB5.out.mono HB4.out.size)) (own_kept HO1.out (Upd.of_below (S := fun _ => False) HB5.out) (fun _ _ h => h)) (Nat.le_refl _) HO2.out (fun k hk => (HO1.out.lt k hk).2) HB4.out.size hown hgrow hat (by simp)); clear hown hgrow hat hlt6) | (go_at_call 16; refine (HF6.out.fork vv (.slice x1 st.length y1) (.slice x2 sc.length y2) (by have := congrArg List.length HSP.out; simp at this; omega)).mono ?_; rintro e w7 ⟨rfl, f7, h7⟩; have HZ := Lib.hid h7; clear h7))
  have hJ := HJ; unfold Post at hJ
  go_meet
  exact ⟨st.length, sc.length, sps.length + 1, st, sc, sps ++ [(⟨vv, .slice x1 st.length y1, st, .slice x2 sc.length y2, sc, off, ex, ser⟩ : Sp)], L ++ [(f7, (⟨vv, .slice x1 st.length y1, st, .slice x2 sc.length y2, sc, off, ex, ser⟩ : Sp))], off, ex, nser + 1, nser + 1, a, b3, some ⟨g6, 0, none⟩, ca, cb, cp6, by omega, by omega, by omega, by omega, by omega, rfl, rfl, rfl, rfl, rfl, rfl, by first | rfl | go_num, ⟨by first | rfl | simp, by first | rfl | simp, by first | rfl | simp⟩, (by unfold Hid; rw [HSP.out]; simp), HZ.out.up (by omega)⟩
set_option maxRecDepth 1000000 in
set_option maxHeartbeats 20000000 in
theorem case3 {eb k : Nat} {w2 wr : World} {vv : Int} {x0 x1 x2 x3 x13 x14 x15 x21 x22 x23 x24 x25 x26 x27 x28 x29 x30 x31 x32 x33 x34 x35 x36 x37 x38 x39 x40 x41 x42 x43 x44 x45 x46 x47 : Value} {y4 y17 y18 y19 y20 y48 y49 y50 y51 y52 y53 y54 y55 y56 y57 y58 y59 y60 y61 y62 y63 y64 y65 y67 y68 y69 y70 y71 y72 y73 y74 y75 y76 y77 y78 y79 y80 y81 y82 y83 y84 y85 y86 y87 y88 y89 y90 y91 y92 y93 y94 y95 y96 y97 y98 y99 y100 y101 y102 y103 y104 y105 y106 y107 y108 y109 y110 y111 y112 y113 y114 y115 y116 y117 y118 y119 y120 y121 y122 y123 y124 y125 y126 y127 y128 y129 y130 y131 y132 y133 y134 y135 y136 y137 y138 y139 y140 y141 y142 y143 y144 y145 y146 y147 y148 y149 y150 y151 y152 y153 y154 y155 y156 y157 y158 y159 y160 y161 y162 y163 y164 y165 y166 y167 y168 y169 y170 y171 y172 y173 y174 y175 y176 y177 y178 y179 y180 y181 y182 y183 y184 y185 y186 y187 y188 y189 y190 y191 y192 y193 y194 y195 y196 y197 y198 y199 y200 y201 y202 y203 y204 y205 y206 y207 y208 y209 y210 y211 y212 y213 y214 y215 y216 y217 y218 y219 y220 y221 y222 y223 y224 y225 y226 y227 y228 y229 y230 y231 y232 y233 y234 y235 y236 y237 y238 y239 : Value}
    {st : List Int} {sc : List Ms} {sps : List Sp} {L : List (Fk × Sp)} {off ex ser nser : Int} {a b3 f : Option Addr} {ca cb cf : Nat} (hk1 : k < 1024) (hns0 : 0 ≤ nser) (hns1 : nser ≤ (k : Int)) (HSP : Hid (sps = L.map (·.2))) (hnA : st.length ≤ k) (hnB : sc.length ≤ k) (hnF : sps.length ≤ k)
    (HM : Hid (MT w2.heap.size eb w2 wr (.slice a st.length ca) (.slice b3 sc.length cb) (.slice f sps.length cf) st sc sps st sc off ex ser nser L k)) {J K' K1 R1 K2 : Act → World → Prop} {w : World}
    (HJ : Post eb k w2 vv x0 x1 x2 x3 x13 x14 x15 x21 x22 x23 x24 x25 x26 x27 x28 x29 x30 x31 x32 x33 x34 x35 x36 x37 x38 x39 x40 x41 x42 x43 x44 x45 x46 x47 J) (hK : ∀ (a' : Act) (w' : World), Met J a' w' → K' a' w') :
    Code.wp Try.prog ((Try.f4.body.bind (findBlock 2)).getD .skip) (Exit.then K' (Exit.inBlock 1 (Exit.then K1 (Exit.then R1 (Exit.inBlock 0 (Exit.then K2 (bodyPost Try.prog Try.f4 fun e w' => e = .returned (.bool true) ∧ Below w.heap.size w w'))))))) ⟨#[x0, x1, x2, x3, y4, .pointer (some ⟨eb, 0, none⟩), .slice a st.length ca, .slice b3 sc.length cb, .slice f sps.length cf, .int .i64 off, .int .i64 ex, .int .i64 ser, .int .i64 nser, x13, x14, x15, .int .i64 vv, y17, y18, y19, y20, x21, x22, x23, x24, x25, x26, x27, x28, x29, x30, x31, x32, x33, x34, x35, x36, x37, x38, x39, x40, x41, x42, x43, x44, x45, x46, x47, y48, y49, y50, y51, y52, y53, y54, y55, y56, y57, y58, y59, y60, y61, y62, y63, y64, y65, .int .u8 3, y67, y68, y69, y70, y71, y72, y73, y74, y75, y76, y77, y78, y79, y80, y81, y82, y83, y84, y85, y86, y87, y88, y89, y90, y91, y92, y93, y94, y95, y96, y97, y98, y99, y100, y101, y102, y103, y104, y105, y106, y107, y108, y109, y110, y111, y112, y113, y114, y115, y116, y117, y118, y119, y120, y121, y122, y123, y124, y125, y126, y127, y128, y129, y130, y131, y132, y133, y134, y135, y136, y137, y138, y139, y140, y141, y142, y143, y144, y145, y146, y147, y148, y149, y150, y151, y152, y153, y154, y155, y156, y157, y158, y159, y160, y161, y162, y163, y164, y165, y166, y167, y168, y169, y170, y171, y172, y173, y174, y175, y176, y177, y178, y179, y180, y181, y182, y183, y184, y185, y186, y187, y188, y189, y190, y191, y192, y193, y194, y195, y196, y197, y198, y199, y200, y201, y202, y203, y204, y205, y206, y207, y208, y209, y210, y211, y212, y213, y214, y215, y216, y217, y218, y219, y220, y221, y222, y223, y224, y225, y226, y227, y228, y229, y230, y231, y232, y233, y234, y235, y236, y237, y238, y239], []⟩ wr := by
  conv => arg 2; whnf
  obtain ⟨i0, hi, hz0, hz1, hz2⟩ := info_parts info3
  obtain ⟨j0, ji, jz0, jz1, jz2⟩ := info_parts info40
  obtain ⟨k0, ki, kz0, kz1, kz2⟩ := info_parts info42
  rcases List.eq_nil_or_concat sps with rfl | ⟨r, sp, rfl⟩
  · have HZ := HM
    clear HM
    go_wp2_with fail
    have hJ := HJ; unfold Post at hJ
    go_meet
    exact ⟨st.length, sc.length, 0, st, sc, [], L, off, ex, ser, nser, a, b3, f, ca, cb, cf, by omega, by omega, by omega, by omega, by omega, rfl, rfl, rfl, rfl, rfl, rfl, by first | rfl | go_num, ⟨by first | rfl | simp, by first | rfl | simp, by first | rfl | simp⟩, HSP, HZ.out.up (by omega)⟩
  · rw [List.concat_eq_append] at HM hnF HSP ⊢
    have eA : (r ++ [sp]).length = r.length + 1 := by simp
    rw [eA] at HM hnF ⊢
    obtain ⟨gf, cfx, ea, hcf⟩ := HM.out.lastF
    simp only [Value.slice.injEq, true_and] at ea
    obtain ⟨rfl, rfl⟩ := ea
    obtain ⟨L', fk, rfl, hLr⟩ := map_snoc HSP.out.symm
    obtain ⟨⟨x1, y1, hsv⟩, ⟨x2, y2, hcv⟩⟩ := HM.out.formS
    obtain ⟨pc, sv, sst, cv, ssc, soff, sex, sser⟩ := sp
    simp only at hsv hcv
    subst hsv hcv
    obtain ⟨e0, e1, e2, e3, e4, e5, hgl⟩ := HM.out.cellF
    simp only at e0 e1 e2 e3 e4 e5
    have HLR := Lib.hid hLr
    have y0 : (0 : Int) ≤ r.length := by omega
    have y1' : (r.length : Int) < (r.length : Int) + 1 := by omega
    have y2' : r.length < r.length + 1 := by omega
    have y3 : (r.length : Int) ≤ cf := by omega
    have y4 : r.length ≤ cf := by omega
    have y7 : (0 : Int) < (r.length : Int) + 1 := by omega
    have hgn : gf ≠ wr.heap.size := by omega
    clear eA hLr
    go_wp2_with fail
    go_region_law (first | (go_simp; go_at_call 19; refine (MT.popforkK HM.out (by repeat (first | exact Upd.refl _ _ | apply Upd.drew | apply Upd.drewN | apply Upd.alloc)) (Nat.le_refl _) ((Blk.new wr #[.int .i64 pc, .slice x1 sst.length y1, .slice x2 ssc.length y2, .int .i64 soff, .int .i64 sex, .int .i64 sser] 40).kept (S := fun _ => False) (by repeat (first | exact Upd.refl _ _ | apply Upd.drew | apply Upd.drewN)) id) (by have := congrArg List.length HLR.out; simp at this; omega)).mono ?_; rintro e w4 ⟨rfl, h4, hb4⟩; have b0 := hb4.cell 0; have b1 := hb4.cell 1; have b2 := hb4.cell 2; have b3 := hb4.cell 3; have b4 := hb4.cell 4; have b5 := hb4.cell 5; simp at b0 b1 b2 b3 b4 b5; have HZ := Lib.hid h4.popF; clear h4 hb4))
    all_goals go_wp2_with fail
    all_goals have hl4 := HZ.out.lens
    all_goals
      have hJ := HJ; unfold Post at hJ
      go_meet
      exact ⟨sst.length, ssc.length, r.length, sst, ssc, r, L', soff, sex, sser, nser, x1, x2, some ⟨gf, 0, none⟩, y1, y2, cf, by omega, by omega, by omega, by omega, by omega, rfl, rfl, rfl, rfl, rfl, rfl, by first | rfl | go_num, ⟨by first | rfl | simp, by first | rfl | simp, by first | rfl | simp⟩, (by unfold Hid; exact HLR.out.symm), (HZ.out.still (by repeat (first | exact Upd.refl _ _ | apply Upd.drew | apply Upd.drewN | apply Upd.alloc))).up (by omega)⟩
set_option maxRecDepth 1000000 in
set_option maxHeartbeats 20000000 in
theorem case4 {eb k : Nat} {w2 wr : World} {vv : Int} {x0 x1 x2 x3 x13 x14 x15 x21 x22 x23 x24 x25 x26 x27 x28 x29 x30 x31 x32 x33 x34 x35 x36 x37 x38 x39 x40 x41 x42 x43 x44 x45 x46 x47 : Value} {y4 y17 y18 y19 y20 y48 y49 y50 y51 y52 y53 y54 y55 y56 y57 y58 y59 y60 y61 y62 y63 y64 y65 y67 y68 y69 y70 y71 y72 y73 y74 y75 y76 y77 y78 y79 y80 y81 y82 y83 y84 y85 y86 y87 y88 y89 y90 y91 y92 y93 y94 y95 y96 y97 y98 y99 y100 y101 y102 y103 y104 y105 y106 y107 y108 y109 y110 y111 y112 y113 y114 y115 y116 y117 y118 y119 y120 y121 y122 y123 y124 y125 y126 y127 y128 y129 y130 y131 y132 y133 y134 y135 y136 y137 y138 y139 y140 y141 y142 y143 y144 y145 y146 y147 y148 y149 y150 y151 y152 y153 y154 y155 y156 y157 y158 y159 y160 y161 y162 y163 y164 y165 y166 y167 y168 y169 y170 y171 y172 y173 y174 y175 y176 y177 y178 y179 y180 y181 y182 y183 y184 y185 y186 y187 y188 y189 y190 y191 y192 y193 y194 y195 y196 y197 y198 y199 y200 y201 y202 y203 y204 y205 y206 y207 y208 y209 y210 y211 y212 y213 y214 y215 y216 y217 y218 y219 y220 y221 y222 y223 y224 y225 y226 y227 y228 y229 y230 y231 y232 y233 y234 y235 y236 y237 y238 y239 : Value}
    {st : List Int} {sc : List Ms} {sps : List Sp} {L : List (Fk × Sp)} {off ex ser nser : Int} {a b3 f : Option Addr} {ca cb cf : Nat} (hk1 : k < 1024) (hns0 : 0 ≤ nser) (hns1 : nser ≤ (k : Int)) (HSP : Hid (sps = L.map (·.2))) (hnA : st.length ≤ k) (hnB : sc.length ≤ k) (hnF : sps.length ≤ k)
    (HM : Hid (MT w2.heap.size eb w2 wr (.slice a st.length ca) (.slice b3 sc.length cb) (.slice f sps.length cf) st sc sps st sc off ex ser nser L k)) {J K' K1 R1 K2 : Act → World → Prop} {w : World}
    (HJ : Post eb k w2 vv x0 x1 x2 x3 x13 x14 x15 x21 x22 x23 x24 x25 x26 x27 x28 x29 x30 x31 x32 x33 x34 x35 x36 x37 x38 x39 x40 x41 x42 x43 x44 x45 x46 x47 J) (hK : ∀ (a' : Act) (w' : World), Met J a' w' → K' a' w') :
    Code.wp Try.prog ((Try.f4.body.bind (findBlock 2)).getD .skip) (Exit.then K' (Exit.inBlock 1 (Exit.then K1 (Exit.then R1 (Exit.inBlock 0 (Exit.then K2 (bodyPost Try.prog Try.f4 fun e w' => e = .returned (.bool true) ∧ Below w.heap.size w w'))))))) ⟨#[x0, x1, x2, x3, y4, .pointer (some ⟨eb, 0, none⟩), .slice a st.length ca, .slice b3 sc.length cb, .slice f sps.length cf, .int .i64 off, .int .i64 ex, .int .i64 ser, .int .i64 nser, x13, x14, x15, .int .i64 vv, y17, y18, y19, y20, x21, x22, x23, x24, x25, x26, x27, x28, x29, x30, x31, x32, x33, x34, x35, x36, x37, x38, x39, x40, x41, x42, x43, x44, x45, x46, x47, y48, y49, y50, y51, y52, y53, y54, y55, y56, y57, y58, y59, y60, y61, y62, y63, y64, y65, .int .u8 4, y67, y68, y69, y70, y71, y72, y73, y74, y75, y76, y77, y78, y79, y80, y81, y82, y83, y84, y85, y86, y87, y88, y89, y90, y91, y92, y93, y94, y95, y96, y97, y98, y99, y100, y101, y102, y103, y104, y105, y106, y107, y108, y109, y110, y111, y112, y113, y114, y115, y116, y117, y118, y119, y120, y121, y122, y123, y124, y125, y126, y127, y128, y129, y130, y131, y132, y133, y134, y135, y136, y137, y138, y139, y140, y141, y142, y143, y144, y145, y146, y147, y148, y149, y150, y151, y152, y153, y154, y155, y156, y157, y158, y159, y160, y161, y162, y163, y164, y165, y166, y167, y168, y169, y170, y171, y172, y173, y174, y175, y176, y177, y178, y179, y180, y181, y182, y183, y184, y185, y186, y187, y188, y189, y190, y191, y192, y193, y194, y195, y196, y197, y198, y199, y200, y201, y202, y203, y204, y205, y206, y207, y208, y209, y210, y211, y212, y213, y214, y215, y216, y217, y218, y219, y220, y221, y222, y223, y224, y225, y226, y227, y228, y229, y230, y231, y232, y233, y234, y235, y236, y237, y238, y239], []⟩ wr := by
  conv => arg 2; whnf
  obtain ⟨i0, hi, hz0, hz1, hz2⟩ := info_parts info3
  obtain ⟨j0, ji, jz0, jz1, jz2⟩ := info_parts info40
  obtain ⟨k0, ki, kz0, kz1, kz2⟩ := info_parts info42
  go_wp2_with (first | (go_at_call 14; refine (HM.out.setOff _).mono ?_; rintro e w4 ⟨rfl, h4⟩; have HZ := Lib.hid h4; clear h4))
  have hJ := HJ; unfold Post at hJ
  go_meet
  exact ⟨st.length, sc.length, sps.length, st, sc, sps, L, vv, ex, ser, nser, a, b3, f, ca, cb, cf, by omega, by omega, by omega, by omega, by omega, rfl, rfl, rfl, rfl, rfl, rfl, by first | rfl | go_num, ⟨by first | rfl | simp, by first | rfl | simp, by first | rfl | simp⟩, HSP, HZ.out.up (by omega)⟩
set_option maxRecDepth 1000000 in
set_option maxHeartbeats 20000000 in
theorem case5 {eb k : Nat} {w2 wr : World} {vv : Int} {x0 x1 x2 x3 x13 x14 x15 x21 x22 x23 x24 x25 x26 x27 x28 x29 x30 x31 x32 x33 x34 x35 x36 x37 x38 x39 x40 x41 x42 x43 x44 x45 x46 x47 : Value} {y4 y17 y18 y19 y20 y48 y49 y50 y51 y52 y53 y54 y55 y56 y57 y58 y59 y60 y61 y62 y63 y64 y65 y67 y68 y69 y70 y71 y72 y73 y74 y75 y76 y77 y78 y79 y80 y81 y82 y83 y84 y85 y86 y87 y88 y89 y90 y91 y92 y93 y94 y95 y96 y97 y98 y99 y100 y101 y102 y103 y104 y105 y106 y107 y108 y109 y110 y111 y112 y113 y114 y115 y116 y117 y118 y119 y120 y121 y122 y123 y124 y125 y126 y127 y128 y129 y130 y131 y132 y133 y134 y135 y136 y137 y138 y139 y140 y141 y142 y143 y144 y145 y146 y147 y148 y149 y150 y151 y152 y153 y154 y155 y156 y157 y158 y159 y160 y161 y162 y163 y164 y165 y166 y167 y168 y169 y170 y171 y172 y173 y174 y175 y176 y177 y178 y179 y180 y181 y182 y183 y184 y185 y186 y187 y188 y189 y190 y191 y192 y193 y194 y195 y196 y197 y198 y199 y200 y201 y202 y203 y204 y205 y206 y207 y208 y209 y210 y211 y212 y213 y214 y215 y216 y217 y218 y219 y220 y221 y222 y223 y224 y225 y226 y227 y228 y229 y230 y231 y232 y233 y234 y235 y236 y237 y238 y239 : Value}
    {st : List Int} {sc : List Ms} {sps : List Sp} {L : List (Fk × Sp)} {off ex ser nser : Int} {a b3 f : Option Addr} {ca cb cf : Nat} (hk1 : k < 1024) (hns0 : 0 ≤ nser) (hns1 : nser ≤ (k : Int)) (HSP : Hid (sps = L.map (·.2))) (hnA : st.length ≤ k) (hnB : sc.length ≤ k) (hnF : sps.length ≤ k)
    (HM : Hid (MT w2.heap.size eb w2 wr (.slice a st.length ca) (.slice b3 sc.length cb) (.slice f sps.length cf) st sc sps st sc off ex ser nser L k)) {J K' K1 R1 K2 : Act → World → Prop} {w : World}
    (HJ : Post eb k w2 vv x0 x1 x2 x3 x13 x14 x15 x21 x22 x23 x24 x25 x26 x27 x28 x29 x30 x31 x32 x33 x34 x35 x36 x37 x38 x39 x40 x41 x42 x43 x44 x45 x46 x47 J) (hK : ∀ (a' : Act) (w' : World), Met J a' w' → K' a' w') :
    Code.wp Try.prog ((Try.f4.body.bind (findBlock 2)).getD .skip) (Exit.then K' (Exit.inBlock 1 (Exit.then K1 (Exit.then R1 (Exit.inBlock 0 (Exit.then K2 (bodyPost Try.prog Try.f4 fun e w' => e = .returned (.bool true) ∧ Below w.heap.size w w'))))))) ⟨#[x0, x1, x2, x3, y4, .pointer (some ⟨eb, 0, none⟩), .slice a st.length ca, .slice b3 sc.length cb, .slice f sps.length cf, .int .i64 off, .int .i64 ex, .int .i64 ser, .int .i64 nser, x13, x14, x15, .int .i64 vv, y17, y18, y19, y20, x21, x22, x23, x24, x25, x26, x27, x28, x29, x30, x31, x32, x33, x34, x35, x36, x37, x38, x39, x40, x41, x42, x43, x44, x45, x46, x47, y48, y49, y50, y51, y52, y53, y54, y55, y56, y57, y58, y59, y60, y61, y62, y63, y64, y65, .int .u8 5, y67, y68, y69, y70, y71, y72, y73, y74, y75, y76, y77, y78, y79, y80, y81, y82, y83, y84, y85, y86, y87, y88, y89, y90, y91, y92, y93, y94, y95, y96, y97, y98, y99, y100, y101, y102, y103, y104, y105, y106, y107, y108, y109, y110, y111, y112, y113, y114, y115, y116, y117, y118, y119, y120, y121, y122, y123, y124, y125, y126, y127, y128, y129, y130, y131, y132, y133, y134, y135, y136, y137, y138, y139, y140, y141, y142, y143, y144, y145, y146, y147, y148, y149, y150, y151, y152, y153, y154, y155, y156, y157, y158, y159, y160, y161, y162, y163, y164, y165, y166, y167, y168, y169, y170, y171, y172, y173, y174, y175, y176, y177, y178, y179, y180, y181, y182, y183, y184, y185, y186, y187, y188, y189, y190, y191, y192, y193, y194, y195, y196, y197, y198, y199, y200, y201, y202, y203, y204, y205, y206, y207, y208, y209, y210, y211, y212, y213, y214, y215, y216, y217, y218, y219, y220, y221, y222, y223, y224, y225, y226, y227, y228, y229, y230, y231, y232, y233, y234, y235, y236, y237, y238, y239], []⟩ wr := by
  conv => arg 2; whnf
  obtain ⟨i0, hi, hz0, hz1, hz2⟩ := info_parts info3
  obtain ⟨j0, ji, jz0, jz1, jz2⟩ := info_parts info40
  obtain ⟨k0, ki, kz0, kz1, kz2⟩ := info_parts info42
  go_wp2_with (first | (go_at_call 15; refine (HM.out.setEx _).mono ?_; rintro e w4 ⟨rfl, h4⟩; have HZ := Lib.hid h4; clear h4))
  have hJ := HJ; unfold Post at hJ
  go_meet
  exact ⟨st.length, sc.length, sps.length, st, sc, sps, L, off, vv, ser, nser, a, b3, f, ca, cb, cf, by omega, by omega, by omega, by omega, by omega, rfl, rfl, rfl, rfl, rfl, rfl, by first | rfl | go_num, ⟨by first | rfl | simp, by first | rfl | simp, by first | rfl | simp⟩, HSP, HZ.out.up (by omega)⟩
set_option maxRecDepth 1000000 in
set_option maxHeartbeats 20000000 in
theorem case6 {eb k : Nat} {w2 wr : World} {vv : Int} {x0 x1 x2 x3 x13 x14 x15 x21 x22 x23 x24 x25 x26 x27 x28 x29 x30 x31 x32 x33 x34 x35 x36 x37 x38 x39 x40 x41 x42 x43 x44 x45 x46 x47 : Value} {y4 y17 y18 y19 y20 y48 y49 y50 y51 y52 y53 y54 y55 y56 y57 y58 y59 y60 y61 y62 y63 y64 y65 y67 y68 y69 y70 y71 y72 y73 y74 y75 y76 y77 y78 y79 y80 y81 y82 y83 y84 y85 y86 y87 y88 y89 y90 y91 y92 y93 y94 y95 y96 y97 y98 y99 y100 y101 y102 y103 y104 y105 y106 y107 y108 y109 y110 y111 y112 y113 y114 y115 y116 y117 y118 y119 y120 y121 y122 y123 y124 y125 y126 y127 y128 y129 y130 y131 y132 y133 y134 y135 y136 y137 y138 y139 y140 y141 y142 y143 y144 y145 y146 y147 y148 y149 y150 y151 y152 y153 y154 y155 y156 y157 y158 y159 y160 y161 y162 y163 y164 y165 y166 y167 y168 y169 y170 y171 y172 y173 y174 y175 y176 y177 y178 y179 y180 y181 y182 y183 y184 y185 y186 y187 y188 y189 y190 y191 y192 y193 y194 y195 y196 y197 y198 y199 y200 y201 y202 y203 y204 y205 y206 y207 y208 y209 y210 y211 y212 y213 y214 y215 y216 y217 y218 y219 y220 y221 y222 y223 y224 y225 y226 y227 y228 y229 y230 y231 y232 y233 y234 y235 y236 y237 y238 y239 : Value}
    {st : List Int} {sc : List Ms} {sps : List Sp} {L : List (Fk × Sp)} {off ex ser nser : Int} {a b3 f : Option Addr} {ca cb cf : Nat} (hk1 : k < 1024) (hns0 : 0 ≤ nser) (hns1 : nser ≤ (k : Int)) (HSP : Hid (sps = L.map (·.2))) (hnA : st.length ≤ k) (hnB : sc.length ≤ k) (hnF : sps.length ≤ k)
    (HM : Hid (MT w2.heap.size eb w2 wr (.slice a st.length ca) (.slice b3 sc.length cb) (.slice f sps.length cf) st sc sps st sc off ex ser nser L k)) {J K' K1 R1 K2 : Act → World → Prop} {w : World}
    (HJ : Post eb k w2 vv x0 x1 x2 x3 x13 x14 x15 x21 x22 x23 x24 x25 x26 x27 x28 x29 x30 x31 x32 x33 x34 x35 x36 x37 x38 x39 x40 x41 x42 x43 x44 x45 x46 x47 J) (hK : ∀ (a' : Act) (w' : World), Met J a' w' → K' a' w') :
    Code.wp Try.prog ((Try.f4.body.bind (findBlock 2)).getD .skip) (Exit.then K' (Exit.inBlock 1 (Exit.then K1 (Exit.then R1 (Exit.inBlock 0 (Exit.then K2 (bodyPost Try.prog Try.f4 fun e w' => e = .returned (.bool true) ∧ Below w.heap.size w w'))))))) ⟨#[x0, x1, x2, x3, y4, .pointer (some ⟨eb, 0, none⟩), .slice a st.length ca, .slice b3 sc.length cb, .slice f sps.length cf, .int .i64 off, .int .i64 ex, .int .i64 ser, .int .i64 nser, x13, x14, x15, .int .i64 vv, y17, y18, y19, y20, x21, x22, x23, x24, x25, x26, x27, x28, x29, x30, x31, x32, x33, x34, x35, x36, x37, x38, x39, x40, x41, x42, x43, x44, x45, x46, x47, y48, y49, y50, y51, y52, y53, y54, y55, y56, y57, y58, y59, y60, y61, y62, y63, y64, y65, .int .u8 6, y67, y68, y69, y70, y71, y72, y73, y74, y75, y76, y77, y78, y79, y80, y81, y82, y83, y84, y85, y86, y87, y88, y89, y90, y91, y92, y93, y94, y95, y96, y97, y98, y99, y100, y101, y102, y103, y104, y105, y106, y107, y108, y109, y110, y111, y112, y113, y114, y115, y116, y117, y118, y119, y120, y121, y122, y123, y124, y125, y126, y127, y128, y129, y130, y131, y132, y133, y134, y135, y136, y137, y138, y139, y140, y141, y142, y143, y144, y145, y146, y147, y148, y149, y150, y151, y152, y153, y154, y155, y156, y157, y158, y159, y160, y161, y162, y163, y164, y165, y166, y167, y168, y169, y170, y171, y172, y173, y174, y175, y176, y177, y178, y179, y180, y181, y182, y183, y184, y185, y186, y187, y188, y189, y190, y191, y192, y193, y194, y195, y196, y197, y198, y199, y200, y201, y202, y203, y204, y205, y206, y207, y208, y209, y210, y211, y212, y213, y214, y215, y216, y217, y218, y219, y220, y221, y222, y223, y224, y225, y226, y227, y228, y229, y230, y231, y232, y233, y234, y235, y236, y237, y238, y239], []⟩ wr := by
  conv => arg 2; whnf
  obtain ⟨i0, hi, hz0, hz1, hz2⟩ := info_parts info3
  obtain ⟨j0, ji, jz0, jz1, jz2⟩ := info_parts info40
  obtain ⟨k0, ki, kz0, kz1, kz2⟩ := info_parts info42
  have hB1 : ((sc.length : Int) + 1 == 0) = false := beq_eq_false_iff_ne.mpr (by omega)
  go_wp2_with (first | (go_at_call 13; refine (HM.out.scope _ _ _ _ _ (by omega)).mono ?_; rintro e w4 ⟨rfl, h4⟩; have H4 := Lib.hid h4; have z4 := h4.below.2; clear h4) | (at_builtin; refine wpList_append_lies _ rfl (.tmp 202) (.tmp 210) 36 rfl w2.heap.size 42 k0 (.agg #[.int .i64 0, .int .i64 0, .int .i64 0, .int .i64 0]) 4 32 Try.underlying36 ki kz0 kz1 kz2 rfl (by decide) _ sc.length (mcs sc) rfl (by obtain ⟨s, hs⟩ := H4.out.ft; exact World.ownsRow.alloc hs.ownB _) ⟨w4.heap.size, 0, none⟩ 1 1 [.int .i64 vv, .int .i64 (bits .xor .i64 vv 85), .int .i64 (bits .xor .i64 vv 170), .int .i64 ser] rfl rfl (World.news_of_block (heap_alloc_last _ _)) (by intro u hu; simp at hu; rcases hu with rfl | rfl | rfl | rfl <;> rfl) (by decide) (by unfold maxLen; omega) (by omega) (by simp; omega) _ rfl ?_; intro g5 cp5 w5 hown hgrow hat hlt5; have HZ := Lib.hid (H4.out.appB (m := (vv, (bits .xor .i64 vv 85), (bits .xor .i64 vv 170), ser)) hown hgrow hat (by simp)); clear hown hgrow hat hlt5 H4))
  have hJ := HJ; unfold Post at hJ
  go_meet
  exact ⟨st.length, sc.length + 1, sps.length, st, sc ++ [(vv, (bits .xor .i64 vv 85), (bits .xor .i64 vv 170), ser)], sps, L, off, ex, ser, nser, a, some ⟨g5, 0, none⟩, f, ca, cp5, cf, by omega, by omega, by omega, by omega, by omega, rfl, rfl, rfl, rfl, rfl, rfl, by first | rfl | go_num, ⟨by first | rfl | simp, by first | rfl | simp, by first | rfl | simp⟩, HSP, HZ.out.up (by omega)⟩
set_option maxRecDepth 1000000 in
set_option maxHeartbeats 20000000 in
theorem case7 {eb k : Nat} {w2 wr : World} {vv : Int} {x0 x1 x2 x3 x13 x14 x15 x21 x22 x23 x24 x25 x26 x27 x28 x29 x30 x31 x32 x33 x34 x35 x36 x37 x38 x39 x40 x41 x42 x43 x44 x45 x46 x47 : Value} {y4 y17 y18 y19 y20 y48 y49 y50 y51 y52 y53 y54 y55 y56 y57 y58 y59 y60 y61 y62 y63 y64 y65 y67 y68 y69 y70 y71 y72 y73 y74 y75 y76 y77 y78 y79 y80 y81 y82 y83 y84 y85 y86 y87 y88 y89 y90 y91 y92 y93 y94 y95 y96 y97 y98 y99 y100 y101 y102 y103 y104 y105 y106 y107 y108 y109 y110 y111 y112 y113 y114 y115 y116 y117 y118 y119 y120 y121 y122 y123 y124 y125 y126 y127 y128 y129 y130 y131 y132 y133 y134 y135 y136 y137 y138 y139 y140 y141 y142 y143 y144 y145 y146 y147 y148 y149 y150 y151 y152 y153 y154 y155 y156 y157 y158 y159 y160 y161 y162 y163 y164 y165 y166 y167 y168 y169 y170 y171 y172 y173 y174 y175 y176 y177 y178 y179 y180 y181 y182 y183 y184 y185 y186 y187 y188 y189 y190 y191 y192 y193 y194 y195 y196 y197 y198 y199 y200 y201 y202 y203 y204 y205 y206 y207 y208 y209 y210 y211 y212 y213 y214 y215 y216 y217 y218 y219 y220 y221 y222 y223 y224 y225 y226 y227 y228 y229 y230 y231 y232 y233 y234 y235 y236 y237 y238 y239 : Value}
    {st : List Int} {sc : List Ms} {sps : List Sp} {L : List (Fk × Sp)} {off ex ser nser : Int} {a b3 f : Option Addr} {ca cb cf : Nat} (hk1 : k < 1024) (hns0 : 0 ≤ nser) (hns1 : nser ≤ (k : Int)) (HSP : Hid (sps = L.map (·.2))) (hnA : st.length ≤ k) (hnB : sc.length ≤ k) (hnF : sps.length ≤ k)
    (HM : Hid (MT w2.heap.size eb w2 wr (.slice a st.length ca) (.slice b3 sc.length cb) (.slice f sps.length cf) st sc sps st sc off ex ser nser L k)) {J K' K1 R1 K2 : Act → World → Prop} {w : World}
    (HJ : Post eb k w2 vv x0 x1 x2 x3 x13 x14 x15 x21 x22 x23 x24 x25 x26 x27 x28 x29 x30 x31 x32 x33 x34 x35 x36 x37 x38 x39 x40 x41 x42 x43 x44 x45 x46 x47 J) (hK : ∀ (a' : Act) (w' : World), Met J a' w' → K' a' w') :
    Code.wp Try.prog ((Try.f4.body.bind (findBlock 2)).getD .skip) (Exit.then K' (Exit.inBlock 1 (Exit.then K1 (Exit.then R1 (Exit.inBlock 0 (Exit.then K2 (bodyPost Try.prog Try.f4 fun e w' => e = .returned (.bool true) ∧ Below w.heap.size w w'))))))) ⟨#[x0, x1, x2, x3, y4, .pointer (some ⟨eb, 0, none⟩), .slice a st.length ca, .slice b3 sc.length cb, .slice f sps.length cf, .int .i64 off, .int .i64 ex, .int .i64 ser, .int .i64 nser, x13, x14, x15, .int .i64 vv, y17, y18, y19, y20, x21, x22, x23, x24, x25, x26, x27, x28, x29, x30, x31, x32, x33, x34, x35, x36, x37, x38, x39, x40, x41, x42, x43, x44, x45, x46, x47, y48, y49, y50, y51, y52, y53, y54, y55, y56, y57, y58, y59, y60, y61, y62, y63, y64, y65, .int .u8 7, y67, y68, y69, y70, y71, y72, y73, y74, y75, y76, y77, y78, y79, y80, y81, y82, y83, y84, y85, y86, y87, y88, y89, y90, y91, y92, y93, y94, y95, y96, y97, y98, y99, y100, y101, y102, y103, y104, y105, y106, y107, y108, y109, y110, y111, y112, y113, y114, y115, y116, y117, y118, y119, y120, y121, y122, y123, y124, y125, y126, y127, y128, y129, y130, y131, y132, y133, y134, y135, y136, y137, y138, y139, y140, y141, y142, y143, y144, y145, y146, y147, y148, y149, y150, y151, y152, y153, y154, y155, y156, y157, y158, y159, y160, y161, y162, y163, y164, y165, y166, y167, y168, y169, y170, y171, y172, y173, y174, y175, y176, y177, y178, y179, y180, y181, y182, y183, y184, y185, y186, y187, y188, y189, y190, y191, y192, y193, y194, y195, y196, y197, y198, y199, y200, y201, y202, y203, y204, y205, y206, y207, y208, y209, y210, y211, y212, y213, y214, y215, y216, y217, y218, y219, y220, y221, y222, y223, y224, y225, y226, y227, y228, y229, y230, y231, y232, y233, y234, y235, y236, y237, y238, y239], []⟩ wr := by
  conv => arg 2; whnf
  obtain ⟨i0, hi, hz0, hz1, hz2⟩ := info_parts info3
  obtain ⟨j0, ji, jz0, jz1, jz2⟩ := info_parts info40
  obtain ⟨k0, ki, kz0, kz1, kz2⟩ := info_parts info42
  rcases List.eq_nil_or_concat sc with rfl | ⟨r, mm, rfl⟩
  · have HZ := HM
    clear HM
    go_wp2_with fail
    have hJ := HJ; unfold Post at hJ
    go_meet
    exact ⟨st.length, 0, sps.length, st, [], sps, L, off, ex, ser, nser, a, b3, f, ca, cb, cf, by omega, by omega, by omega, by omega, by omega, rfl, rfl, rfl, rfl, rfl, rfl, by first | rfl | go_num, ⟨by first | rfl | simp, by first | rfl | simp, by first | rfl | simp⟩, HSP, HZ.out.up (by omega)⟩
  · rw [List.concat_eq_append] at HM hnB ⊢
    have eA : (r ++ [mm]).length = r.length + 1 := by simp
    rw [eA] at HM hnB ⊢
    obtain ⟨gb, cbx, ea, hcb⟩ := HM.out.lastB
    simp only [Value.slice.injEq, true_and] at ea
    obtain ⟨rfl, rfl⟩ := ea
    obtain ⟨m0, m1, m2, m3⟩ := mm
    obtain ⟨e0, e1, e2, e3, hgl⟩ := HM.out.cellB
    simp only at e0 e1 e2 e3
    have y0 : (0 : Int) ≤ r.length := by omega
    have y1 : (r.length : Int) < (r.length : Int) + 1 := by omega
    have y2 : r.length < r.length + 1 := by omega
    have y3 : (r.length : Int) ≤ cb := by omega
    have y4 : r.length ≤ cb := by omega
    have y7 : (0 : Int) < (r.length : Int) + 1 := by omega
    have hgn : gb ≠ wr.heap.size := by omega
    clear eA
    by_cases hser : m3 = ser
    · have hsb : (m3 == ser) = true := by simpa using hser
      have HOF : Hid ((if (m0, m1, m2, m3).2.2.2 = ser then (m0, m1, m2, m3).1 else off) = m0) := if_pos hser
      clear hser
      go_wp2_with (first | (go_at_call 18; refine (MT.popscopeK HM.out (by repeat (first | exact Upd.refl _ _ | apply Upd.drew | apply Upd.drewN | apply Upd.alloc)) (Nat.le_refl _) ((Blk.new wr #[.int .i64 m0, .int .i64 m1, .int .i64 m2, .int .i64 m3] 42).kept (S := fun _ => False) (by repeat (first | exact Upd.refl _ _ | apply Upd.drew | apply Upd.drewN)) id) _ HOF.out).mono ?_; rintro e w4 ⟨rfl, h4, hb4⟩; have b0 := hb4.cell 0; have b1 := hb4.cell 1; have b2 := hb4.cell 2; have b3 := hb4.cell 3; simp at b0 b1 b2 b3; have HZ := Lib.hid h4.cutB; clear h4 hb4))
      have hJ := HJ; unfold Post at hJ
      go_meet
      exact ⟨st.length, r.length, sps.length, st, r, sps, L, m0, ex, ser, nser, a, some ⟨gb, 0, none⟩, f, ca, cb, cf, by omega, by omega, by omega, by omega, by omega, rfl, rfl, rfl, rfl, rfl, rfl, by first | rfl | go_num, ⟨by first | rfl | simp, by first | rfl | simp, by first | rfl | simp⟩, HSP, (HZ.out.still (by repeat (first | exact Upd.refl _ _ | apply Upd.drew | apply Upd.drewN | apply Upd.alloc))).up (by omega)⟩
    · have hsb : (m3 == ser) = false := by simpa using hser
      have HOF : Hid ((if (m0, m1, m2, m3).2.2.2 = ser then (m0, m1, m2, m3).1 else off) = off) := if_neg hser
      clear hser
      go_wp2_with (first | (go_at_call 18; refine (MT.popscopeK HM.out (by repeat (first | exact Upd.refl _ _ | apply Upd.drew | apply Upd.drewN | apply Upd.alloc)) (Nat.le_refl _) ((Blk.new wr #[.int .i64 m0, .int .i64 m1, .int .i64 m2, .int .i64 m3] 42).kept (S := fun _ => False) (by repeat (first | exact Upd.refl _ _ | apply Upd.drew | apply Upd.drewN)) id) _ HOF.out).mono ?_; rintro e w4 ⟨rfl, h4, hb4⟩; have b0 := hb4.cell 0; have b1 := hb4.cell 1; have b2 := hb4.cell 2; have b3 := hb4.cell 3; simp at b0 b1 b2 b3; have HZ := Lib.hid h4.cutB; clear h4 hb4))
      have hJ := HJ; unfold Post at hJ
      go_meet
      exact ⟨st.length, r.length, sps.length, st, r, sps, L, off, ex, ser, nser, a, some ⟨gb, 0, none⟩, f, ca, cb, cf, by omega, by omega, by omega, by omega, by omega, rfl, rfl, rfl, rfl, rfl, rfl, by first | rfl | go_num, ⟨by first | rfl | simp, by first | rfl | simp, by first | rfl | simp⟩, HSP, (HZ.out.still (by repeat (first | exact Upd.refl _ _ | apply Upd.drew | apply Upd.drewN | apply Upd.alloc))).up (by omega)⟩
end Go.Proofs.Ytemifkcgmfincaa.cases
