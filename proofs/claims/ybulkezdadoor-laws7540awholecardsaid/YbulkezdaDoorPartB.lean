/-
  THE LAW BEHIND HER FIRST LOOP, AS FAR AS want: the copies, s, whether p has a floor.
-/
import Derived.Test.YbulkezdaDoorPartC
namespace Go.Proofs.YbulkezdaDoor
open Go.ChangeShapes Go.WideShapes Go.ChangeAt Go.RowKit

set_option maxHeartbeats 1600000 in
set_option maxRecDepth 100000 in
theorem part_b (u0 u2 u3 u4 u5 u6 u7 u8 u9 u10 u11 u12 u13 u19 u20 u21 u22 u23 u24 u25 u26 u27 u28 u29 u30 u31 u32 u33 u34 u35 u36 u37 u38 u39 u40 u41 u42 u43 u44 u45 u46 u47 u48 u49 u50 u51 u52 u53 u54 u55 u56 u57 u58 u59 u60 u61 u62 u63 u64 u65 u66 u67 u68 u69 u70 u71 u72 u73 u74 u75 u76 u77 u78 u79 u80 u81 u82 u83 u84 u85 u86 u87 u88 u89 u90 u91 u92 u93 u94 u95 u96 u97 u98 u99 u100 u101 u102 u103 u104 u105 u106 u107 u108 u109 u110 u111 u112 u113 u114 u115 u116 u117 u118 u119 u120 u121 u122 u123 u124 u125 u126 u127 u128 u129 u130 u131 u132 u133 u134 u135 u136 u137 u138 u139 u140 u141 u142 u143 u144 u145 u146 u147 u148 u149 u150 u151 u152 u153 u154 u155 u156 u157 u158 u159 u160 u161 u162 u163 u164 u165 u166 u167 u168 u169 u170 u171 u172 u173 u174 u175 u176 u177 u178 u179 u180 u181 u182 u183 u184 u185 u186 u187 u188 u189 u190 u191 u192 u193 u194 u195 u196 u197 u198 u199 u200 u201 u202 u203 u204 u205 u206 u207 u208 u209 u210 u211 u212 u213 u214 u215 u216 u217 u218 u219 u220 u221 u222 u223 u224 u225 u226 u227 u228 u229 u230 u231 u232 u233 u234 u235 u236 u237 u238 u239 u240 u241 u242 u243 u244 u245 u246 u247 u248 u249 u250 u251 u252 u253 u254 u255 u256 u257 u258 u259 u260 u261 u262 u263 u264 u265 u266 : Value) (n0 c1 cap : Nat) (a a1 : Option Addr) (p φ : Int) (xs z1 : List Int) (A P F : Nat → Int) (w wc : World)
    (l0 : n0 ≤ 1048576) (l1 : z1.length ≤ 1048576) (r1 : Rd .i64 w a1 z1.length z1) (hnil1 : a1 = none → c1 = 0) (hp0 : 0 ≤ p) (hp1 : p < (n0 : Int) + 1) (htz : w.cell? ⟨2, 15, none⟩ = some (.int .u8 4)) (hA : ∀ i, 0 ≤ A i ∧ A i ≤ 4294967295) (hφ : 0 ≤ φ ∧ φ ≤ 18446744073709551615)
    (hst : St w.heap.size (n0 + 1) w A P F xs (.slice a xs.length cap) wc) :
    Code.wp Ybad.prog ((Ybad.f3.body.bind (tailAt 24)).getD .skip) (bodyPost Ybad.prog Ybad.f3 fun e w' => e = .returned (.bool true) ∧ Below w.heap.size w w')
      ⟨#[u0, .slice a1 z1.length c1, u2, u3, u4, u5, u6, u7, u8, u9, u10, u11, u12, u13, .slice (some ⟨w.heap.size, 0, none⟩) (n0 + 1) (n0 + 1), .int .i64 p, .slice (some ⟨w.heap.size + 1, 0, none⟩) 16 16, .slice a xs.length cap, .int .u64 φ, u19, u20, u21, u22, u23, u24, u25, u26, u27, u28, u29, u30, u31, u32, u33, u34, u35, u36, u37, u38, u39, u40, u41, u42, u43, u44, u45, u46, u47, u48, u49, u50, u51, u52, u53, u54, u55, u56, u57, u58, u59, u60, u61, u62, u63, u64, u65, u66, u67, u68, u69, u70, u71, u72, u73, u74, u75, u76, u77, u78, u79, u80, u81, u82, u83, u84, u85, u86, u87, u88, u89, u90, u91, u92, u93, u94, u95, u96, u97, u98, u99, u100, u101, u102, u103, u104, u105, u106, u107, u108, u109, u110, u111, u112, u113, u114, u115, u116, u117, u118, u119, u120, u121, u122, u123, u124, u125, u126, u127, u128, u129, u130, u131, u132, u133, u134, u135, u136, u137, u138, u139, u140, u141, u142, u143, u144, u145, u146, u147, u148, u149, u150, u151, u152, u153, u154, u155, u156, u157, u158, u159, u160, u161, u162, u163, u164, u165, u166, u167, u168, u169, u170, u171, u172, u173, u174, u175, u176, u177, u178, u179, u180, u181, u182, u183, u184, u185, u186, u187, u188, u189, u190, u191, u192, u193, u194, u195, u196, u197, u198, u199, u200, u201, u202, u203, u204, u205, u206, u207, u208, u209, u210, u211, u212, u213, u214, u215, u216, u217, u218, u219, u220, u221, u222, u223, u224, u225, u226, u227, u228, u229, u230, u231, u232, u233, u234, u235, u236, u237, u238, u239, u240, u241, u242, u243, u244, u245, u246, u247, u248, u249, u250, u251, u252, u253, u254, u255, u256, u257, u258, u259, u260, u261, u262, u263, u264, u265, u266], []⟩ wc := by
  have R1 := hide r1
  have HAB := hide hA
  clear r1 hA
  conv => arg 2; whnf
  go_wp2_with fail
  refine (clone7 ⟨w.heap.size, 0, none⟩ (n0 + 1) (n0 + 1) ((List.range (n0 + 1)).map fun i => .int .u32 (A i)) _ (by omega) (by simp) (row_src hst.arr) (fun u hu => by obtain ⟨j, _, rfl⟩ := List.mem_map.1 hu; rfl)).mono ?_
  rintro e w3 ⟨gC, cC, rfl, hoC, hg3, hgC, hgC'⟩
  go_wp2_with fail
  refine (clone8 ⟨w.heap.size + 1, 0, none⟩ 16 16 ((List.range 32).map (slotCell P F)) _ (by omega) (by simp) (row_src (hst.tab.of_block (hg3.block _ (by have := hst.size; omega) (by simp)))) (fun u hu => by obtain ⟨j, _, rfl⟩ := List.mem_map.1 hu; unfold slotCell; split <;> rfl)).mono ?_
  rintro e w4 ⟨gD, cD, rfl, hoD, hg4, hgD, hgD'⟩
  have hcop := Cop.start hst hoC hg3 hgC' hoD hg4
  have hsz := hst.size
  have hs3 := hg3.size
  have hs4 := hg4.size
  have htp := own_kept (own_kept hst.tp hg3) hg4
  clear hoC hg3 hoD hg4
  go_wp2_with fail
  refine (clone_watch a1 z1.length c1 w.heap.size z1 w w4 R1.out hnil1 hcop.below rfl l1).mono ?_
  rintro e w5 ⟨a', cap', rfl, ho5, hg5⟩
  have hs5 := hg5.size
  obtain ⟨bF, hbF⟩ : ∃ b, b = w5.heap.size := ⟨_, rfl⟩
  have hne5 : (Value.slice a' z1.length cap').ownBlock ≠ some bF := fun e => by have := ho5.lt bF e; omega
  have hfin : Fin w.heap.size (n0 + 1) gC gD w5.heap.size w A P F φ xs.length (.slice a' z1.length cap') _ := Fin.start (used := xs.length) hcop hg5 (by omega)
  have ho6 := ho5.alloc (.cells #[.slice none 0 0, .slice none 0 0, .int .i32 0, .int .i32 0, .int .i32 0, .int .u64 φ, .slice (some ⟨w.heap.size, 0, none⟩) (n0 + 1) (n0 + 1), .bool true, .slice (some ⟨w.heap.size + 1, 0, none⟩) 16 16, .int .i64 xs.length, .slice a' z1.length cap'] 43)
  have ht6 := (own_kept htp hg5).alloc (.cells #[.slice none 0 0, .slice none 0 0, .int .i32 0, .int .i32 0, .int .i32 0, .int .u64 φ, .slice (some ⟨w.heap.size, 0, none⟩) (n0 + 1) (n0 + 1), .bool true, .slice (some ⟨w.heap.size + 1, 0, none⟩) 16 16, .int .i64 xs.length, .slice a' z1.length cap'] 43)
  have ha63 := and63u p hp0 (by omega)
  have HFIN := hide hfin
  have HO6 := hide ho6
  have HT6 := hide ht6
  have HBF := hide hbF
  clear hfin ho6 ht6 htp hcop hg5 ho5 hbF
  go_upto_if 147 with fail
  rename_i hK
  go_cut [25, 26] from 141 to 155 (fun s25 s26 w6 => s25 = .pointer (some ⟨bF, 0, none⟩) ∧ s26 = .bool (hasB A xs φ p) ∧ w6.heap.size = bF + 1 ∧ Fin w.heap.size (n0 + 1) gC gD bF w A P F φ xs.length (.slice a' z1.length cap') w6 ∧ w6.ownsRow w4.heap.size 3 1 (.slice a' z1.length cap') z1.length (z1.map (.int .i64)))
  case first =>
    rcases bit01 φ p hφ with hb | hb
    · have hb' : bits BinOp.and IntKind.u64 (φ / 2 ^ (p % 64).toNat) 1 = 0 := hb
      have hy := HFIN.out.cop.arr.cell (i := p.toNat) (by omega)
      have HH : Hid (hasB A xs φ p = (A p.toNat != 0)) := by show _ = _; simp [hasB, hb]
      clear hb
      go_wp2
      go_meet
      case rel => exact ⟨by rw [HBF.out], by rw [HH.out], by simp [HBF.out], by rw [HBF.out]; exact HFIN.out, HO6.out⟩
    · have hb' : bits BinOp.and IntKind.u64 (φ / 2 ^ (p % 64).toNat) 1 = 1 := hb
      have HH : Hid (hasB A xs φ p = xs.contains p) := by show _ = _; simp [hasB, hb]
      clear hb
      have hx8 := hst.len
      go_wp2_with (go_at_call 5; refine (contains_any _ xs _ _ (by omega) (holds_of HT6.out)).mono ?_; rintro e w' ⟨rfl, rfl⟩)
      go_meet
      case rel => exact ⟨by rw [HBF.out], by rw [HH.out]; simp, by simp [HBF.out], by rw [HBF.out]; exact HFIN.out, HO6.out⟩
  case rest =>
    obtain ⟨rfl, rfl, hs6, hf6, ho6⟩ := hcut
    refine hK _ _ ?_
    have hbF2 : w.heap.size + 2 ≤ bF ∧ gC < bF ∧ gD < bF := by have := HBF.out; omega
    exact part_c _ _ _ _ _ _ _ _ _ _ _ _ _ _ _ _ _ _ _ _ _ _ _ _ _ _ _ _ _ _ _ _ _ _ _ _ _ _ _ _ _ _ _ _ _ _ _ _ _ _ _ _ _ _ _ _ _ _ _ _ _ _ _ _ _ _ _ _ _ _ _ _ _ _ _ _ _ _ _ _ _ _ _ _ _ _ _ _ _ _ _ _ _ _ _ _ _ _ _ _ _ _ _ _ _ _ _ _ _ _ _ _ _ _ _ _ _ _ _ _ _ _ _ _ _ _ _ _ _ _ _ _ _ _ _ _ _ _ _ _ _ _ _ _ _ _ _ _ _ _ _ _ _ _ _ _ _ _ _ _ _ _ _ _ _ _ _ _ _ _ _ _ _ _ _ _ _ _ _ _ _ _ _ _ _ _ _ _ _ _ _ _ _ _ _ _ _ _ _ _ _ _ _ _ _ _ _ _ _ _ _ _ _ _ _ _ _ _ _ _ _ _ _ _ _ _ _ _ _ _ _ _ _ _ _ _ _ _ _ _ _ _ _ _ _ _ _ _ _ _ _ _ _ _ _ _ _ n0 c1 gC gD bF cC cD cap w4.heap.size a a1 a' cap' p φ xs z1 A P F w _ l0 l1 R1.out hnil1 hp0 hp1 htz HAB.out hst.hP hst.hF hst.tbl hst.len hφ hbF2 (by omega) (by have := HBF.out; omega) hs6 hne5 hf6 ho6
end Go.Proofs.YbulkezdaDoor
