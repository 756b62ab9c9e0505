/-
  THE LAW FROM rose ON.
-/
import Derived.Test.YbulkezdaDoorCalls
import Derived.Test.YbulkezdaDoorTail
import Derived.WalkSpells
namespace Go.Proofs.YbulkezdaDoor
open Go.ChangeShapes Go.WideShapes Go.ChangeAt Go.RowKit

set_option maxHeartbeats 1600000 in
set_option maxRecDepth 100000 in
theorem part_d (u0 u1 u2 u3 u4 u5 u6 u7 u8 u9 u10 u11 u12 u13 u19 u20 u21 u22 u26 u28 u29 u30 u31 u32 u33 u34 u35 u36 u37 u38 u39 u40 u41 u42 u43 u44 u45 u46 u47 u48 u49 u50 u51 u52 u53 u54 u55 u56 u57 u58 u59 u60 u61 u62 u63 u64 u65 u66 u67 u68 u69 u70 u71 u72 u73 u74 u75 u76 u77 u78 u79 u80 u81 u82 u83 u84 u85 u86 u87 u88 u89 u90 u91 u92 u93 u94 u95 u96 u97 u98 u99 u100 u101 u102 u103 u104 u105 u106 u107 u108 u109 u110 u111 u112 u113 u114 u115 u116 u117 u118 u119 u120 u121 u122 u123 u124 u125 u126 u127 u128 u129 u130 u131 u132 u133 u134 u135 u136 u137 u138 u139 u140 u141 u142 u143 u144 u145 u146 u147 u148 u149 u150 u151 u152 u153 u154 u155 u156 u157 u158 u159 u160 u161 u162 u163 u164 u165 u166 u167 u168 u169 u170 u171 u172 u173 u174 u175 u176 u177 u178 u179 u180 u181 u182 u183 u184 u185 u186 u187 u188 u189 u190 u191 u192 u193 u194 u195 u196 u197 u198 u199 u200 u201 u202 u203 u204 u205 u206 u207 u208 u209 u210 u211 u212 u213 u214 u215 u216 u217 u218 u219 u220 u221 u222 u223 u224 u225 u226 u227 u228 u229 u230 u231 u232 u233 u234 u235 u236 u237 u238 u239 u240 u241 u242 u243 u244 u245 u246 u247 u248 u249 u250 u251 u252 u253 u254 u255 u256 u257 u258 u259 u260 u261 u262 u263 u264 u265 u266 : Value) (n0 gC gD bF cC cD cap base : Nat) (a a' : Option Addr) (cap' : Nat) (p φ : Int) (xs z1 : List Int) (A P F : Nat → Int) (vW : Value) (w wr : World)
    (l0 : n0 ≤ 1048576) (l1 : z1.length ≤ 1048576) (hp0 : 0 ≤ p) (hp1 : p < (n0 : Int) + 1) (htz : w.cell? ⟨2, 15, none⟩ = some (.int .u8 4)) (hA : ∀ i, 0 ≤ A i ∧ A i ≤ 4294967295) (hP : ∀ i, -2147483648 ≤ P i ∧ P i ≤ 2147483647) (hF : ∀ i, 0 ≤ F i ∧ F i ≤ 4294967295) (ht : Tbl P F xs) (hx8 : xs.length ≤ 8) (hφ : 0 ≤ φ ∧ φ ≤ 18446744073709551615)
    (hbF : w.heap.size + 2 ≤ bF ∧ gC < bF ∧ gD < bF) (hbase : w.heap.size + 2 ≤ base ∧ gC < base ∧ gD < base) (hbs : base ≤ wr.heap.size) (hne : (Value.slice a' z1.length cap').ownBlock ≠ some bF) (hxb : ∀ k, (Value.slice a' z1.length cap').ownBlock = some k → k < bF + 1)
    (hfin : Fin w.heap.size (n0 + 1) gC gD bF w A P F φ xs.length (.slice a' z1.length cap') wr) (hown : wr.ownsRow base 3 1 (.slice a' z1.length cap') z1.length (z1.map (.int .i64)))
    (hwant : Want bF vW (if addB (hasB A xs φ p) z1 p = true then z1 ++ [p] else z1) wr) :
    Code.wp Ybad.prog ((Ybad.f3.body.bind (tailAt 34)).getD .skip) (bodyPost Ybad.prog Ybad.f3 fun e w' => e = .returned (.bool true) ∧ Below w.heap.size w w')
      ⟨#[u0, u1, u2, u3, u4, u5, u6, u7, u8, u9, u10, u11, u12, u13, .slice (some ⟨w.heap.size, 0, none⟩) (n0 + 1) (n0 + 1), .int .i64 p, .slice (some ⟨w.heap.size + 1, 0, none⟩) 16 16, .slice a xs.length cap, .int .u64 φ, u19, u20, u21, u22, .slice (some ⟨gC, 0, none⟩) (n0 + 1) cC, .slice (some ⟨gD, 0, none⟩) 16 cD, .pointer (some ⟨bF, 0, none⟩), u26, vW, u28, u29, u30, u31, u32, u33, u34, u35, u36, u37, u38, u39, u40, u41, u42, u43, u44, u45, u46, u47, u48, u49, u50, u51, u52, u53, u54, u55, u56, u57, u58, u59, u60, u61, u62, u63, u64, u65, u66, u67, u68, u69, u70, u71, u72, u73, u74, u75, u76, u77, u78, u79, u80, u81, u82, u83, u84, u85, u86, u87, u88, u89, u90, u91, u92, u93, u94, u95, u96, u97, u98, u99, u100, u101, u102, u103, u104, u105, u106, u107, u108, u109, u110, u111, u112, u113, u114, u115, u116, u117, u118, u119, u120, u121, u122, u123, u124, u125, u126, u127, u128, u129, u130, u131, u132, u133, u134, u135, u136, u137, u138, u139, u140, u141, u142, u143, u144, u145, u146, u147, u148, u149, u150, u151, u152, u153, u154, u155, u156, u157, u158, u159, u160, u161, u162, u163, u164, u165, u166, u167, u168, u169, u170, u171, u172, u173, u174, u175, u176, u177, u178, u179, u180, u181, u182, u183, u184, u185, u186, u187, u188, u189, u190, u191, u192, u193, u194, u195, u196, u197, u198, u199, u200, u201, u202, u203, u204, u205, u206, u207, u208, u209, u210, u211, u212, u213, u214, u215, u216, u217, u218, u219, u220, u221, u222, u223, u224, u225, u226, u227, u228, u229, u230, u231, u232, u233, u234, u235, u236, u237, u238, u239, u240, u241, u242, u243, u244, u245, u246, u247, u248, u249, u250, u251, u252, u253, u254, u255, u256, u257, u258, u259, u260, u261, u262, u263, u264, u265, u266], []⟩ wr := by
  have HR := hide (rose_fin hfin hown hbase hbs hbF hne l1 htz rfl hP hF hA ht hx8 hφ hp0 (by omega) (by omega))
  have HW := hide hwant
  have HX := hide hxb
  have hbF' := hbF
  clear hfin hown hwant hxb hA hP hF ht htz
  conv => arg 2; whnf
  go_wp2_with fail
  refine HR.out.mono ?_
  rintro e w10 ⟨rfl, x', hf10, hh10, hk10⟩
  have hw10 := want_kept HW.out (fun k h1 h2 => hk10 k h2 (by omega) (fun e => by have := HX.out k e; omega))
  clear HR HW HX hk10
  have hc10 : w10.cell? ⟨bF, 10, none⟩ = some x' := hf10.s.cell (i := 10) (by omega)
  have hn23 := fun (a : Option Addr) (n c : Nat) (w : World) => run_neq_slice_nil_any (P := Ybad.prog) w 23 3 a n c 0 0 Ybad.underlying23
  have hn39 := fun (a : Option Addr) (n c : Nat) (w : World) => run_neq_slice_nil_any (P := Ybad.prog) w 39 _ a n c 0 0 Ybad.underlying39
  go_wp2_with fail
  refine (equal_holds x' vW _ w10 (by split <;> (try simp) <;> omega) hh10 hw10).mono ?_
  rintro e w11 ⟨rfl, m, hw⟩
  have hf11 := hf10.drewN m
  rw [← hw] at hf11
  clear hh10 hw10 hf10 hw hc10
  have hc0 : w11.cell? ⟨bF, 0, none⟩ = some (.slice none 0 0) := hf11.s.cell (i := 0) (by omega)
  have hc1 : w11.cell? ⟨bF, 1, none⟩ = some (.slice none 0 0) := hf11.s.cell (i := 1) (by omega)
  have hc2 : w11.cell? ⟨bF, 2, none⟩ = some (.int .i32 0) := hf11.s.cell (i := 2) (by omega)
  have hc3 : w11.cell? ⟨bF, 3, none⟩ = some (.int .i32 0) := hf11.s.cell (i := 3) (by omega)
  have hc4 : w11.cell? ⟨bF, 4, none⟩ = some (.int .i32 0) := hf11.s.cell (i := 4) (by omega)
  have hc5 : w11.cell? ⟨bF, 5, none⟩ = some (.int .u64 φ) := hf11.s.cell (i := 5) (by omega)
  have hc6 : w11.cell? ⟨bF, 6, none⟩ = some (.slice (some ⟨w.heap.size, 0, none⟩) (n0 + 1) (n0 + 1)) := hf11.s.cell (i := 6) (by omega)
  have hc7 : w11.cell? ⟨bF, 7, none⟩ = some (.bool true) := hf11.s.cell (i := 7) (by omega)
  have hc8 : w11.cell? ⟨bF, 8, none⟩ = some (.slice (some ⟨w.heap.size + 1, 0, none⟩) 16 16) := hf11.s.cell (i := 8) (by omega)
  have hc9 : w11.cell? ⟨bF, 9, none⟩ = some (.int .i64 xs.length) := hf11.s.cell (i := 9) (by omega)
  have hv0 : Fin w.heap.size (n0 + 1) gC gD bF w A P F φ xs.length x' (w11.alloc (.cells #[.int .u64 φ, .slice (some ⟨w.heap.size, 0, none⟩) (n0 + 1) (n0 + 1), .bool true, .slice (some ⟨w.heap.size + 1, 0, none⟩) 16 16, .int .i64 xs.length] 37)) := hf11.grown (World.grownBy_alloc w11 _ none) hbF (by simp)
  have gv0 : (w11.alloc (.cells #[.int .u64 φ, .slice (some ⟨w.heap.size, 0, none⟩) (n0 + 1) (n0 + 1), .bool true, .slice (some ⟨w.heap.size + 1, 0, none⟩) 16 16, .int .i64 xs.length] 37)).cell? ⟨w11.heap.size, 3, none⟩ = some (.slice (some ⟨w.heap.size + 1, 0, none⟩) 16 16) := by simp
  go_wp2_with fail
  refine (equal_u32_same w.heap.size gC (n0 + 1) (n0 + 1) cC A _ (by omega) (fun j hj => hv0.cop.arr.cell hj) hv0.cop.arrC).mono ?_
  rintro e v1 ⟨rfl, m, hw⟩
  have hv1 := hv0.drewN m
  have gv1 : v1.cell? ⟨w11.heap.size, 3, none⟩ = some (.slice (some ⟨w.heap.size + 1, 0, none⟩) 16 16) := by rw [hw]; exact gv0
  rw [← hw] at hv1
  clear hv0 gv0 hw
  clear hc0 hc1 hc2 hc3 hc4 hc5 hc6 hc7 hc8 hc9 hf11
  go_wp2_with fail
  refine (equal_u32_same w.heap.size gC (n0 + 1) (n0 + 1) cC A _ (by omega) (fun j hj => hv1.cop.arr.cell hj) hv1.cop.arrC).mono ?_
  rintro e v2 ⟨rfl, m, hw⟩
  have hv2 := hv1.drewN m
  have gv2 : v2.cell? ⟨w11.heap.size, 3, none⟩ = some (.slice (some ⟨w.heap.size + 1, 0, none⟩) 16 16) := by rw [hw]; exact gv1
  rw [← hw] at hv2
  clear hv1 gv1 hw
  go_wp2_with fail
  refine (equal_slots (w.heap.size + 1) gD 16 cD P F _ hv2.cop.tab hv2.cop.tabC).mono ?_
  rintro e v3 ⟨rfl, m, hw⟩
  have hv3 := hv2.drewN m
  have gv3 : v3.cell? ⟨w11.heap.size, 3, none⟩ = some (.slice (some ⟨w.heap.size + 1, 0, none⟩) 16 16) := by rw [hw]; exact gv2
  rw [← hw] at hv3
  clear hv2 gv2 hw
  go_wp2_with fail
  refine (equal_slots (w.heap.size + 1) gD 16 cD P F _ hv3.cop.tab hv3.cop.tabC).mono ?_
  rintro e v4 ⟨rfl, m, hw⟩
  have hv4 := hv3.drewN m
  have gv4 : v4.cell? ⟨w11.heap.size, 3, none⟩ = some (.slice (some ⟨w.heap.size + 1, 0, none⟩) 16 16) := by rw [hw]; exact gv3
  rw [← hw] at hv4
  clear hv3 gv3 hw
  go_wp2
  go_ret
  exact ⟨rfl, hv4.cop.below⟩
end Go.Proofs.YbulkezdaDoor
