/-
  THE LAW FROM want ON, AS FAR AS rose.
-/
import Derived.Test.YbulkezdaDoorPartD
import Derived.Deep.DeepCutAuto
namespace Go.Proofs.YbulkezdaDoor
open Go.ChangeShapes Go.WideShapes Go.ChangeAt Go.RowKit

theorem addB_none (z : List Int) (p : Int) (h : z.length = 0) : addB true z p = true := by
  obtain rfl : z = [] := List.eq_nil_of_length_eq_zero h
  rfl
theorem addB_more (z : List Int) (p : Int) (h : z.length ≠ 0) : addB true z p = (z.getD (z.length - 1) 0 != p) := by
  have : z.isEmpty = false := by
    cases z with
    | nil => exact absurd rfl h
    | cons _ _ => rfl
  simp only [addB, this, Bool.true_and, Bool.false_or]

set_option maxHeartbeats 1600000 in
set_option maxRecDepth 100000 in
theorem part_c (u0 u2 u3 u4 u5 u6 u7 u8 u9 u10 u11 u12 u13 u19 u20 u21 u22 u27 u28 u29 u30 u31 u32 u33 u34 u35 u36 u37 u38 u39 u40 u41 u42 u43 u44 u45 u46 u47 u48 u49 u50 u51 u52 u53 u54 u55 u56 u57 u58 u59 u60 u61 u62 u63 u64 u65 u66 u67 u68 u69 u70 u71 u72 u73 u74 u75 u76 u77 u78 u79 u80 u81 u82 u83 u84 u85 u86 u87 u88 u89 u90 u91 u92 u93 u94 u95 u96 u97 u98 u99 u100 u101 u102 u103 u104 u105 u106 u107 u108 u109 u110 u111 u112 u113 u114 u115 u116 u117 u118 u119 u120 u121 u122 u123 u124 u125 u126 u127 u128 u129 u130 u131 u132 u133 u134 u135 u136 u137 u138 u139 u140 u141 u142 u143 u144 u145 u146 u147 u148 u149 u150 u151 u152 u153 u154 u155 u156 u157 u158 u159 u160 u161 u162 u163 u164 u165 u166 u167 u168 u169 u170 u171 u172 u173 u174 u175 u176 u177 u178 u179 u180 u181 u182 u183 u184 u185 u186 u187 u188 u189 u190 u191 u192 u193 u194 u195 u196 u197 u198 u199 u200 u201 u202 u203 u204 u205 u206 u207 u208 u209 u210 u211 u212 u213 u214 u215 u216 u217 u218 u219 u220 u221 u222 u223 u224 u225 u226 u227 u228 u229 u230 u231 u232 u233 u234 u235 u236 u237 u238 u239 u240 u241 u242 u243 u244 u245 u246 u247 u248 u249 u250 u251 u252 u253 u254 u255 u256 u257 u258 u259 u260 u261 u262 u263 u264 u265 u266 : Value) (n0 c1 gC gD bF cC cD cap base : Nat) (a a1 a' : Option Addr) (cap' : Nat) (p φ : Int) (xs z1 : List Int) (A P F : Nat → Int) (w wr : World)
    (l0 : n0 ≤ 1048576) (l1 : z1.length ≤ 1048576) (r1 : Rd .i64 w a1 z1.length z1) (hnil1 : a1 = none → c1 = 0) (hp0 : 0 ≤ p) (hp1 : p < (n0 : Int) + 1) (htz : w.cell? ⟨2, 15, none⟩ = some (.int .u8 4)) (hA : ∀ i, 0 ≤ A i ∧ A i ≤ 4294967295) (hP : ∀ i, -2147483648 ≤ P i ∧ P i ≤ 2147483647) (hF : ∀ i, 0 ≤ F i ∧ F i ≤ 4294967295) (ht : Tbl P F xs) (hx8 : xs.length ≤ 8) (hφ : 0 ≤ φ ∧ φ ≤ 18446744073709551615)
    (hbF : w.heap.size + 2 ≤ bF ∧ gC < bF ∧ gD < bF) (hbase : w.heap.size + 2 ≤ base ∧ gC < base ∧ gD < base) (hbs : base ≤ bF) (hs6 : wr.heap.size = bF + 1) (hne : (Value.slice a' z1.length cap').ownBlock ≠ some bF)
    (hfin : Fin w.heap.size (n0 + 1) gC gD bF w A P F φ xs.length (.slice a' z1.length cap') wr) (hown : wr.ownsRow base 3 1 (.slice a' z1.length cap') z1.length (z1.map (.int .i64))) :
    Code.wp Ybad.prog ((Ybad.f3.body.bind (tailAt 31)).getD .skip) (bodyPost Ybad.prog Ybad.f3 fun e w' => e = .returned (.bool true) ∧ Below w.heap.size w w')
      ⟨#[u0, .slice a1 z1.length c1, u2, u3, u4, u5, u6, u7, u8, u9, u10, u11, u12, u13, .slice (some ⟨w.heap.size, 0, none⟩) (n0 + 1) (n0 + 1), .int .i64 p, .slice (some ⟨w.heap.size + 1, 0, none⟩) 16 16, .slice a xs.length cap, .int .u64 φ, u19, u20, u21, u22, .slice (some ⟨gC, 0, none⟩) (n0 + 1) cC, .slice (some ⟨gD, 0, none⟩) 16 cD, .pointer (some ⟨bF, 0, none⟩), .bool (hasB A xs φ p), u27, u28, u29, u30, u31, u32, u33, u34, u35, u36, u37, u38, u39, u40, u41, u42, u43, u44, u45, u46, u47, u48, u49, u50, u51, u52, u53, u54, u55, u56, u57, u58, u59, u60, u61, u62, u63, u64, u65, u66, u67, u68, u69, u70, u71, u72, u73, u74, u75, u76, u77, u78, u79, u80, u81, u82, u83, u84, u85, u86, u87, u88, u89, u90, u91, u92, u93, u94, u95, u96, u97, u98, u99, u100, u101, u102, u103, u104, u105, u106, u107, u108, u109, u110, u111, u112, u113, u114, u115, u116, u117, u118, u119, u120, u121, u122, u123, u124, u125, u126, u127, u128, u129, u130, u131, u132, u133, u134, u135, u136, u137, u138, u139, u140, u141, u142, u143, u144, u145, u146, u147, u148, u149, u150, u151, u152, u153, u154, u155, u156, u157, u158, u159, u160, u161, u162, u163, u164, u165, u166, u167, u168, u169, u170, u171, u172, u173, u174, u175, u176, u177, u178, u179, u180, u181, u182, u183, u184, u185, u186, u187, u188, u189, u190, u191, u192, u193, u194, u195, u196, u197, u198, u199, u200, u201, u202, u203, u204, u205, u206, u207, u208, u209, u210, u211, u212, u213, u214, u215, u216, u217, u218, u219, u220, u221, u222, u223, u224, u225, u226, u227, u228, u229, u230, u231, u232, u233, u234, u235, u236, u237, u238, u239, u240, u241, u242, u243, u244, u245, u246, u247, u248, u249, u250, u251, u252, u253, u254, u255, u256, u257, u258, u259, u260, u261, u262, u263, u264, u265, u266], []⟩ wr := by
  have R1 := hide r1
  have HC := hide (show (∀ i, 0 ≤ A i ∧ A i ≤ 4294967295) ∧ (∀ i, -2147483648 ≤ P i ∧ P i ≤ 2147483647) ∧ (∀ i, 0 ≤ F i ∧ F i ≤ 4294967295) ∧ Tbl P F xs from ⟨hA, hP, hF, ht⟩)
  have hxb : ∀ k, (Value.slice a' z1.length cap').ownBlock = some k → k < bF + 1 := fun k hk => by have := hown.lt k hk; omega
  have HXB := hide hxb
  clear r1 hA hP hF ht hxb
  generalize hH : hasB A xs φ p = H
  have HH := hide hH
  clear hH
  conv => arg 2; whnf
  go_wp2_with fail
  refine (clone_watch a1 z1.length c1 w.heap.size z1 w _ R1.out hnil1 hfin.cop.below rfl l1).mono ?_
  rintro e w7 ⟨a2, cap2, rfl, ho7, hg7⟩
  have hfin7 := hfin.grown hg7 hbF (by simp)
  have ho67 := own_kept hown hg7
  have hs7 := hg7.size
  rw [hs6] at ho7
  clear hfin hown hg7
  go_upto_region 32 with fail
  go_cut [173] from 158 to 173 (fun s173 w8 => s173 = .bool (addB H z1 p) ∧ w8 = w7)
  case first =>
    cases H with
    | false =>
      go_wp2
      go_meet
      case rel => exact ⟨rfl, rfl⟩
    | true =>
      by_cases hz : z1.length = 0
      · have hz' : ((z1.length : Int) == 0) = true := by simp [hz]
        have HA : Hid (addB true z1 p = true) := addB_none z1 p hz
        clear hz
        go_wp2
        go_meet
        case rel => exact ⟨by rw [HA.out], rfl⟩
      · have hz' : ((z1.length : Int) == 0) = false := by rw [beq_eq_false_iff_ne]; omega
        obtain ⟨b1, off1, rfl, hc1⟩ := rd_val R1.out hfin7.cop.below rfl (show z1.length - 1 < z1.length by omega)
        have HA : Hid (addB true z1 p = (z1.getD (z1.length - 1) 0 != p)) := addB_more z1 p hz
        have hpos : 1 ≤ z1.length := by omega
        clear hz
        go_wp2
        go_meet
        case rel => exact ⟨by rw [HA.out]; simp, rfl⟩
  case rest =>
    obtain ⟨rfl, rfl⟩ := hcut
    generalize hD : addB H z1 p = D
    have HD := hide hD
    clear hD
    go_upto_if 173 with fail
    rename_i hK
    go_cut [27] from 174 to 177 (fun s27 w9 => ∃ vW, s27 = vW ∧ Fin w.heap.size (n0 + 1) gC gD bF w A P F φ xs.length (.slice a' z1.length cap') w9 ∧ w9.ownsRow base 3 1 (.slice a' z1.length cap') z1.length (z1.map (.int .i64)) ∧ bF + 1 ≤ w9.heap.size ∧ Want bF vW (if D = true then z1 ++ [p] else z1) w9)
    case first =>
      cases D with
      | false =>
        go_wp2
        go_meet
        case rel => exact ⟨_, rfl, hfin7, ho67, by omega, want_of ho7 (by omega)⟩
      | true =>
        have HO := hide ho7
        obtain ⟨i0, hi, hz0, hz1, hz2⟩ := info_parts Ybad.info3
        go_wp2_with (at_builtin; (refine wpList_append_own _ rfl (.tmp 174) (.tmp 176) 23 rfl (bF + 1) 3 i0 (.int .i64 0) 1 8 Ybad.underlying23 hi hz0 hz1 hz2 rfl (by decide) (.slice a2 z1.length cap2) z1.length (z1.map (.int .i64)) rfl (HO.out.alloc _) ⟨wc.heap.size, 0, none⟩ 1 1 [.int .i64 p] rfl rfl (new_one _ _ (by simp)) (fun u hu => by simp at hu; subst hu; rfl) (by unfold maxLen; omega) (by omega) (by simp; omega) ?_); intro v' w9 hown' hgrow hnn)
        go_meet
        case rel =>
          have hw := want_added hfin7 hbF ho67 HXB.out (by omega) ho7 hgrow hown'
          exact ⟨v', rfl, hw.1, hw.2.1, by omega, hw.2.2.1⟩
    case rest =>
      obtain ⟨vW, rfl, hf9, ho9, hs9, hw9⟩ := hcut
      refine hK _ _ ?_
      obtain ⟨hA, hP, hF, ht⟩ := HC.out
      rw [← HD.out, ← HH.out] at hw9
      exact part_d _ _ _ _ _ _ _ _ _ _ _ _ _ _ _ _ _ _ _ _ _ _ _ _ _ _ _ _ _ _ _ _ _ _ _ _ _ _ _ _ _ _ _ _ _ _ _ _ _ _ _ _ _ _ _ _ _ _ _ _ _ _ _ _ _ _ _ _ _ _ _ _ _ _ _ _ _ _ _ _ _ _ _ _ _ _ _ _ _ _ _ _ _ _ _ _ _ _ _ _ _ _ _ _ _ _ _ _ _ _ _ _ _ _ _ _ _ _ _ _ _ _ _ _ _ _ _ _ _ _ _ _ _ _ _ _ _ _ _ _ _ _ _ _ _ _ _ _ _ _ _ _ _ _ _ _ _ _ _ _ _ _ _ _ _ _ _ _ _ _ _ _ _ _ _ _ _ _ _ _ _ _ _ _ _ _ _ _ _ _ _ _ _ _ _ _ _ _ _ _ _ _ _ _ _ _ _ _ _ _ _ _ _ _ _ _ _ _ _ _ _ _ _ _ _ _ _ _ _ _ _ _ _ _ _ _ _ _ _ _ _ _ _ _ _ _ _ _ _ _ _ _ _ _ _ _ _ _ n0 gC gD bF cC cD cap base a a' cap' p φ xs z1 A P F _ w _ l0 l1 hp0 hp1 htz hA hP hF ht hx8 hφ hbF hbase (by omega) hne HXB.out hf9 ho9 hw9
end Go.Proofs.YbulkezdaDoor
