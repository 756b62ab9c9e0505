/-
  THE LAW's LONG WAY: all four lengths within 2^20.
-/
import Derived.Test.YbulkezdaDoorPartB
import Derived.Deep.CutBlock
namespace Go.Proofs.YbulkezdaDoor
open Go.ChangeShapes Go.WideShapes Go.ChangeAt Go.RowKit

set_option maxHeartbeats 1600000 in
set_option maxRecDepth 100000 in
theorem law_long (a0 a1 a3 a4 : Option Addr) (n0 n1 n3 n4 c0 c1 c3 c4 : Nat) (pr ex : Int) (z0 z1 z3 z4 : List Int) (w : World)
    (l0 : n0 ≤ 1048576) (l1 : n1 ≤ 1048576) (l3 : n3 ≤ 1048576) (l4 : n4 ≤ 1048576) (r0 : Rd .u32 w a0 n0 z0) (r1 : Rd .i64 w a1 n1 z1) (r3 : Rd .u64 w a3 n3 z3) (r4 : Rd .u32 w a4 n4 z4)
    (hpr : 0 ≤ pr ∧ pr ≤ 18446744073709551615) (hex : 0 ≤ ex ∧ ex ≤ 18446744073709551615) (htz : w.cell? ⟨2, 15, none⟩ = some (.int .u8 4)) (hnil1 : a1 = none → c1 = 0) :
    Calls Ybad.prog 3 #[.slice a0 n0 c0, .slice a1 n1 c1, .int .u64 pr, .slice a3 n3 c3, .slice a4 n4 c4, .int .u64 ex] w fun e w' => e = .returned (.bool true) ∧ Below w.heap.size w w' := by
  have hl1 := r1.1
  subst hl1
  have HAB := hide (arrOf_bound z0 r0.2.1)
  obtain ⟨w1, hcp, hA, hB, hS⟩ := copy_arr a0 n0 c0 z0 w r0 l0
  have hmk : ∀ w : World, (Instr.makeSlice 22 (.int .i64 ((n0 : Int) + 1)) (.int .i64 ((n0 : Int) + 1))).run Ybad.prog w = .ok (.slice (some ⟨w.heap.size, 0, none⟩) (n0 + 1) (n0 + 1)) (w.alloc (.cells (madeCells #[.int .u32 0] (n0 + 1)) 29)) :=
    run_make_row' (P := Ybad.prog) 22 29 (.int .u32 0) 4 Ybad.underlying22 Ybad.info29 rfl .i64 .i64 (n0 + 1) (by omega) (by omega)
  have hmk2 : ∀ w : World, (Instr.makeSlice 27 (.int .i64 16) (.int .i64 16)).run Ybad.prog w = .ok (.slice (some ⟨w.heap.size, 0, none⟩) 16 16) (w.alloc (.cells (madeCells #[.int .i32 0, .int .u32 0] 32) 32)) := by
    intro w
    obtain ⟨i0, hi, hz0, hz1, hz2⟩ := info_parts Ybad.info32
    have := run_make (P := Ybad.prog) w 27 32 i0 (.agg #[.int .i32 0, .int .u32 0]) Ybad.underlying27 hi hz0 .i64 .i64 16 16 (by omega) (Int.le_refl _) (by rw [hz2]; decide) (by omega)
    simp only [hz1] at this
    exact this
  have R1 := hide r1
  have R3 := hide r3
  have R4 := hide r4
  have hp0 : 0 ≤ pr % ((n0 : Int) + 1) := Int.emod_nonneg _ (by omega)
  have hp1 : pr % ((n0 : Int) + 1) < (n0 : Int) + 1 := Int.emod_lt_of_pos _ (by omega)
  clear r0 r1 r3 r4
  go_enter Ybad.func3, Ybad.ntmps3
  go_upto_block 0 with fail
  rename_i hK
  go_cut [17, 18, 19] from 62 to 126 (fun s17 s18 s19 w2 => ∃ (a : Option Addr) (cap : Nat) (xs : List Int) (P F : Nat → Int) (φ k : Int), s17 = .slice a xs.length cap ∧ s18 = .int .u64 φ ∧ s19 = .int .i64 k ∧ (0 ≤ φ ∧ φ ≤ 18446744073709551615) ∧ St w.heap.size (n0 + 1) w (arrOf z0) P F xs (.slice a xs.length cap) w2)
  case first =>
    clear hmk hmk2 hcp
    go_wp2
    go_loopg [17, 18, 19] n3 (fun g s17 s18 s19 w2 => ∃ (k : Nat) (a : Option Addr) (cap : Nat) (xs : List Int) (P F : Nat → Int) (φ : Int), k + g = n3 ∧ s17 = .slice a xs.length cap ∧ s18 = .int .u64 φ ∧ s19 = .int .i64 k ∧ (0 ≤ φ ∧ φ ≤ 18446744073709551615) ∧ St w.heap.size (n0 + 1) w (arrOf z0) P F xs (.slice a xs.length cap) w2)
    case atStart => exact ⟨0, none, 0, [], _, _, ex, by omega, rfl, rfl, rfl, hex, St.start hB hS hA _ rfl⟩
    case round =>
      clear hA hB hS hex
      obtain ⟨k, a, cap, xs, P, F, φ, hk, rfl, rfl, rfl, hφ, hst⟩ := hrel
      by_cases hc : k < n3 ∧ xs.length < 8
      · obtain ⟨hk3, hx8⟩ := hc
        obtain ⟨t, htc, htb⟩ : ∃ t, (∃ b off, a3 = some ⟨b, off, none⟩ ∧ wr.cell? ⟨b, off + k, none⟩ = some (.int .u64 t)) ∧ 0 ≤ t ∧ t ≤ 18446744073709551615 := rd_at R3.out hst.below rfl hk3 (fun _ h => bounds_u64 h)
        obtain ⟨b3, off3, rfl, hc3⟩ := htc
        have hq0 : 0 ≤ t % ((n0 : Int) + 1) := Int.emod_nonneg _ (by omega)
        have hq1 : t % ((n0 : Int) + 1) < (n0 : Int) + 1 := Int.emod_lt_of_pos _ (by omega)
        have hhold := holds_of hst.tp
        by_cases hm : xs.contains (t % ((n0 : Int) + 1)) = true
        · go_wp2_with (go_at_call 5; refine (contains_any _ xs _ _ (by omega) hhold).mono ?_; rw [hm]; rintro e w' ⟨rfl, rfl⟩)
          go_roundg (gk - 1)
          case measure => omega
          case rel => exact ⟨k + 1, a, cap, xs, P, F, φ, by omega, rfl, rfl, by go_num, hφ, hst⟩
        · have hm' : xs.contains (t % ((n0 : Int) + 1)) = false := by simpa using hm
          clear hm
          go_upto_region 16 with (go_at_call 5; refine (contains_any _ xs _ _ (by omega) hhold).mono ?_; rw [hm']; rintro e w' ⟨rfl, rfl⟩)
          go_cut [94] from 84 to 94 (fun s94 w2 => w2 = w' ∧ ∃ β : Bool, s94 = .bool β ∧ (β = true → k < n4 ∧ ∃ b off u, a4 = some ⟨b, off, none⟩ ∧ w'.cell? ⟨b, off + k, none⟩ = some (.int .u32 u) ∧ 1 ≤ u ∧ u ≤ 4294967295))
          case first =>
            by_cases hk4 : k < n4
            · obtain ⟨u, ⟨b4, off4, rfl, hc4⟩, hub⟩ := rd_at R4.out hst.below rfl hk4 (fun _ h => bounds_u32 h)
              by_cases hu : u = 0
              · subst hu
                go_wp2
                go_meet
                case rel => exact ⟨rfl, false, rfl, fun h => by cases h⟩
              · have hu' : (u != 0) = true := by simpa using hu
                go_wp2
                go_meet
                case rel => exact ⟨rfl, true, rfl, fun _ => ⟨hk4, b4, off4, u, rfl, hc4, by omega, by omega⟩⟩
            · have hk4' : decide ((k : Int) < (n4 : Int)) = false := decide_eq_false (by omega)
              go_wp2
              go_meet
              case rel => exact ⟨rfl, false, rfl, fun h => by cases h⟩
          case rest =>
            obtain ⟨rfl, β, rfl, hβ⟩ := hcut
            go_upto_if 94 with fail
            go_cut [21] from 95 to 98 (fun s21 w2 => w2 = wc ∧ ∃ v : Int, s21 = .int .u32 v ∧ 1 ≤ v ∧ v ≤ 4294967295)
            case first =>
              cases β
              · go_wp2
                go_meet
                case rel => exact ⟨rfl, 1, rfl, by omega, by omega⟩
              · obtain ⟨hk4, b4, off4, u, rfl, hc4, hu1, hu2⟩ := hβ rfl
                go_wp2
                go_meet
                case rel => exact ⟨rfl, u, rfl, hu1, hu2⟩
            case rest =>
              clear hβ
              obtain ⟨rfl, v, rfl, hv1, hv2⟩ := hcut
              go_wp2_with (go_at_call 6; refine (home_law _ hq0 (by omega) _).mono ?_; rintro e w' ⟨rfl, rfl⟩)
              obtain ⟨d, hd, hz, hno⟩ := hst.tbl.place (by omega) (t % ((n0 : Int) + 1))
              have HZ := hide hz
              have HN := hide hno
              clear hz hno
              go_loopg [22] d (fun g i w2 => ∃ d0 : Nat, d0 + g = d ∧ i = .int .i64 (((hm (t % ((n0 : Int) + 1)) + d0) % 16 : Nat) : Int) ∧ w2 = w')
              case atStart => exact ⟨0, by omega, by rw [show (hm (t % ((n0 : Int) + 1)) + 0) % 16 = hm (t % ((n0 : Int) + 1)) by have := hm_lt (t % ((n0 : Int) + 1)); omega], rfl⟩
              case round =>
                obtain ⟨d0, hd0, rfl, rfl⟩ := hrel
                obtain ⟨s, hsl⟩ : ∃ s, s = (hm (t % ((n0 : Int) + 1)) + d0) % 16 := ⟨_, rfl⟩
                have hs16 : s < 16 := by omega
                have hcp := slot_payer hst.tab hs16
                have hcf := slot_floor hst.tab hs16
                rw [← hsl]
                by_cases hlt : d0 < d
                · have hg := HN.out d0 hlt
                  rw [← hsl] at hg
                  have g1 : (F s != 0) = true := by simpa using hg
                  have ha15 := and15 ((s : Int) + 1) (by omega) (by omega)
                  have HSL := hide hsl
                  clear hsl hg
                  go_wp2
                  go_roundg (gk - 1)
                  case measure => omega
                  case rel => exact ⟨d0 + 1, by omega, by rw [show (((hm (t % ((n0 : Int) + 1)) + (d0 + 1)) % 16 : Nat) : Int) = ((s : Int) + 1) % 16 by have := HSL.out; omega], rfl⟩
                · obtain rfl : d0 = d := by omega
                  have hg := HZ.out
                  rw [← hsl] at hg
                  have g1 : (F s != 0) = false := by simp [hg]
                  have HSL := hide hsl
                  have hfp := hst.tab.frozen (s * 2)
                  have hff := hst.tab.frozen (s * 2 + 1)
                  clear hsl hg
                  have ha63 := and63u (t % ((n0 : Int) + 1)) hq0 (by omega)
                  have hsz := hst.size
                  have ho2 := hst.own2 (s * 2) (s * 2 + 1) (.int .i32 (t % ((n0 : Int) + 1))) (.int .u32 v)
                  have HO := hide ho2
                  clear ho2
                  obtain ⟨i0, hi, hz0, hz1, hz2⟩ := info_parts Ybad.info3
                  go_wp2_with (at_builtin; (refine wpList_append_own _ rfl (.tmp 117) (.tmp 119) 23 rfl (w.heap.size + 2) 3 i0 (.int .i64 0) 1 8 Ybad.underlying23 hi hz0 hz1 hz2 rfl (by decide) (.slice a xs.length cap) xs.length (xs.map (.int .i64)) rfl (HO.out.alloc _) ⟨wr.heap.size, 0, none⟩ 1 1 [.int .i64 (t % ((n0 : Int) + 1))] rfl rfl (new_one _ _ (by simp)) (fun u hu => by simp at hu; subst hu; rfl) (by unfold maxLen; omega) (by omega) (by simp; omega) ?_); intro v' w3 hown' hgrow hnn; obtain ⟨g', cap', hs, hb', hlt'⟩ := own_shape hown' (fun e => by have := (hnn.1 e).2; omega); rw [hs])
                  rw [hs] at hown'
                  go_roundg (n3 - (k + 1))
                  case measure => omega
                  case rel => exact ⟨k + 1, _, cap', xs ++ [t % ((n0 : Int) + 1)], _, _, _, by omega, by rw [List.length_append]; rfl, rfl, by go_num, or_bound _ _, by rw [List.length_append]; exact hst.step (t % ((n0 : Int) + 1)) v s _ hx8 ⟨hq0, by omega⟩ ⟨hv1, hv2⟩ d0 hd HSL.out HZ.out HN.out hgrow hown'⟩
      · by_cases hk3 : k < n3
        · have hx8 : ¬ xs.length < 8 := fun h => hc ⟨hk3, h⟩
          clear hc
          go_wp2
          go_meet
          case rel => exact ⟨a, cap, xs, P, F, φ, k, rfl, rfl, rfl, hφ, hst⟩
        · clear hc
          go_wp2
          go_meet
          case rel => exact ⟨a, cap, xs, P, F, φ, k, rfl, rfl, rfl, hφ, hst⟩
  case rest =>
    clear hcp hmk hmk2 hA hB hS hex
    obtain ⟨a, cap, xs, P, F, φ, k, rfl, rfl, rfl, hφ, hst⟩ := hcut
    refine hK _ _ ?_
    exact part_b _ _ _ _ _ _ _ _ _ _ _ _ _ _ _ _ _ _ _ _ _ _ _ _ _ _ _ _ _ _ _ _ _ _ _ _ _ _ _ _ _ _ _ _ _ _ _ _ _ _ _ _ _ _ _ _ _ _ _ _ _ _ _ _ _ _ _ _ _ _ _ _ _ _ _ _ _ _ _ _ _ _ _ _ _ _ _ _ _ _ _ _ _ _ _ _ _ _ _ _ _ _ _ _ _ _ _ _ _ _ _ _ _ _ _ _ _ _ _ _ _ _ _ _ _ _ _ _ _ _ _ _ _ _ _ _ _ _ _ _ _ _ _ _ _ _ _ _ _ _ _ _ _ _ _ _ _ _ _ _ _ _ _ _ _ _ _ _ _ _ _ _ _ _ _ _ _ _ _ _ _ _ _ _ _ _ _ _ _ _ _ _ _ _ _ _ _ _ _ _ _ _ _ _ _ _ _ _ _ _ _ _ _ _ _ _ _ _ _ _ _ _ _ _ _ _ _ _ _ _ _ _ _ _ _ _ _ _ _ _ _ _ _ _ _ _ _ _ _ _ _ _ _ _ _ _ _ _ _ _ _ n0 c1 cap a a1 (pr % ((n0 : Int) + 1)) φ xs z1 (arrOf z0) P F w _ l0 l1 R1.out hnil1 hp0 hp1 htz HAB.out hφ hst
end Go.Proofs.YbulkezdaDoor
