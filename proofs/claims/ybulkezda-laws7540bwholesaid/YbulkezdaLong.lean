/-
  THE LAW's LONG WAY: from one element to 2^20. The nine loops one behind the other. 'maxHeartbeats': one walk through nine loops.
-/
import Derived.Test.YbulkezdaState
import Derived.Deep.DeepCutAuto
import Derived.Deep.LoopGhost
import Derived.Deep.QuietTactic
import Derived.BigQuiet
namespace Go.Proofs.Ybulkezda
open Go.RowKit

set_option maxHeartbeats 1600000 in
set_option maxRecDepth 100000 in
theorem law_some (b off n cap W : Nat) (z : List Int) (w : World) (hn : 1 ≤ n) (hn' : n ≤ 1048576) (hcap : n ≤ cap) (hW1 : 64 * W < n + 64) (hW2 : n ≤ 64 * W) (hb : b < w.heap.size) (hv : ∀ k, k < n → w.cell? ⟨b, off + k, none⟩ = some (.int .i64 (z.getD k 0))) :
    Calls Yba.prog 3 #[.slice (some ⟨b, off, none⟩) n cap] w fun e w' => e = .returned (.bool true) ∧ Below w.heap.size w w' := by
  have HV := hide hv
  clear hv
  have hmk := run_make_row' (P := Yba.prog) 22 3 (.int .i64 0) 8 Yba.underlying22 Yba.info3 rfl .i64 .i64 n (by omega) (by omega)
  go_enter Yba.func3, Yba.ntmps3
  go_wp2
  go_loopg [5] n (fun g i wr => ∃ k : Nat, k + g = n ∧ i = .int .i64 k ∧ Or z n w.heap.size w k wr)
  case atStart => exact ⟨0, by omega, rfl, Or.start z n w⟩
  case round =>
    obtain ⟨k, hk, rfl, hor⟩ := hrel
    by_cases hlt : k < n
    · have hc1 : wr.cell? ⟨b, off + k, none⟩ = some (.int .i64 (z.getD k 0)) := (hor.below.cell hb).trans (HV.out k hlt)
      have hc2 := hor.row.cell hlt
      have hf2 := hor.row.frozen k
      go_wp2
      go_roundg (gk - 1)
      case measure => omega
      case rel => exact ⟨k + 1, by omega, by go_num, hor.step⟩
    · obtain rfl : k = n := by omega
      clear hk hmk
      go_wp2_with fail
      refine (npp b off k cap W z wr hn hn' hcap hW1 hW2 (by have := hor.size; omega) (fun j hj => (hor.below.cell (p := ⟨b, off + j, none⟩) hb).trans (HV.out j hj))).mono ?_
      rintro e w2 ⟨rfl, hsz, hbl, htab⟩
      rw [hor.size] at *
      have hG := G.start hor (by omega) (by rw [hor.size]; exact hbl) (by rw [hor.size]; exact htab)
      go_upto_if 49 with fail
      go_cut [6, 7] from 43 to 51 (fun s6 s7 w3 => s6 = .pointer (some ⟨w.heap.size + 4 + W, 0, none⟩) ∧ s7 = .int .i64 (W : Int) ∧ G z k W w.heap.size w (val z k) w3)
      case first =>
        by_cases h64 : k % 64 = 0
        · go_wp2
          go_meet
          case rel => exact ⟨by rw [show w.heap.size + 1 + 3 + W = w.heap.size + 4 + W by omega], by go_num, hG⟩
        · go_wp2
          go_meet
          case rel => exact ⟨by rw [show w.heap.size + 1 + 3 + W = w.heap.size + 4 + W by omega], by go_num, hG⟩
      case rest =>
        clear hG hbl htab hor hsz
        obtain ⟨rfl, rfl, hG⟩ := hcut
        have hgc := hG.gotc
        go_wp2
        go_loopg [8] W (fun g i wr => ∃ i0 : Nat, i0 + g = W ∧ i = .int .i64 i0 ∧ G z k W w.heap.size w (val z k) wr)
        case atStart => exact ⟨0, by omega, rfl, hG⟩
        case round =>
          clear hG hgc
          obtain ⟨i0, hi0, rfl, hG⟩ := hrel
          have hgc := hG.gotc
          by_cases hi : i0 < W
          · have hpc := hG.ptrc hi
            go_wp2
            go_loopg [10] 64 (fun g j wr => ∃ j0 : Nat, j0 + g = 64 ∧ j = .int .i64 j0 ∧ G z k W w.heap.size w (val z k) wr)
            case atStart => exact ⟨0, by omega, rfl, hG⟩
            case round =>
              clear hG hgc hpc
              obtain ⟨j0, hj0, rfl, hG⟩ := hrel
              by_cases hj : j0 < 64
              · have hac := hG.arrc hi hj
                by_cases hkn : i0 * 64 + j0 < k
                · have hoc := hG.origc hkn
                  have hval : val z k i0 j0 = z.getD (i0 * 64 + j0) 0 := by simp [val, hkn]
                  rw [hval] at hac
                  clear hval
                  go_wp2
                  go_roundg (gk - 1)
                  case measure => omega
                  case rel => exact ⟨j0 + 1, by omega, by go_num, hG⟩
                · have hval : val z k i0 j0 = 0 := by simp [val, hkn]
                  rw [hval] at hac
                  clear hval
                  go_wp2
                  go_roundg (gk - 1)
                  case measure => omega
                  case rel => exact ⟨j0 + 1, by omega, by go_num, hG⟩
              · go_wp2
                go_roundg (W - (i0 + 1))
                case measure => omega
                case rel => exact ⟨i0 + 1, by omega, by go_num, hG⟩
          · clear hi0 hgc
            go_wp2
            go_loopg [13] k (fun g i wr => ∃ k0 : Nat, k0 + g = k ∧ i = .int .i64 k0 ∧ G z k W w.heap.size w (val z k) wr)
            case atStart => exact ⟨0, by omega, rfl, hG⟩
            case round =>
              clear hG
              obtain ⟨k0, hk0, rfl, hG⟩ := hrel
              by_cases hk : k0 < k
              · have hoc := hG.origc hk
                have hvc : wr.cell? ⟨b, off + k0, none⟩ = some (.int .i64 (z.getD k0 0)) := (hG.below.cell hb).trans (HV.out k0 hk)
                go_wp2
                go_quiet (fail)
                go_wp2
                go_roundg (gk - 1)
                case measure => omega
                case rel => exact ⟨k0 + 1, by omega, by go_num, hG.drewN⟩
              · clear hk0
                have hG : G z k W w.heap.size w (mkd z k 0 0) wr := hG.congr fun i j _ _ => by simp [mkd]
                go_wp2
                go_loopg [14] W (fun g i wr => ∃ i1 : Nat, i1 + g = W ∧ i = .int .i64 i1 ∧ G z k W w.heap.size w (mkd z k i1 0) wr)
                case atStart => exact ⟨0, by omega, rfl, hG⟩
                case round =>
                  clear hG
                  obtain ⟨i1, hi1, rfl, hG⟩ := hrel
                  have hgc := hG.gotc
                  by_cases hi' : i1 < W
                  · have hpc := hG.ptrc hi'
                    go_wp2
                    go_loopg [16] 64 (fun g j wr => ∃ j1 : Nat, j1 + g = 64 ∧ j = .int .i64 j1 ∧ G z k W w.heap.size w (mkd z k i1 j1) wr)
                    case atStart => exact ⟨0, by omega, rfl, hG⟩
                    case round =>
                      clear hG hgc hpc
                      obtain ⟨j1, hj1, rfl, hG⟩ := hrel
                      by_cases hj : j1 < 64
                      · have hac := hG.arrc hi' hj
                        have haf := hG.arrf hi' j1
                        by_cases hkn : i1 * 64 + j1 < k
                        · have hoc : ∀ v, (wr.setCell ⟨w.heap.size + 4 + i1, j1, none⟩ v).cell? ⟨w.heap.size, i1 * 64 + j1, none⟩ = some (.int .i64 (z.getD (i1 * 64 + j1) 0)) := fun v => (World.cell?_setCell_other _ _ _ _ (by simp)).trans (hG.origc hkn)
                          have hlt1 : (i1 : Int) * 64 + (j1 : Int) < (k : Int) := by omega
                          by_cases hm : z[i1 * 64 + j1]?.getD 0 = (i1 : Int) * 64 + j1 + 1
                          · have hmb : (z[i1 * 64 + j1]?.getD 0 == (i1 : Int) * 64 + j1 + 1) = true := by simp [hm]
                            have HM := hide hm
                            clear hm
                            go_wp2
                            go_quiet (fail)
                            go_wp2
                            go_roundg (gk - 1)
                            case measure => omega
                            case rel => exact ⟨j1 + 1, by omega, by go_num, hG.mark2 hi' _ _ (mark_yes z k i1 j1 hkn HM.out)⟩
                          · have hmb : (z[i1 * 64 + j1]?.getD 0 == (i1 : Int) * 64 + j1 + 1) = false := by simp [hm]
                            have HM := hide hm
                            clear hm
                            go_wp2
                            go_quiet (fail)
                            go_wp2
                            go_roundg (gk - 1)
                            case measure => omega
                            case rel => exact ⟨j1 + 1, by omega, by go_num, hG.mark1 hi' _ (mark_no z k i1 j1 HM.out)⟩
                        · have hlt1 : decide ((i1 : Int) * 64 + (j1 : Int) < (k : Int)) = false := decide_eq_false (by omega)
                          go_wp2
                          go_quiet (fail)
                          go_wp2
                          go_roundg (gk - 1)
                          case measure => omega
                          case rel => exact ⟨j1 + 1, by omega, by go_num, hG.mark1 hi' _ (mark_past z k i1 j1 hkn)⟩
                      · obtain rfl : j1 = 64 := by omega
                        go_wp2
                        go_roundg (W - (i1 + 1))
                        case measure => omega
                        case rel => exact ⟨i1 + 1, by omega, by go_num, hG.congr fun i' j' _ hj' => mkd_next z k i1 i' j' hj'⟩
                  · have hG : G z k W w.heap.size w (mark z k) wr := by
                      obtain rfl : i1 = W := by omega
                      exact hG.congr fun i' j' hi' _ => mkd_done z k i1 i' j' hi'
                    clear hi1 hgc
                    go_wp2
                    go_loopg [18] W (fun g i wr => ∃ i2 : Nat, i2 + g = W ∧ i = .int .i64 i2 ∧ G z k W w.heap.size w (mark z k) wr)
                    case atStart => exact ⟨0, by omega, rfl, hG⟩
                    case round =>
                      clear hG
                      obtain ⟨i2, hi2, rfl, hG⟩ := hrel
                      have hgc := hG.gotc
                      by_cases hi'' : i2 < W
                      · have hpc := hG.ptrc hi''
                        go_wp2
                        go_loopg [20] 64 (fun g j wr => ∃ j2 : Nat, j2 + g = 64 ∧ j = .int .i64 j2 ∧ G z k W w.heap.size w (mark z k) wr)
                        case atStart => exact ⟨0, by omega, rfl, hG⟩
                        case round =>
                          clear hG hgc hpc
                          obtain ⟨j2, hj2, rfl, hG⟩ := hrel
                          by_cases hj : j2 < 64
                          · have hac := hG.arrc hi'' hj
                            by_cases hkn : i2 * 64 + j2 < k
                            · have hoc := hG.origc hkn
                              have hlt1 : (i2 : Int) * 64 + (j2 : Int) < (k : Int) := by omega
                              by_cases hm : z[i2 * 64 + j2]?.getD 0 = (i2 : Int) * 64 + j2 + 1
                              · have hmb : (z[i2 * 64 + j2]?.getD 0 == (i2 : Int) * 64 + j2 + 1) = true := by simp [hm]
                                rw [← mark_yes z k i2 j2 hkn hm] at hac
                                clear hm
                                go_wp2
                                go_roundg (gk - 1)
                                case measure => omega
                                case rel => exact ⟨j2 + 1, by omega, by go_num, hG⟩
                              · have hmb : (z[i2 * 64 + j2]?.getD 0 == (i2 : Int) * 64 + j2 + 1) = false := by simp [hm]
                                rw [← mark_no z k i2 j2 hm] at hac
                                clear hm
                                go_wp2
                                go_roundg (gk - 1)
                                case measure => omega
                                case rel => exact ⟨j2 + 1, by omega, by go_num, hG⟩
                            · have hlt1 : decide ((i2 : Int) * 64 + (j2 : Int) < (k : Int)) = false := decide_eq_false (by omega)
                              rw [← mark_past z k i2 j2 hkn] at hac
                              go_wp2
                              go_roundg (gk - 1)
                              case measure => omega
                              case rel => exact ⟨j2 + 1, by omega, by go_num, hG⟩
                          · go_wp2
                            go_roundg (W - (i2 + 1))
                            case measure => omega
                            case rel => exact ⟨i2 + 1, by omega, by go_num, hG⟩
                      · clear hi2 hgc
                        go_wp2
                        go_loopg [23] k (fun g i wr => ∃ k3 : Nat, k3 + g = k ∧ i = .int .i64 k3 ∧ G z k W w.heap.size w (mark z k) wr)
                        case atStart => exact ⟨0, by omega, rfl, hG⟩
                        case round =>
                          clear hG
                          obtain ⟨k3, hk3, rfl, hG⟩ := hrel
                          by_cases hk : k3 < k
                          · have hoc := hG.origc hk
                            have hvc : wr.cell? ⟨b, off + k3, none⟩ = some (.int .i64 (z.getD k3 0)) := (hG.below.cell hb).trans (HV.out k3 hk)
                            go_wp2
                            go_quiet (fail)
                            go_wp2
                            go_roundg (gk - 1)
                            case measure => omega
                            case rel => exact ⟨k3 + 1, by omega, by go_num, hG.drewN⟩
                          · go_wp2
                            go_ret
                            exact ⟨rfl, hG.below⟩
end Go.Proofs.Ybulkezda
