/-
  newPerProcess, ITS CONTRACT: from one element on.
-/
import Derived.Test.YbulkezdaParts

import Derived.Deep.DeepCutAuto
import Derived.Deep.LoopGhost
import Derived.Deep.RegionLaw
namespace Go.Proofs.Ybulkezda
open Go.RowKit
theorem Yba.info27 : (Yba.prog.info? 27).map (fun i => (i.zero, i.size, i.bytes)) = some (some (.pointer none), 1, 8) := by kernel_rfl

set_option maxRecDepth 100000 in
theorem npp (b off n cap W : Nat) (z : List Int) (w : World) (hn : 1 ≤ n) (hn' : n ≤ 1048576) (hcap : n ≤ cap) (hW1 : 64 * W < n + 64) (hW2 : n ≤ 64 * W) (hb : b < w.heap.size) (hv : ∀ k, k < n → w.cell? ⟨b, off + k, none⟩ = some (.int .i64 (z.getD k 0))) :
    Calls Yba.prog 4 #[.slice (some ⟨b, off, none⟩) n cap] w fun e w' => e = .returned (.agg #[.slice (some ⟨w.heap.size + 1, 0, none⟩) W W]) ∧ w'.heap.size = w.heap.size + 3 + W ∧ Below w.heap.size w w' ∧ Tab (val z n) W w.heap.size w' := by
  have hmk : ∀ w : World, (Instr.makeSlice 23 (.int .i64 (((n : Int) + 64 - 1) / 64)) (.int .i64 (((n : Int) + 64 - 1) / 64))).run Yba.prog w = .ok (.slice (some ⟨w.heap.size, 0, none⟩) W W) (w.alloc (.cells (madeCells #[.pointer none] W) 27)) := by
    have h := run_make_row' (P := Yba.prog) 23 27 (.pointer none) 8 Yba.underlying23 Yba.info27 rfl .i64 .i64 W (by omega) (by omega)
    rw [show (((n : Int) + 64 - 1) / 64) = (W : Int) by omega]
    exact h
  go_enter Yba.func4, Yba.ntmps4
  go_wp2
  go_loopg [15] W (fun g i wr => ∃ k : Nat, k + g = W ∧ i = .int .i64 k ∧ Mid z n W w.heap.size w k wr)
  case atStart => exact ⟨0, by omega, rfl, Mid.start z n W w⟩
  case round =>
    obtain ⟨k, hk, rfl, hmid⟩ := hrel
    have hvc' := hmid.v.cell (i := 0) (by omega)
    by_cases hlt : k < W
    · have hcP : ∀ X, (wr.alloc X).cell? ⟨w.heap.size + 1, k, none⟩ = some (.pointer none) := fun X => ((hmid.ptr.alloc X).cell hlt).trans (by simp)
      have hfP : ∀ X, (wr.alloc X).frozen? ⟨w.heap.size + 1, k, none⟩ = false := fun X => (hmid.ptr.alloc X).frozen k
      go_upto_region 5 with fail
      go_cut [4] (fun s4 w1 => s4 = .int .i64 k ∧ Mid1 z n W w.heap.size w k w1)
      case first =>
        have hsz := hmid.size
        go_wp2
        go_meet
        case rel => exact ⟨rfl, hmid.step rfl hlt _ rfl⟩
      case rest =>
        clear hmid hvc' hcP hfP
        obtain ⟨rfl, hm1⟩ := hcut
        have hv1 := hm1.v.cell (i := 0) (by omega)
        have hp1 : wc.cell? ⟨w.heap.size + 1, k, none⟩ = some (.pointer (some ⟨w.heap.size + 3 + k, 0, none⟩)) := (hm1.ptr.cell hlt).trans (by simp)
        have hkn : k * 64 < n := by omega
        obtain ⟨cs, cur, hcf⟩ := hm1.copy hb hkn hv
        clear hv
        have hn1 : IntKind.i64.wrap ((k : Int) * 64) = (k : Int) * 64 := by rw [IntKind.wrap_i64]; omega
        have hn2 : ((k : Int) * 64).toNat = k * 64 := by omega
        have hn3 : (0 : Int) ≤ (k : Int) * 64 := by omega
        have hn4 : (k : Int) * 64 ≤ (n : Int) := by omega
        have hn5 : ¬ cap = k * 64 := by omega
        go_wp2
        go_region_law (refine step_copy_row rfl (.tmp 29) (.tmp 33) 22 22 rfl 3 Yba.underlying22 (by kernel_rfl) (w.heap.size + 3 + k) 64 64 ⟨b, off + k * 64, none⟩ (n - k * 64) (cap - k * 64) rfl rfl cur 29 hcf.blk cs (hcf.len.trans (Nat.min_comm _ _)) hcf.src (by rw [hcf.len, hcf.csz]; omega) hcf.one ?_)
        go_wp2
        go_roundg (gk - 1)
        case measure => omega
        case rel => exact ⟨k + 1, by omega, by go_num, Mid.drew (hm1.step cs hcf.len hkn hcf.at_ cur hcf.blk)⟩
    · have hr' := hmid.res.cell (i := 0) (by omega)
      have hf' := hmid.res.frozen 0
      go_wp2
      obtain rfl : k = W := by omega
      exact bodyPost_ret (v := .agg #[.slice (some ⟨w.heap.size + 1, 0, none⟩) k k]) (by simp [results, Yba.results4, go_sem, hr']) rfl ⟨rfl, by simp [hmid.size], hmid.below.setCell (by simp) _, hmid.tab _⟩
end Go.Proofs.Ybulkezda
