/-
  THE LAW's SHORT WAYS: no element; more than 2^20 elements.
-/
import Derived.Test.YbulkezdaState
import Derived.LoopN
namespace Go.Proofs.Ybulkezda
open Go.RowKit

set_option maxRecDepth 100000 in
theorem npp_none (a : Option Addr) (cap : Nat) (w : World) :
    Calls Yba.prog 4 #[.slice a 0 cap] w fun e w' => e = .returned (.agg #[.slice (some ⟨w.heap.size + 1, 0, none⟩) 0 0]) ∧ Below w.heap.size w w' := by
  have hmk : ∀ w : World, (Instr.makeSlice 23 (.int .i64 0) (.int .i64 0)).run Yba.prog w = .ok (.slice (some ⟨w.heap.size, 0, none⟩) 0 0) (w.alloc (.cells (madeCells #[.pointer none] 0) 27)) :=
    run_make_row' (P := Yba.prog) 23 27 (.pointer none) 8 Yba.underlying23 Yba.info27 rfl .i64 .i64 0 (by omega) (by omega)
  go_enter Yba.func4, Yba.ntmps4
  go_wp2
  refine wp_loop_rounds 1 ?_; rw [rounds_succ]; go_wp2
  exact bodyPost_ret (v := .agg #[.slice (some ⟨w.heap.size + 1, 0, none⟩) 0 0]) (by simp [results, Yba.results4, go_sem]) rfl ⟨rfl, (((Below.refl _ _).alloc (Nat.le_refl _) _).alloc (by simp) _).alloc (by simp; omega) _⟩

set_option maxRecDepth 100000 in
theorem law_none (a : Option Addr) (cap : Nat) (w : World) :
    Calls Yba.prog 3 #[.slice a 0 cap] w fun e w' => e = .returned (.bool true) ∧ Below w.heap.size w w' := by
  have hmk : ∀ w : World, (Instr.makeSlice 22 (.int .i64 0) (.int .i64 0)).run Yba.prog w = .ok (.slice (some ⟨w.heap.size, 0, none⟩) 0 0) (w.alloc (.cells (madeCells #[.int .i64 0] 0) 3)) :=
    run_make_row' (P := Yba.prog) 22 3 (.int .i64 0) 8 Yba.underlying22 Yba.info3 rfl .i64 .i64 0 (by omega) (by omega)
  go_enter Yba.func3, Yba.ntmps3
  go_wp2
  refine wp_loop_rounds 1 ?_; rw [rounds_succ]; go_wp2_with fail
  refine (npp_none a cap _).mono ?_
  rintro e w2 ⟨rfl, hb⟩
  go_wp2
  refine wp_loop_rounds 1 ?_; rw [rounds_succ]; go_wp2
  refine wp_loop_rounds 1 ?_; rw [rounds_succ]; go_wp2
  refine wp_loop_rounds 1 ?_; rw [rounds_succ]; go_wp2
  refine wp_loop_rounds 1 ?_; rw [rounds_succ]; go_wp2
  refine wp_loop_rounds 1 ?_; rw [rounds_succ]; go_wp2
  go_ret
  have hs := hb.size
  simp only [World.size_alloc] at hs
  exact ⟨rfl, (((Below.refl _ _).alloc (Nat.le_refl _) _).trans (hb.mono (by simp))).alloc (by omega) _⟩

set_option maxRecDepth 100000 in
theorem law_great (a : Option Addr) (n cap : Nat) (hn : 1048576 < n) (hn' : n ≤ 9223372036854775807) (w : World) :
    Calls Yba.prog 3 #[.slice a n cap] w fun e w' => e = .returned (.bool true) ∧ Below w.heap.size w w' := by
  go_enter Yba.func3, Yba.ntmps3
  go_wp2
  go_ret
  exact ⟨rfl, Below.refl _ _⟩
end Go.Proofs.Ybulkezda
