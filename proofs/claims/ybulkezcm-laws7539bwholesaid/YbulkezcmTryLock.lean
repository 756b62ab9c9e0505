/-
  '(*sync.Mutex).TryLock', ONE GOROUTINE: the lock free (state 0): taken, true; held and nobody waiting (state 1): false, nothing turned.
-/
import Derived.Test.YbulkezcmLocks
import Derived.Conc.MuLone
import Derived.WalkKit
namespace Go.Proofs.Ybulkezcm
open Go.MuLone Go.Conc.Locks Go.RowKit

/-- The lock's address handed to the race detector's mark: the same address. -/
theorem conv_up {a : Addr} {v : Value} {w : World} (hc : w.cell? a = some v) : (convert 58 62 (.pointer (some a))).run Yba.prog w = .ok (.pointer (some a)) w := by
  obtain ⟨e, n, hsh, hlt, hsp⟩ := World.shape?_of_cell? hc
  obtain ⟨i, hi, hz0⟩ := Option.map_eq_some_iff.1 (show (Yba.prog.info? 44).map (fun i => decide (i.size = 0)) = some false by kernel_rfl)
  have hz : i.size ≠ 0 := by simpa using hz0
  have hge : ¬ (n ≤ a.off) := by omega
  simp only [convert, Sem.run_bind, run_underlying Yba.underlying58, run_underlying Yba.underlying62, Result.andThen_ok]
  change Sem.run Yba.prog (underlying 58 >>= _) w = _
  simp [Conv.seenAt, viewAt, cellsIn, sizeOf, typeInfo, run_underlying Yba.underlying58, run_underlying Yba.underlying62, hi, hz, hsh, hge, Result.andThen]

set_option maxRecDepth 100000 in
set_option maxHeartbeats 800000 in
theorem itry_free (a : Addr) (w : World) (hc : w.cell? a = some (.int .i32 0)) (hz : w.frozen? a = false) :
    Calls Yba.prog 9 #[.pointer (some a)] w fun e w' => e = .returned (.bool true) ∧ w' = w.setCell a (.int .i32 1) := by
  have hd := disable Yba.muLib
  have he := enable Yba.muLib
  have ha := acquire Yba.muLib
  have hcas := run_call_cas_hit (P := Yba.prog) Yba.func14 (by kernel_rfl) (by kernel_rfl) (by kernel_rfl) .i32 (by kernel_rfl) (y := 1) hc hz
  have hc' : (w.setCell a (.int .i32 1)).cell? a = some (.int .i32 1) := by simp [go_sem, hc]
  have hcv := conv_up hc'
  go_enter Yba.func9, Yba.ntmps9
  go_wp2
  go_ret
  exact ⟨rfl, rfl⟩

set_option maxHeartbeats 800000 in
theorem itry_held (a : Addr) (w : World) (hc : w.cell? a = some (.int .i32 1)) :
    Calls Yba.prog 9 #[.pointer (some a)] w fun e w' => e = .returned (.bool false) ∧ w' = w := by
  have hd := disable Yba.muLib
  have he := enable Yba.muLib
  go_enter Yba.func9, Yba.ntmps9
  go_wp2
  go_ret
  exact ⟨rfl, rfl⟩

theorem try_free (a : Addr) (w : World) (hc : w.cell? a = some (.int .i32 0)) (hz : w.frozen? a = false) :
    Calls Yba.prog 6 #[.pointer (some a)] w fun e w' => e = .returned (.bool true) ∧ w' = w.setCell a (.int .i32 1) := by
  go_enter Yba.func6, Yba.ntmps6
  go_wp2_with (go_at_call 9; refine (itry_free a _ hc hz).mono ?_; rintro e w' ⟨rfl, rfl⟩)
  go_ret
  exact ⟨rfl, rfl⟩

theorem try_held (a : Addr) (w : World) (hc : w.cell? a = some (.int .i32 1)) :
    Calls Yba.prog 6 #[.pointer (some a)] w fun e w' => e = .returned (.bool false) ∧ w' = w := by
  go_enter Yba.func6, Yba.ntmps6
  go_wp2_with (go_at_call 9; refine (itry_held a _ hc).mono ?_; rintro e w' ⟨rfl, rfl⟩)
  go_ret
  exact ⟨rfl, rfl⟩
end Go.Proofs.Ybulkezcm
