/-
  '(*sync.Mutex).TryLock', ONE GOROUTINE: the lock free (state 0): taken, true; held and nobody waiting (state 1): false, nothing turned.
-/
import Derived.Test.YbulkezcmLocks
import Derived.Conc.MuLone
import Derived.WalkKit
namespace Go.Proofs.Ybulkezcm
open Go.MuLone Go.Conc.Locks Go.RowKit

set_option maxRecDepth 100000 in
set_option maxHeartbeats 800000 in
theorem itry_free (a : Addr) (w : World) (hc : w.cell? a = some (.int .i32 0)) (hz : w.frozen? a = false) :
    Calls Yba.prog 9 #[.pointer (some a)] w fun e w' => e = .returned (.bool true) ∧ w' = w.setCell a (.int .i32 1) := by
  have hd := disable Yba.muLib
  have he := enable Yba.muLib
  have ha := acquire Yba.muLib
  have hcas := run_call_cas_hit (P := Yba.prog) Yba.func14 (by kernel_rfl) (by kernel_rfl) (by kernel_rfl) .i32 (by kernel_rfl) (y := 1) hc hz
  have hc' : (w.setCell a (.int .i32 1)).cell? a = some (.int .i32 1) := by simp [go_sem, hc]
  have hcv := run_convert_to_unsafe (P := Yba.prog) (src := 58) (dst := 62) Yba.underlying58 Yba.underlying62 (by kernel_rfl) hc'
  go_enter Yba.func9, Yba.ntmps9
  go_wp2
  go_ret
  exact ⟨rfl, rfl⟩

set_option maxHeartbeats 800000 in
theorem itry_held (a : Addr) (w : World) (hc : w.cell? a = some (.int .i32 1)) :
    Calls Yba.prog 9 #[.pointer (some a)] w fun e w' => e = .returned (.bool false) ∧ w' = w := by
  have hd := disable Yba.muLib
  have he := enable Yba.muLib
  go_enter Yba.func9, Yba.ntmps9
  go_wp2
  go_ret
  exact ⟨rfl, rfl⟩

theorem try_free (a : Addr) (w : World) (hc : w.cell? a = some (.int .i32 0)) (hz : w.frozen? a = false) :
    Calls Yba.prog 6 #[.pointer (some a)] w fun e w' => e = .returned (.bool true) ∧ w' = w.setCell a (.int .i32 1) := by
  go_enter Yba.func6, Yba.ntmps6
  go_wp2_with (go_at_call 9; refine (itry_free a _ hc hz).mono ?_; rintro e w' ⟨rfl, rfl⟩)
  go_ret
  exact ⟨rfl, rfl⟩

theorem try_held (a : Addr) (w : World) (hc : w.cell? a = some (.int .i32 1)) :
    Calls Yba.prog 6 #[.pointer (some a)] w fun e w' => e = .returned (.bool false) ∧ w' = w := by
  go_enter Yba.func6, Yba.ntmps6
  go_wp2_with (go_at_call 9; refine (itry_held a _ hc).mono ?_; rintro e w' ⟨rfl, rfl⟩)
  go_ret
  exact ⟨rfl, rfl⟩
end Go.Proofs.Ybulkezcm
