/-
  The law's closure and '(*span).update', ONE GOROUTINE. Blocks: N: newName; N + 1: the span; N + 2: the variable s; N + 3: calls; N + 4: heldInside.
-/
import Derived.Test.YbulkezcmTryLock

namespace Go.Proofs.Ybulkezcm
open Go.MuLone Go.Conc.Locks Go.RowKit

set_option maxRecDepth 100000 in
set_option maxHeartbeats 800000 in
/-- THE CLOSURE, called while the span's lock is held: one call counted, the name written; 'heldInside' is left as it was. -/
theorem closure_held (N : Nat) (x y : ByteArray) (w : World)
    (hc : w.cell? ⟨N + 3, 0, none⟩ = some (.int .i64 0)) (hv : w.cell? ⟨N + 2, 0, none⟩ = some (.pointer (some ⟨N + 1, 0, none⟩))) (hn : w.cell? ⟨N, 0, none⟩ = some (.string y))
    (hl : w.cell? ⟨N + 1, 62, none⟩ = some (.int .i32 1)) (hx : w.cell? ⟨N + 1, 64, none⟩ = some (.string x))
    (fc : w.frozen? ⟨N + 3, 0, none⟩ = false) (fx : w.frozen? ⟨N + 1, 64, none⟩ = false) :
    Calls Yba.prog 5 #[.pointer (some ⟨N + 3, 0, none⟩), .pointer (some ⟨N + 2, 0, none⟩), .pointer (some ⟨N + 4, 0, none⟩), .pointer (some ⟨N, 0, none⟩)] w fun e w' =>
      e = .returned (.tuple #[]) ∧ w' = (w.setCell ⟨N + 3, 0, none⟩ (.int .i64 1)).setCell ⟨N + 1, 64, none⟩ (.string y) := by
  go_enter Yba.func5, Yba.ntmps5
  go_wp2_with (go_at_call 6; refine (try_held ⟨N + 1, 62, none⟩ _ (by simp [go_sem, hl])).mono ?_; rintro e w' ⟨rfl, rfl⟩)
  go_end0
  exact ⟨rfl, rfl⟩

set_option maxRecDepth 100000 in
set_option maxHeartbeats 800000 in
theorem update_ended (b : Nat) (fv : Value) (w : World)
    (hl : w.cell? ⟨b, 62, none⟩ = some (.int .i32 0)) (he : w.cell? ⟨b, 71, none⟩ = some (.bool true)) (fl : w.frozen? ⟨b, 62, none⟩ = false) :
    Calls Yba.prog 4 #[.pointer (some ⟨b, 0, none⟩), fv] w fun e w' =>
      e = .returned (.tuple #[]) ∧ w' = (w.setCell ⟨b, 62, none⟩ (.int .i32 1)).setCell ⟨b, 62, none⟩ (.int .i32 0) := by
  go_enter_defers Yba.func4, Yba.ntmps4
  go_wp2_with (go_at_call 8; refine (lock_free Yba.muLib ⟨b, 62, none⟩ _ hl fl).mono ?_; rintro e w' ⟨rfl, rfl⟩)
  refine leaves_cons (f := 7) (args := #[.pointer (some ⟨b, 62, none⟩)]) (by simp) (by simp [go_sem]) ?_
  refine (unlock_deferred Yba.muLib ⟨b, 62, none⟩ .returning _ ?_ ?_).mono ?_
  · exact World.cell?_setCell_same w ⟨b, 62, none⟩ (.int .i32 1) hl
  · simp [fl]
  rintro e u' w'' ⟨rfl, rfl, rfl⟩
  exact ⟨_, results_none rfl _ _ _, rfl, rfl⟩

set_option maxRecDepth 100000 in
set_option maxHeartbeats 800000 in
theorem update_open (N : Nat) (x y : ByteArray) (w : World)
    (hc : w.cell? ⟨N + 3, 0, none⟩ = some (.int .i64 0)) (hv : w.cell? ⟨N + 2, 0, none⟩ = some (.pointer (some ⟨N + 1, 0, none⟩))) (hn : w.cell? ⟨N, 0, none⟩ = some (.string y))
    (hl : w.cell? ⟨N + 1, 62, none⟩ = some (.int .i32 0)) (hx : w.cell? ⟨N + 1, 64, none⟩ = some (.string x)) (he : w.cell? ⟨N + 1, 71, none⟩ = some (.bool false))
    (fc : w.frozen? ⟨N + 3, 0, none⟩ = false) (fx : w.frozen? ⟨N + 1, 64, none⟩ = false) (fl : w.frozen? ⟨N + 1, 62, none⟩ = false) :
    Calls Yba.prog 4 #[.pointer (some ⟨N + 1, 0, none⟩), .func (.func 5) #[] #[.pointer (some ⟨N + 3, 0, none⟩), .pointer (some ⟨N + 2, 0, none⟩), .pointer (some ⟨N + 4, 0, none⟩), .pointer (some ⟨N, 0, none⟩)]] w fun e w' =>
      e = .returned (.tuple #[]) ∧ w' = (((w.setCell ⟨N + 1, 62, none⟩ (.int .i32 1)).setCell ⟨N + 3, 0, none⟩ (.int .i64 1)).setCell ⟨N + 1, 64, none⟩ (.string y)).setCell ⟨N + 1, 62, none⟩ (.int .i32 0) := by
  go_enter_defers Yba.func4, Yba.ntmps4
  go_wp2_with (first | (go_at_call 8; refine (lock_free Yba.muLib ⟨N + 1, 62, none⟩ _ hl fl).mono ?_; rintro e w' ⟨rfl, rfl⟩) | (go_at_call 5; refine (closure_held N x y _ (by simp [go_sem, hc]) (by simp [go_sem, hv]) (by simp [go_sem, hn]) (by simp [go_sem, hl]) (by simp [go_sem, hx]) (by simp [go_sem, fc]) (by simp [go_sem, fx])).mono ?_; rintro e w' ⟨rfl, rfl⟩))
  refine leaves_cons (f := 7) (args := #[.pointer (some ⟨N + 1, 62, none⟩)]) (by simp) (by simp [go_sem]) ?_
  refine (unlock_deferred Yba.muLib ⟨N + 1, 62, none⟩ .returning _ ?_ ?_).mono ?_
  · simp [go_sem, hl]
  · simp [fl]
  rintro e u' w'' ⟨rfl, rfl, rfl⟩
  exact ⟨_, results_none rfl _ _ _, rfl, rfl⟩
end Go.Proofs.Ybulkezcm
