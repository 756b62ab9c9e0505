/-
  CommitteeAt; the law's short ways: no committee; more than 2^20 members.
-/
import Derived.Test.YbulkezlcParts
import Derived.Deep.LoopGhost
import Derived.Deep.DeepCutAuto
import Derived.Deep.QuietTactic
import Derived.BigQuiet
namespace Go.Proofs.Ybulkezlc
open Go.RowKit

/-! ### CommitteeAt -/
theorem at_yes (b : Nat) (lb r : Int) (c : Option Addr) (w : World) (h0 : 1 ≤ r) (h1 : r ≤ lb) (hl : w.cell? ⟨b, 0, none⟩ = some (.int .u64 lb)) (hc : w.cell? ⟨b, 1, none⟩ = some (.pointer c)) :
    Calls Yba.prog 7 #[.pointer (some ⟨b, 0, none⟩), .int .u64 r] w fun e w' => e = .returned (.tuple #[.pointer c, .bool true]) ∧ w' = w := by
  have g0 : (r == 0) = false := by rw [beq_eq_false_iff_ne]; omega
  go_enter Yba.func7, Yba.ntmps7
  go_wp2
  go_ret2
  exact ⟨rfl, rfl⟩
theorem at_no (b : Nat) (lb r : Int) (w : World) (h : r = 0 ∨ lb < r) (hl : w.cell? ⟨b, 0, none⟩ = some (.int .u64 lb)) :
    Calls Yba.prog 7 #[.pointer (some ⟨b, 0, none⟩), .int .u64 r] w fun e w' => e = .returned (.tuple #[.pointer none, .bool false]) ∧ w' = w := by
  by_cases h0 : r = 0
  · subst h0
    go_enter Yba.func7, Yba.ntmps7
    go_wp2
    go_ret2
    exact ⟨rfl, rfl⟩
  · have g0 : (r == 0) = false := by rw [beq_eq_false_iff_ne]; omega
    have h1 : lb < r := h.resolve_left h0
    clear h h0
    go_enter Yba.func7, Yba.ntmps7
    go_wp2
    go_ret2
    exact ⟨rfl, rfl⟩

set_option maxRecDepth 100000 in
set_option maxHeartbeats 800000 in
theorem law_none (lb r : Int) (a : Option Addr) (n c : Nat) (w : World) (hn : n ≤ 1048576) (hlb : 0 ≤ lb ∧ lb ≤ 18446744073709551615) (hr : 0 ≤ r ∧ r ≤ 18446744073709551615) :
    Calls Yba.prog 5 #[.int .u64 lb, .int .u64 r, .bool false, .slice a n c] w fun e w' => e = .returned (.bool true) ∧ Below w.heap.size w w' := by
  by_cases hy : 1 ≤ r ∧ r ≤ lb
  · obtain ⟨h1, h2⟩ := hy
    go_enter Yba.func5, Yba.ntmps5
    go_wp2_with (go_at_call 7; refine (at_yes _ lb r none _ h1 h2 (by simp [go_sem]) (by simp [go_sem])).mono ?_; rintro e w' ⟨rfl, rfl⟩)
    go_ret
    exact ⟨rfl, (Below.refl _ _).alloc (Nat.le_refl _) _⟩
  · by_cases h0 : r = 0
    · subst h0
      clear hy
      go_enter Yba.func5, Yba.ntmps5
      go_wp2_with (go_at_call 7; refine (at_no _ lb 0 _ (Or.inl rfl) (by simp [go_sem])).mono ?_; rintro e w' ⟨rfl, rfl⟩)
      go_ret
      exact ⟨rfl, (Below.refl _ _).alloc (Nat.le_refl _) _⟩
    · have h1 : lb < r := by omega
      have h2 : 1 ≤ r := by omega
      clear hy h0
      go_enter Yba.func5, Yba.ntmps5
      go_wp2_with (go_at_call 7; refine (at_no _ lb r _ (Or.inr h1) (by simp [go_sem])).mono ?_; rintro e w' ⟨rfl, rfl⟩)
      go_ret
      exact ⟨rfl, (Below.refl _ _).alloc (Nat.le_refl _) _⟩

set_option maxRecDepth 100000 in
theorem law_great (lb r : Int) (h : Bool) (a : Option Addr) (n c : Nat) (w : World) (hn : 1048576 < n) (hn' : n ≤ 9223372036854775807) :
    Calls Yba.prog 5 #[.int .u64 lb, .int .u64 r, .bool h, .slice a n c] w fun e w' => e = .returned (.bool true) ∧ Below w.heap.size w w' := by
  go_enter Yba.func5, Yba.ntmps5
  go_wp2
  go_ret
  exact ⟨rfl, Below.refl _ _⟩
end Go.Proofs.Ybulkezlc
