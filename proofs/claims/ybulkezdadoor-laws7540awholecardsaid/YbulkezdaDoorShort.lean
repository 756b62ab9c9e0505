/-
  THE LAW's SHORT WAY: a slice of more than 2^20 elements.
-/
import Derived.Test.YbulkezdaDoorRows
import Derived.WalkKit
import Derived.Below
namespace Go.Proofs.YbulkezdaDoor
open Go.RowKit

set_option maxRecDepth 100000 in
theorem law_short (a0 a1 a3 a4 : Option Addr) (n0 n1 n3 n4 c0 c1 c3 c4 : Nat) (pr ex : Int) (w : World) (l0 : n0 ≤ 9223372036854775807) (l1 : n1 ≤ 9223372036854775807) (l3 : n3 ≤ 9223372036854775807) (l4 : n4 ≤ 9223372036854775807)
    (h : 1048576 < n0 ∨ 1048576 < n1 ∨ 1048576 < n3 ∨ 1048576 < n4) :
    Calls Ybad.prog 3 #[.slice a0 n0 c0, .slice a1 n1 c1, .int .u64 pr, .slice a3 n3 c3, .slice a4 n4 c4, .int .u64 ex] w fun e w' => e = .returned (.bool true) ∧ Below w.heap.size w w' := by
  by_cases h0 : 1048576 < n0
  · have g0 : decide ((1048576 : Int) < (n0 : Int)) = true := decide_eq_true (by omega)
    clear h
    go_enter Ybad.func3, Ybad.ntmps3
    go_wp2
    go_ret
    exact ⟨rfl, Below.refl _ _⟩
  have g0 : decide ((1048576 : Int) < (n0 : Int)) = false := decide_eq_false (by omega)
  by_cases h1 : 1048576 < n1
  · have g1 : decide ((1048576 : Int) < (n1 : Int)) = true := decide_eq_true (by omega)
    clear h
    go_enter Ybad.func3, Ybad.ntmps3
    go_wp2
    go_ret
    exact ⟨rfl, Below.refl _ _⟩
  have g1 : decide ((1048576 : Int) < (n1 : Int)) = false := decide_eq_false (by omega)
  by_cases h3 : 1048576 < n3
  · have g3 : decide ((1048576 : Int) < (n3 : Int)) = true := decide_eq_true (by omega)
    clear h
    go_enter Ybad.func3, Ybad.ntmps3
    go_wp2
    go_ret
    exact ⟨rfl, Below.refl _ _⟩
  have g3 : decide ((1048576 : Int) < (n3 : Int)) = false := decide_eq_false (by omega)
  have h4 : 1048576 < n4 := by omega
  have g4 : decide ((1048576 : Int) < (n4 : Int)) = true := decide_eq_true (by omega)
  clear h
  go_enter Ybad.func3, Ybad.ntmps3
  go_wp2
  go_ret
  exact ⟨rfl, Below.refl _ _⟩
end Go.Proofs.YbulkezdaDoor
