/-
  slices.Index, Contains, Equal at this dump's instances: the contracts that the law wants.
-/
import Derived.Test.YbulkezdaDoorFloors
namespace Go.Proofs.YbulkezdaDoor
open Go.RowKit

/-! ### Index, Contains over []int -/
theorem index_empty (a : Option Addr) (cap : Nat) (x : Int) (w : World) :
    Calls Ybad.prog 16 #[.slice a 0 cap, .int .i64 x] w fun e w' => e = .returned (.int .i64 (-1)) ∧ w' = w := by
  go_enter Ybad.func16, Ybad.ntmps16
  go_wp2
  refine wp_loop_rounds 1 ?_; rw [rounds_succ]; go_wp2
  go_ret
  exact ⟨rfl, rfl⟩
/-- The slice's cells: block g from its head on. -/
theorem index_yes (g n cap : Nat) (f : Nat → Int) (x : Int) (w : World) (hn : n ≤ 1048577) (hc : ∀ j, j < n → w.cell? ⟨g, j, none⟩ = some (.int .i64 (f j))) (k : Nat) (hk : k < n) (hx : f k = x) (hno : ∀ j, j < k → f j ≠ x) :
    Calls Ybad.prog 16 #[.slice (some ⟨g, 0, none⟩) n cap, .int .i64 x] w fun e w' => e = .returned (.int .i64 k) ∧ w' = w := by
  have HC := hide hc
  have HX := hide hx
  have HN := hide hno
  clear hc hx hno
  go_enter Ybad.func16, Ybad.ntmps16
  go_wp2
  go_loopg [8] k (fun g i wr => ∃ j : Nat, j + g = k ∧ i = .int .i64 j ∧ wr = w)
  case atStart => exact ⟨0, by omega, rfl, rfl⟩
  case round =>
    obtain ⟨j, hj, rfl, rfl⟩ := hrel
    have hcj := HC.out j (by omega)
    have hjn : j < n := by omega
    by_cases hlt : j < k
    · have hne : (x == f j) = false := by have := HN.out j hlt; simp; omega
      go_wp2
      go_roundg (gk - 1)
      case measure => omega
      case rel => exact ⟨j + 1, by omega, by go_num, rfl⟩
    · obtain rfl : j = k := by omega
      have hne : (x == f j) = true := by have := HX.out; simp; omega
      go_wp2
      go_ret
      exact ⟨rfl, rfl⟩
theorem index_no (g n cap : Nat) (f : Nat → Int) (x : Int) (w : World) (hn : n ≤ 1048577) (hc : ∀ j, j < n → w.cell? ⟨g, j, none⟩ = some (.int .i64 (f j))) (hno : ∀ j, j < n → f j ≠ x) :
    Calls Ybad.prog 16 #[.slice (some ⟨g, 0, none⟩) n cap, .int .i64 x] w fun e w' => e = .returned (.int .i64 (-1)) ∧ w' = w := by
  have HC := hide hc
  have HN := hide hno
  clear hc hno
  go_enter Ybad.func16, Ybad.ntmps16
  go_wp2
  go_loopg [8] n (fun g i wr => ∃ j : Nat, j + g = n ∧ i = .int .i64 j ∧ wr = w)
  case atStart => exact ⟨0, by omega, rfl, rfl⟩
  case round =>
    obtain ⟨j, hj, rfl, rfl⟩ := hrel
    by_cases hlt : j < n
    · have hcj := HC.out j hlt
      have hne : (x == f j) = false := by have := HN.out j hlt; simp; omega
      go_wp2
      go_roundg (gk - 1)
      case measure => omega
      case rel => exact ⟨j + 1, by omega, by go_num, rfl⟩
    · go_wp2
      go_ret
      exact ⟨rfl, rfl⟩
/-- THE SLICE VALUE v HOLDS THE NUMBERS xs: nil or at the head of a block. -/
def Holds (w : World) (v : Value) (xs : List Int) : Prop :=
  (v = .slice none 0 0 ∧ xs = []) ∨ ∃ g cap, v = .slice (some ⟨g, 0, none⟩) xs.length cap ∧ ∀ j, j < xs.length → w.cell? ⟨g, j, none⟩ = some (.int .i64 (xs.getD j 0))
theorem contains_any (v : Value) (xs : List Int) (x : Int) (w : World) (hn : xs.length ≤ 1048577) (h : Holds w v xs) :
    Calls Ybad.prog 5 #[v, .int .i64 x] w fun e w' => e = .returned (.bool (xs.contains x)) ∧ w' = w := by
  rcases h with ⟨rfl, rfl⟩ | ⟨g, cap, rfl, hc⟩
  · go_enter Ybad.func5, Ybad.ntmps5
    go_wp2_with (go_at_call 16; refine (index_empty none 0 x _).mono ?_; rintro e w' ⟨rfl, rfl⟩)
    go_ret
    exact ⟨rfl, rfl⟩
  · by_cases hm : x ∈ xs
    · have hb : xs.contains x = true := by simpa using hm
      rw [hb]
      obtain ⟨k, hk, hx, hno⟩ : ∃ k, k < xs.length ∧ xs.getD k 0 = x ∧ ∀ j, j < k → xs.getD j 0 ≠ x := by
        clear hc hb hn
        induction xs with
        | nil => cases hm
        | cons y ys ih =>
          by_cases e : y = x
          · exact ⟨0, by simp, by simpa using e, fun j hj => absurd hj (by omega)⟩
          · have hm' : x ∈ ys := by
              rcases List.mem_cons.1 hm with h | h
              · exact absurd h.symm e
              · exact h
            obtain ⟨k, h1, h2, h3⟩ := ih hm'
            refine ⟨k + 1, by simp; omega, by simpa using h2, fun j hj => ?_⟩
            cases j with
            | zero => simpa using e
            | succ j => simpa using h3 j (by omega)
      clear hm hb
      have HC := hide hc
      have HX := hide hx
      have HN := hide hno
      clear hc hx hno
      go_enter Ybad.func5, Ybad.ntmps5
      go_wp2_with (go_at_call 16; refine (index_yes g xs.length cap (fun j => xs.getD j 0) x _ hn HC.out k hk HX.out HN.out).mono ?_; rintro e w' ⟨rfl, rfl⟩)
      go_ret
      exact ⟨by simp, rfl⟩
    · have hb : xs.contains x = false := by simpa using hm
      rw [hb]
      have HC := hide hc
      have HN : Hid (∀ j, j < xs.length → xs.getD j 0 ≠ x) := fun j hj e => hm (by rw [← e, List.getD_eq_getElem?_getD, List.getElem?_eq_getElem hj]; simp)
      clear hc hm hb
      go_enter Ybad.func5, Ybad.ntmps5
      go_wp2_with (go_at_call 16; refine (index_no g xs.length cap (fun j => xs.getD j 0) x _ hn HC.out HN.out).mono ?_; rintro e w' ⟨rfl, rfl⟩)
      go_ret
      exact ⟨by simp, rfl⟩

/-! ### Equal, of equal slices -/
theorem equal_int_empty (a1 a2 : Option Addr) (c1 c2 : Nat) (w : World) :
    Calls Ybad.prog 11 #[.slice a1 0 c1, .slice a2 0 c2] w fun e w' => e = .returned (.bool true) ∧ ∃ m, w' = w.drewN m := by
  go_enter Ybad.func11, Ybad.ntmps11
  go_wp2
  refine wp_loop_rounds 1 ?_; rw [rounds_succ]; go_wp2
  go_ret
  exact ⟨rfl, 0, rfl⟩
theorem equal_int_same (g1 g2 n c1 c2 : Nat) (f : Nat → Int) (w : World) (hn : n ≤ 1048578) (h1 : ∀ j, j < n → w.cell? ⟨g1, j, none⟩ = some (.int .i64 (f j))) (h2 : ∀ j, j < n → w.cell? ⟨g2, j, none⟩ = some (.int .i64 (f j))) :
    Calls Ybad.prog 11 #[.slice (some ⟨g1, 0, none⟩) n c1, .slice (some ⟨g2, 0, none⟩) n c2] w fun e w' => e = .returned (.bool true) ∧ ∃ m, w' = w.drewN m := by
  have H1 := hide h1
  have H2 := hide h2
  clear h1 h2
  go_enter Ybad.func11, Ybad.ntmps11
  go_wp2
  go_loopg [13] n (fun g i wr => ∃ j : Nat, j + g = n ∧ i = .int .i64 j ∧ ∃ m, wr = w.drewN m)
  case atStart => exact ⟨0, by omega, rfl, 0, rfl⟩
  case round =>
    obtain ⟨j, hj, rfl, m, rfl⟩ := hrel
    by_cases hlt : j < n
    · have hc1 := H1.out j hlt
      have hc2 := H2.out j hlt
      go_wp2
      go_quiet (fail)
      go_wp2
      go_roundg (gk - 1)
      case measure => omega
      case rel => exact ⟨j + 1, by omega, by go_num, m + nq, by simp [World.drewN]⟩
    · go_wp2
      go_ret
      exact ⟨rfl, m, rfl⟩

theorem equal_u32_empty (a1 a2 : Option Addr) (c1 c2 : Nat) (w : World) :
    Calls Ybad.prog 12 #[.slice a1 0 c1, .slice a2 0 c2] w fun e w' => e = .returned (.bool true) ∧ ∃ m, w' = w.drewN m := by
  go_enter Ybad.func12, Ybad.ntmps12
  go_wp2
  refine wp_loop_rounds 1 ?_; rw [rounds_succ]; go_wp2
  go_ret
  exact ⟨rfl, 0, rfl⟩
theorem equal_u32_same (g1 g2 n c1 c2 : Nat) (f : Nat → Int) (w : World) (hn : n ≤ 1048578) (h1 : ∀ j, j < n → w.cell? ⟨g1, j, none⟩ = some (.int .u32 (f j))) (h2 : ∀ j, j < n → w.cell? ⟨g2, j, none⟩ = some (.int .u32 (f j))) :
    Calls Ybad.prog 12 #[.slice (some ⟨g1, 0, none⟩) n c1, .slice (some ⟨g2, 0, none⟩) n c2] w fun e w' => e = .returned (.bool true) ∧ ∃ m, w' = w.drewN m := by
  have H1 := hide h1
  have H2 := hide h2
  clear h1 h2
  go_enter Ybad.func12, Ybad.ntmps12
  go_wp2
  go_loopg [13] n (fun g i wr => ∃ j : Nat, j + g = n ∧ i = .int .i64 j ∧ ∃ m, wr = w.drewN m)
  case atStart => exact ⟨0, by omega, rfl, 0, rfl⟩
  case round =>
    obtain ⟨j, hj, rfl, m, rfl⟩ := hrel
    by_cases hlt : j < n
    · have hc1 := H1.out j hlt
      have hc2 := H2.out j hlt
      go_wp2
      go_quiet (fail)
      go_wp2
      go_roundg (gk - 1)
      case measure => omega
      case rel => exact ⟨j + 1, by omega, by go_num, m + nq, by simp [World.drewN]⟩
    · go_wp2
      go_ret
      exact ⟨rfl, m, rfl⟩

theorem equal_slots (g1 g2 c1 c2 : Nat) (P F : Nat → Int) (w : World) (h1 : w.rowIs g1 32 32 (slotCell P F)) (h2 : ∀ j, j < 32 → w.cell? ⟨g2, j, none⟩ = some (slotCell P F j)) :
    Calls Ybad.prog 13 #[.slice (some ⟨g1, 0, none⟩) 16 c1, .slice (some ⟨g2, 0, none⟩) 16 c2] w fun e w' => e = .returned (.bool true) ∧ ∃ m, w' = w.drewN m := by
  have H1 := hide h1
  have H2 := hide h2
  clear h1 h2
  go_enter Ybad.func13, Ybad.ntmps13
  go_wp2
  go_loopg [13] 16 (fun g i wr => ∃ j : Nat, j + g = 16 ∧ i = .int .i64 j ∧ ∃ m, wr = w.drewN m)
  case atStart => exact ⟨0, by omega, rfl, 0, rfl⟩
  case round =>
    obtain ⟨j, hj, rfl, m, rfl⟩ := hrel
    by_cases hlt : j < 16
    · have hc1 := slot_payer H1.out hlt
      have hc2 := slot_floor H1.out hlt
      have hc3 : w.cell? ⟨g2, j * 2, none⟩ = some (.int .i32 (P j)) := by rw [H2.out (j * 2) (by omega)]; simp [slotCell]
      have hc4 : w.cell? ⟨g2, j * 2 + 1, none⟩ = some (.int .u32 (F j)) := by
        rw [H2.out (j * 2 + 1) (by omega)]
        simp only [slotCell]
        rw [if_neg (by omega), show (j * 2 + 1) / 2 = j by omega]
      go_wp2
      go_quiet (fail)
      go_wp2
      go_roundg (gk - 1)
      case measure => omega
      case rel => exact ⟨j + 1, by omega, by go_num, m + nq, by simp [World.drewN]⟩
    · go_wp2
      go_ret
      exact ⟨rfl, m, rfl⟩
end Go.Proofs.YbulkezdaDoor
