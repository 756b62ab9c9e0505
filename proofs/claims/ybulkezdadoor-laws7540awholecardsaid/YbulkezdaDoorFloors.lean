/-
  THE FLOORS: home, find, look, get: their contracts.
-/
import Derived.Test.YbulkezdaDoorRows
import Derived.WalkKit
import Derived.ProofKit
import Derived.Below
import Derived.Deep.OwnRows
import Derived.Deep.LoopGhost
import Derived.Deep.QuietTactic
import Derived.BigQuiet
import Derived.WalkSmall
import Derived.Laws.BitsLemmas
import Derived.Laws.Bits64
namespace Go.Proofs.YbulkezdaDoor
open Go.RowKit

theorem ret_int {k : IntKind} {a b : Int} (h : a = b) : Ending.returned (.int k a) = .returned (.int k b) := by rw [h]
theorem hide {p : Prop} (h : p) : Hid p := h

/-- The home slot of payer q in a table of 16. -/
def hm (q : Int) : Nat := ((q * 11400714819323198485) % 18446744073709551616 / 1152921504606846976).toNat
theorem hm_lt (q : Int) : hm q < 16 := by unfold hm; omega
theorem hm_eq (q : Int) : wrap64 (IntKind.u64.wrap (q * 11400714819323198485) / 1152921504606846976) = (hm q : Int) := by
  unfold hm wrap64
  rw [IntKind.wrap_u64]
  have h0 : 0 ≤ q * 11400714819323198485 % 18446744073709551616 := Int.emod_nonneg _ (by decide)
  have h1 : q * 11400714819323198485 % 18446744073709551616 < 18446744073709551616 := Int.emod_lt_of_pos _ (by decide)
  generalize q * 11400714819323198485 % 18446744073709551616 = x at h0 h1
  omega

theorem home_law (q : Int) (h0 : 0 ≤ q) (h1 : q ≤ 1048577) (w : World) :
    Calls Ybad.prog 6 #[.int .i64 q] w fun e w' => e = .returned (.int .i64 (hm q)) ∧ w' = w := by
  go_enter Ybad.func6, Ybad.ntmps6
  go_wp2
  go_ret
  exact ⟨ret_int (hm_eq q), rfl⟩

theorem tz64 (w : World) (hc : w.cell? ⟨2, 15, none⟩ = some (.int .u8 4)) :
    Calls Ybad.prog 32 #[.int .u64 16] w fun e w' => e = .returned (.int .i64 4) ∧ w' = w := by
  have hb : bits BinOp.and IntKind.u64 16 (IntKind.u64.wrap (-16)) = 16 := by decide +kernel
  have hx : IntKind.u64.wrap (16 * 285870213051353865) / 288230376151711744 = 15 := by decide +kernel
  go_enter Ybad.func32, Ybad.ntmps32
  go_wp2
  go_ret
  exact ⟨rfl, rfl⟩
theorem tz (w : World) (hc : w.cell? ⟨2, 15, none⟩ = some (.int .u8 4)) :
    Calls Ybad.prog 30 #[.int .u64 16] w fun e w' => e = .returned (.int .i64 4) ∧ w' = w := by
  go_enter Ybad.func30, Ybad.ntmps30
  go_wp2_with (go_at_call 32; refine (tz64 _ hc).mono ?_; rintro e w' ⟨rfl, rfl⟩)
  go_ret
  exact ⟨rfl, rfl⟩
theorem home_any (bF : Nat) (q : Int) (h0 : 0 ≤ q) (h1 : q ≤ 1048577) (w : World) (hc : w.cell? ⟨2, 15, none⟩ = some (.int .u8 4)) (bS : Nat) (hs : w.cell? ⟨bF, 8, none⟩ = some (.slice (some ⟨bS, 0, none⟩) 16 16)) :
    Calls Ybad.prog 29 #[.pointer (some ⟨bF, 5, none⟩), .int .i64 q] w fun e w' => e = .returned (.int .i64 (hm q)) ∧ w' = w := by
  go_enter Ybad.func29, Ybad.ntmps29
  go_wp2_with (go_at_call 30; refine (tz _ hc).mono ?_; rintro e w' ⟨rfl, rfl⟩)
  go_ret
  exact ⟨ret_int (hm_eq q), rfl⟩

/-! ### find -/
/-- THE TABLE IN MEMORY: 16 slots of two cells each: the payer, the floor. -/
def slotCell (P F : Nat → Int) (c : Nat) : Value := if c % 2 = 0 then .int .i32 (P (c / 2)) else .int .u32 (F (c / 2))
theorem slot_payer {P F : Nat → Int} {b i : Nat} {w : World} (h : w.rowIs b 32 32 (slotCell P F)) (hi : i < 16) : w.cell? ⟨b, i * 2, none⟩ = some (.int .i32 (P i)) := by
  rw [h.cell (i := i * 2) (by omega)]
  simp [slotCell]
theorem slot_floor {P F : Nat → Int} {b i : Nat} {w : World} (h : w.rowIs b 32 32 (slotCell P F)) (hi : i < 16) : w.cell? ⟨b, i * 2 + 1, none⟩ = some (.int .u32 (F i)) := by
  rw [h.cell (i := i * 2 + 1) (by omega)]
  simp only [slotCell]
  rw [if_neg (by omega), show (i * 2 + 1) / 2 = i by omega]
theorem and15 (x : Int) (h0 : 0 ≤ x) (h1 : x ≤ 1048577) : bits BinOp.and IntKind.i64 x 15 = x % 16 := by
  have h := bits_mask .i64 62 (by decide) (fun n a b => by rw [IntKind.wrap_i64]; omega) 4 (by decide) x h0 (by omega)
  have e : ((2 : Int) ^ 4 - 1) = 15 := by decide
  have e2 : ((2 : Int) ^ 4) = 16 := by decide
  rw [e, e2] at h
  exact h

theorem find_any (bF bS : Nat) (p : Int) (P F : Nat → Int) (h0 : 0 ≤ p) (h1 : p ≤ 1048577) (w : World) (hc : w.cell? ⟨2, 15, none⟩ = some (.int .u8 4)) (hs : w.cell? ⟨bF, 8, none⟩ = some (.slice (some ⟨bS, 0, none⟩) 16 16)) (ht : w.rowIs bS 32 32 (slotCell P F))
    (hP : ∀ i, -2147483648 ≤ P i ∧ P i ≤ 2147483647) (hF : ∀ i, 0 ≤ F i ∧ F i ≤ 4294967295)
    (d : Nat) (hd : d < 16) (hstop : F ((hm p + d) % 16) = 0 ∨ P ((hm p + d) % 16) = p) (hgo : ∀ d', d' < d → F ((hm p + d') % 16) ≠ 0 ∧ P ((hm p + d') % 16) ≠ p) :
    Calls Ybad.prog 25 #[.pointer (some ⟨bF, 5, none⟩), .int .i64 p] w fun e w' => e = .returned (.int .i64 (((hm p + d) % 16 : Nat) : Int)) ∧ w' = w := by
  have HG := hide hgo
  have HS := hide hstop
  have HP := hide hP
  have HF := hide hF
  have hh := hm_lt p
  clear hgo hstop hP hF
  go_enter Ybad.func25, Ybad.ntmps25
  go_wp2_with (go_at_call 29; refine (home_any bF p h0 h1 _ hc bS hs).mono ?_; rintro e w' ⟨rfl, rfl⟩)
  go_loopg [6] d (fun g i wr => ∃ d0 : Nat, d0 + g = d ∧ i = .int .i64 (((hm p + d0) % 16 : Nat) : Int) ∧ wr = w')
  case atStart => exact ⟨0, by omega, by rw [show (hm p + 0) % 16 = hm p by omega], rfl⟩
  case round =>
    obtain ⟨d0, hd0, rfl, rfl⟩ := hrel
    obtain ⟨s, hsl⟩ : ∃ s, s = (hm p + d0) % 16 := ⟨_, rfl⟩
    have hs16 : s < 16 := by omega
    have hcp := slot_payer ht hs16
    have hcf := slot_floor ht hs16
    have hb1 := HP.out s
    have hb2 := HF.out s
    rw [← hsl]
    by_cases hlt : d0 < d
    · have hg := HG.out d0 hlt
      rw [← hsl] at hg
      have g1 : (F s != 0) = true := by simpa using hg.1
      have g2 : (P s != p) = true := by simpa using hg.2
      have ha := and15 ((s : Int) + 1) (by omega) (by omega)
      have HSL := hide hsl
      clear hsl hg
      go_wp2
      go_roundg (gk - 1)
      case measure => omega
      case rel => exact ⟨d0 + 1, by omega, by rw [show (((hm p + (d0 + 1)) % 16 : Nat) : Int) = ((s : Int) + 1) % 16 by have := HSL.out; omega], rfl⟩
    · obtain rfl : d0 = d := by omega
      have hg := HS.out
      rw [← hsl] at hg
      rw [hsl] at hcp hcf hb1 hb2 hs16 hg ⊢
      by_cases hz : F ((hm p + d0) % 16) = 0
      · have g1 : (F ((hm p + d0) % 16) != 0) = false := by simp [hz]
        clear hg hz hsl
        go_wp2
        go_ret
        exact ⟨rfl, rfl⟩
      · have g1 : (F ((hm p + d0) % 16) != 0) = true := by simp [hz]
        have g2 : (P ((hm p + d0) % 16) != p) = false := by simpa [hz] using hg
        clear hg hz hsl
        go_wp2
        go_ret
        exact ⟨rfl, rfl⟩

/-- WHERE THE SEARCH FOR p STOPS: at slot s: there, and nowhere before. -/
def Stops (P F : Nat → Int) (p : Int) (s : Nat) : Prop := ∃ d, d < 16 ∧ (hm p + d) % 16 = s ∧ (F s = 0 ∨ P s = p) ∧ ∀ d', d' < d → F ((hm p + d') % 16) ≠ 0 ∧ P ((hm p + d') % 16) ≠ p
/-- A floors struct at ⟨bF, 5⟩ whose table lies in block bS; and the library's table, as far as it is read. -/
structure Fl (P F : Nat → Int) (bF bS : Nat) (w : World) : Prop where
  tz : w.cell? ⟨2, 15, none⟩ = some (.int .u8 4)
  slots : w.cell? ⟨bF, 8, none⟩ = some (.slice (some ⟨bS, 0, none⟩) 16 16)
  row : w.rowIs bS 32 32 (slotCell P F)
  hP : ∀ i, -2147483648 ≤ P i ∧ P i ≤ 2147483647
  hF : ∀ i, 0 ≤ F i ∧ F i ≤ 4294967295
theorem find_at (bF bS : Nat) (p : Int) (P F : Nat → Int) (h0 : 0 ≤ p) (h1 : p ≤ 1048577) (w : World) (h : Fl P F bF bS w) (s : Nat) (hst : Stops P F p s) :
    Calls Ybad.prog 25 #[.pointer (some ⟨bF, 5, none⟩), .int .i64 p] w fun e w' => e = .returned (.int .i64 (s : Int)) ∧ w' = w := by
  obtain ⟨d, hd, rfl, h2, h3⟩ := hst
  exact find_any bF bS p P F h0 h1 w h.tz h.slots h.row h.hP h.hF d hd h2 h3

/-! ### look: 'uint64(f.slots[f.find(p)].floor) - 1' -/
theorem look_any (bF bS : Nat) (p : Int) (P F : Nat → Int) (h0 : 0 ≤ p) (h1 : p ≤ 1048577) (w : World) (h : Fl P F bF bS w) (s : Nat) (hst : Stops P F p s) (x : Int) (hx : IntKind.u64.wrap (F s - 1) = x) :
    Calls Ybad.prog 20 #[.pointer (some ⟨bF, 5, none⟩), .int .i64 p] w fun e w' => e = .returned (.int .u64 x) ∧ ∃ n, w' = w.drewN n := by
  have HS := hide hst
  have hs16 : s < 16 := by obtain ⟨d, _, rfl, _⟩ := hst; omega
  have hcf := slot_floor h.row hs16
  have hsl := h.slots
  have hb := h.hF s
  have HX := hide hx
  clear hst hx
  generalize F s = y at *
  go_enter Ybad.func20, Ybad.ntmps20
  go_wp2
  go_quiet ((go_at_call 25; exact Calls.quiet_of_same (find_at bF bS p P F h0 h1 _ (by exact ⟨h.tz, h.slots, h.row, h.hP, h.hF⟩) s HS.out)))
  go_wp2
  go_ret
  exact ⟨ret_int HX.out, nq, rfl⟩

/-! ### get -/
theorem and63 (x : Int) (h0 : 0 ≤ x) (h1 : x ≤ 1048577) : bits BinOp.and IntKind.i64 x 63 = x % 64 := by
  have h := bits_mask .i64 62 (by decide) (fun n a b => by rw [IntKind.wrap_i64]; omega) 6 (by decide) x h0 (by omega)
  have e : ((2 : Int) ^ 6 - 1) = 63 := by decide
  have e2 : ((2 : Int) ^ 6) = 64 := by decide
  rw [e, e2] at h
  exact h
theorem and63u (x : Int) (h0 : 0 ≤ x) (h1 : x ≤ 1048577) : bits BinOp.and IntKind.u64 x 63 = x % 64 := by
  have h := bits_mask .u64 62 (by decide) (fun n a b => by rw [IntKind.wrap_u64]; omega) 6 (by decide) x h0 (by omega)
  have e : ((2 : Int) ^ 6 - 1) = 63 := by decide
  have e2 : ((2 : Int) ^ 6) = 64 := by decide
  rw [e, e2] at h
  exact h
theorem get_tab (bF bS : Nat) (p φ : Int) (P F : Nat → Int) (h0 : 0 ≤ p) (h1 : p ≤ 1048577) (w : World) (h : Fl P F bF bS w) (hφ : w.cell? ⟨bF, 5, none⟩ = some (.int .u64 φ)) (hβ : bits BinOp.and IntKind.u64 (φ / 2 ^ (p % 64).toNat) 1 = 1) (s : Nat) (hst : Stops P F p s) (x : Int) (hx : IntKind.u64.wrap (F s - 1) = x) :
    Calls Ybad.prog 17 #[.pointer (some ⟨bF, 5, none⟩), .int .i64 p] w fun e w' => e = .returned (.int .u64 x) ∧ ∃ n, w' = w.drewN n := by
  have HS := hide hst
  have HX := hide hx
  clear hst hx
  have ha := and63 p h0 h1
  go_enter Ybad.func17, Ybad.ntmps17
  go_wp2_with (go_at_call 20; refine (look_any bF bS p P F h0 h1 _ h s HS.out x HX.out).mono ?_; rintro e w' ⟨rfl, n, rfl⟩)
  go_ret
  exact ⟨rfl, _, rfl⟩
theorem get_arr (bF bA n cap : Nat) (p φ y : Int) (h0 : 0 ≤ p) (h1 : p ≤ 1048577) (w : World) (hφ : w.cell? ⟨bF, 5, none⟩ = some (.int .u64 φ)) (hβ : bits BinOp.and IntKind.u64 (φ / 2 ^ (p % 64).toNat) 1 = 0) (ha : w.cell? ⟨bF, 6, none⟩ = some (.slice (some ⟨bA, 0, none⟩) n cap)) (hp : p < (n : Int)) (hy : w.cell? ⟨bA, p.toNat, none⟩ = some (.int .u32 y)) (hb : 0 ≤ y ∧ y ≤ 4294967295) :
    Calls Ybad.prog 17 #[.pointer (some ⟨bF, 5, none⟩), .int .i64 p] w fun e w' => e = .returned (.int .u64 (IntKind.u64.wrap (y - 1))) ∧ w' = w := by
  have ha := and63 p h0 h1
  go_enter Ybad.func17, Ybad.ntmps17
  go_wp2
  go_ret
  exact ⟨rfl, rfl⟩
end Go.Proofs.YbulkezdaDoor
