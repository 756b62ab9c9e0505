/-
  slices.Clone at this dump's instances.
-/
import Derived.Test.YbulkezdaDoorSlices
import Derived.Lib.SliceRun
namespace Go.Proofs.YbulkezdaDoor
open Go.RowKit

theorem Ybad.info3 : (Ybad.prog.info? 3).map (fun i => (i.zero, i.size, i.bytes)) = some (some (.int .i64 0), 1, 8) := by kernel_rfl
theorem Ybad.info29 : (Ybad.prog.info? 29).map (fun i => (i.zero, i.size, i.bytes)) = some (some (.int .u32 0), 1, 4) := by kernel_rfl
theorem Ybad.info32 : (Ybad.prog.info? 32).map (fun i => (i.zero, i.size, i.bytes)) = some (some (.agg #[.int .i32 0, .int .u32 0]), 2, 8) := by kernel_rfl

/-- The shape of what is owned and not nil. -/
theorem own_shape {w : World} {base : Nat} {e : TypeId} {size n : Nat} {v : Value} {xs : List Value} (h : w.ownsRow base e size v n xs) (hv : v ≠ .slice none 0 0) : ∃ g cap, v = .slice (some ⟨g, 0, none⟩) n cap ∧ base ≤ g ∧ g < w.heap.size := by
  rcases h.2 with ⟨h', _⟩ | ⟨g, cap, cur, h', hb, hg, _⟩
  · exact absurd h' hv
  · exact ⟨g, cap, h', hb, (Array.getElem?_eq_some_iff.1 hg).1⟩
/-- A new block, then what a law on append leaves of a row that lies in it. -/
theorem grown_new {w w1 : World} {o : Obj} {row : Option Nat} (h : (w.alloc o).grownBy w1 row) (hr : ∀ k, row = some k → w.heap.size ≤ k) : w.grownBy w1 none :=
  ⟨h.os, h.tape, h.output, by have := h.size; simp at this; omega, fun k hk _ => (h.block k (by simp; omega) (fun e => by have := hr k e.symm; omega)).trans (Below.heap_alloc w o k hk)⟩

theorem clone_nil9 (w : World) : Calls Ybad.prog 9 #[.slice none 0 0] w fun e w' => e = .returned (.slice none 0 0) ∧ w' = w := by
  have hnil := fun (a : Option Addr) (n c : Nat) (w : World) => Lib.run_eql_slice_nil (P := Ybad.prog) w 23 3 a n c 0 0 Ybad.underlying23
  go_enter Ybad.func9, Ybad.ntmps9
  go_wp2
  go_ret
  exact ⟨rfl, rfl⟩

set_option maxRecDepth 100000 in
theorem clone9 (ad : Addr) (n cap : Nat) (xs : List Value) (w : World) (hn : n ≤ 1048577) (hl : xs.length = n * 1) (hsrc : ∀ j u, xs[j]? = some u → w.cell? (ad.add j) = some u) (h1 : ∀ u ∈ xs, u.oneCell' = true) :
    Calls Ybad.prog 9 #[.slice (some ad) n cap] w fun e w' => ∃ g cap', e = .returned (.slice (some ⟨g, 0, none⟩) n cap') ∧ w'.ownsRow w.heap.size 3 1 (.slice (some ⟨g, 0, none⟩) n cap') n xs ∧ w.grownBy w' none ∧ w.heap.size ≤ g ∧ g < w'.heap.size := by
  have HS := hide hsrc
  have H1 := hide h1
  have HL := hide hl
  clear hsrc h1 hl
  obtain ⟨i0, hi, hz0, hz1, hz2⟩ := info_parts Ybad.info3
  have hnil := fun (a : Option Addr) (n c : Nat) (w : World) => Lib.run_eql_slice_nil (P := Ybad.prog) w 23 3 a n c 0 0 Ybad.underlying23
  go_enter Ybad.func9, Ybad.ntmps9
  go_wp2_with (at_builtin; refine wpList_append_own _ rfl (.tmp 5) (.tmp 6) 23 rfl w.heap.size 3 i0 (.int .i64 0) 1 8 Ybad.underlying23 hi hz0 hz1 hz2 rfl (by decide) (.slice (some ⟨w.heap.size, 0, none⟩) 0 0) 0 [] rfl (World.ownsRow_made _ _ 0 (Nat.le_refl _) (by decide) rfl) ad n cap xs rfl HL.out (fun j u hj => by rw [World.cell?_alloc_lt _ _ _ (block_lt_of_cell (HS.out j u hj))]; exact HS.out j u hj) H1.out (by unfold maxLen; omega) (by omega) (by simp) ?_; intro v' w1 hown' hgrow hne)
  go_ret
  have hv : v' ≠ .slice none 0 0 := fun e => by have := (hne.1 e).1; simp at this
  obtain ⟨g, cap', hs, hb, hlt⟩ := own_shape hown' hv
  rw [Nat.zero_add] at hs
  rw [Nat.zero_add, List.nil_append, hs] at hown'
  exact ⟨g, cap', congrArg Ending.returned hs, hown', grown_new hgrow (fun k hk => by simp [Value.ownBlock] at hk; omega), hb, hlt⟩

set_option maxRecDepth 100000 in
theorem clone7 (ad : Addr) (n cap : Nat) (xs : List Value) (w : World) (hn : n ≤ 1048577) (hl : xs.length = n * 1) (hsrc : ∀ j u, xs[j]? = some u → w.cell? (ad.add j) = some u) (h1 : ∀ u ∈ xs, u.oneCell' = true) :
    Calls Ybad.prog 7 #[.slice (some ad) n cap] w fun e w' => ∃ g cap', e = .returned (.slice (some ⟨g, 0, none⟩) n cap') ∧ w'.ownsRow w.heap.size 29 1 (.slice (some ⟨g, 0, none⟩) n cap') n xs ∧ w.grownBy w' none ∧ w.heap.size ≤ g ∧ g < w'.heap.size := by
  have HS := hide hsrc
  have H1 := hide h1
  have HL := hide hl
  clear hsrc h1 hl
  obtain ⟨i0, hi, hz0, hz1, hz2⟩ := info_parts Ybad.info29
  have hnil := fun (a : Option Addr) (n c : Nat) (w : World) => Lib.run_eql_slice_nil (P := Ybad.prog) w 22 29 a n c 0 0 Ybad.underlying22
  go_enter Ybad.func7, Ybad.ntmps7
  go_wp2_with (at_builtin; refine wpList_append_own _ rfl (.tmp 5) (.tmp 6) 22 rfl w.heap.size 29 i0 (.int .u32 0) 1 4 Ybad.underlying22 hi hz0 hz1 hz2 rfl (by decide) (.slice (some ⟨w.heap.size, 0, none⟩) 0 0) 0 [] rfl (World.ownsRow_made _ _ 0 (Nat.le_refl _) (by decide) rfl) ad n cap xs rfl HL.out (fun j u hj => by rw [World.cell?_alloc_lt _ _ _ (block_lt_of_cell (HS.out j u hj))]; exact HS.out j u hj) H1.out (by unfold maxLen; omega) (by omega) (by simp) ?_; intro v' w1 hown' hgrow hne)
  go_ret
  have hv : v' ≠ .slice none 0 0 := fun e => by have := (hne.1 e).1; simp at this
  obtain ⟨g, cap', hs, hb, hlt⟩ := own_shape hown' hv
  rw [Nat.zero_add] at hs
  rw [Nat.zero_add, List.nil_append, hs] at hown'
  exact ⟨g, cap', congrArg Ending.returned hs, hown', grown_new hgrow (fun k hk => by simp [Value.ownBlock] at hk; omega), hb, hlt⟩

set_option maxRecDepth 100000 in
theorem clone8 (ad : Addr) (n cap : Nat) (xs : List Value) (w : World) (hn : n ≤ 1048577) (hl : xs.length = n * 2) (hsrc : ∀ j u, xs[j]? = some u → w.cell? (ad.add j) = some u) (h1 : ∀ u ∈ xs, u.oneCell' = true) :
    Calls Ybad.prog 8 #[.slice (some ad) n cap] w fun e w' => ∃ g cap', e = .returned (.slice (some ⟨g, 0, none⟩) n cap') ∧ w'.ownsRow w.heap.size 32 2 (.slice (some ⟨g, 0, none⟩) n cap') n xs ∧ w.grownBy w' none ∧ w.heap.size ≤ g ∧ g < w'.heap.size := by
  have HS := hide hsrc
  have H1 := hide h1
  have HL := hide hl
  clear hsrc h1 hl
  obtain ⟨i0, hi, hz0, hz1, hz2⟩ := info_parts Ybad.info32
  have hnil := fun (a : Option Addr) (n c : Nat) (w : World) => Lib.run_eql_slice_nil (P := Ybad.prog) w 27 32 a n c 0 0 Ybad.underlying27
  go_enter Ybad.func8, Ybad.ntmps8
  go_wp2_with (at_builtin; refine wpList_append_own _ rfl (.tmp 5) (.tmp 6) 27 rfl w.heap.size 32 i0 (.agg #[.int .i32 0, .int .u32 0]) 2 8 Ybad.underlying27 hi hz0 hz1 hz2 rfl (by decide) (.slice (some ⟨w.heap.size, 0, none⟩) 0 0) 0 [] rfl (World.ownsRow_made _ _ 0 (Nat.le_refl _) (by decide) rfl) ad n cap xs rfl HL.out (fun j u hj => by rw [World.cell?_alloc_lt _ _ _ (block_lt_of_cell (HS.out j u hj))]; exact HS.out j u hj) H1.out (by unfold maxLen; omega) (by omega) (by simp) ?_; intro v' w1 hown' hgrow hne)
  go_ret
  have hv : v' ≠ .slice none 0 0 := fun e => by have := (hne.1 e).1; simp at this
  obtain ⟨g, cap', hs, hb, hlt⟩ := own_shape hown' hv
  rw [Nat.zero_add] at hs
  rw [Nat.zero_add, List.nil_append, hs] at hown'
  exact ⟨g, cap', congrArg Ending.returned hs, hown', grown_new hgrow (fun k hk => by simp [Value.ownBlock] at hk; omega), hb, hlt⟩
end Go.Proofs.YbulkezdaDoor
