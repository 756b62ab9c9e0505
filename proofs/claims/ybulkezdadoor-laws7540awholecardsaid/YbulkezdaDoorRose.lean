/-
  watchPayer and rose.
-/
import Derived.Test.YbulkezdaDoorClone
namespace Go.Proofs.YbulkezdaDoor
open Go.RowKit

/-- WHAT AN APPEND TO s.watch LEAVES. -/
def Added (w : World) (bF base n : Nat) (v : Value) (xs : List Value) (p : Int) (w' : World) : Prop :=
  ∃ X g' cap' w1, (w.alloc X).grownBy w1 v.ownBlock ∧ w1.ownsRow base 3 1 (.slice (some ⟨g', 0, none⟩) (n + 1) cap') (n + 1) (xs ++ [.int .i64 p]) ∧ w' = w1.setCell ⟨bF, 10, none⟩ (.slice (some ⟨g', 0, none⟩) (n + 1) cap')

theorem grown_block {w w1 : World} {o : Obj} {row : Option Nat} (h : (w.alloc o).grownBy w1 row) {k : Nat} (hk : k < w.heap.size) (hr : row ≠ some k) : w1.heap[k]? = w.heap[k]? :=
  (h.block k (by simp; omega) (fun e => hr e.symm)).trans (Below.heap_alloc w o k hk)
theorem grown_cell {w w1 : World} {o : Obj} {row : Option Nat} (h : (w.alloc o).grownBy w1 row) {a : Addr} {u : Value} (hc : w.cell? a = some u) (hr : row ≠ some a.block) : w1.cell? a = some u :=
  (World.cell?_of_block (grown_block h (block_lt_of_cell hc) hr)).trans hc
theorem grown_frozen {w w1 : World} {o : Obj} {row : Option Nat} (h : (w.alloc o).grownBy w1 row) {a : Addr} {u : Value} (hc : w.cell? a = some u) (hf : w.frozen? a = false) (hr : row ≠ some a.block) : w1.frozen? a = false :=
  (World.frozen?_of_block (grown_block h (block_lt_of_cell hc) hr)).trans hf

theorem new_one {w : World} (n : Nat) (x : Int) (hn : n = w.heap.size) : ∀ j u, [Value.int .i64 x][j]? = some u → (w.alloc (.cells #[.int .i64 x] 3)).cell? (Addr.add ⟨n, 0, none⟩ j) = some u := by
  intro j u hj
  subst hn
  cases j with
  | zero => simp at hj; subst hj; simp [Addr.add]
  | succ j => simp at hj
theorem watch_skip (bF g n cap : Nat) (p : Int) (w : World) (hn : 1 ≤ n) (hn' : n ≤ 1048577) (hv : w.cell? ⟨bF, 10, none⟩ = some (.slice (some ⟨g, 0, none⟩) n cap)) (hl : w.cell? ⟨g, n - 1, none⟩ = some (.int .i64 p)) :
    Calls Ybad.prog 18 #[.pointer (some ⟨bF, 0, none⟩), .int .i64 p] w fun e w' => e = .returned (.tuple #[]) ∧ w' = w := by
  have h1 : ((n : Int) == 0) = false := by simp; omega
  go_enter Ybad.func18, Ybad.ntmps18
  go_wp2
  go_end0
  exact ⟨rfl, rfl⟩

set_option maxRecDepth 100000 in
theorem watch_add_empty (bF base cap : Nat) (a : Option Addr) (p : Int) (w : World) (hv : w.cell? ⟨bF, 10, none⟩ = some (.slice a 0 cap)) (hf : w.frozen? ⟨bF, 10, none⟩ = false) (hown : w.ownsRow base 3 1 (.slice a 0 cap) 0 []) (hbase : base ≤ w.heap.size) (hne : (Value.slice a 0 cap).ownBlock ≠ some bF) :
    Calls Ybad.prog 18 #[.pointer (some ⟨bF, 0, none⟩), .int .i64 p] w fun e w' => e = .returned (.tuple #[]) ∧ Added w bF base 0 (.slice a 0 cap) [] p w' := by
  have HO := hide hown
  have HN := hide hne
  clear hown hne
  obtain ⟨i0, hi, hz0, hz1, hz2⟩ := info_parts Ybad.info3
  have hbw := block_lt_of_cell hv
  go_enter Ybad.func18, Ybad.ntmps18
  go_wp2_with (at_builtin; refine wpList_append_own _ rfl (.tmp 28) (.tmp 30) 23 rfl base 3 i0 (.int .i64 0) 1 8 Ybad.underlying23 hi hz0 hz1 hz2 rfl (by decide) (.slice a 0 cap) 0 [] rfl (HO.out.alloc _) ⟨w.heap.size, 0, none⟩ 1 1 [.int .i64 p] rfl rfl (fun j u hj => by cases j with | zero => simp at hj; subst hj; simp [Addr.add] | succ j => simp at hj) (fun u hu => by simp at hu; subst hu; rfl) (by unfold maxLen; omega) (by omega) (by simp; omega) ?_; intro v' w1 hown' hgrow hnn; obtain ⟨g', cap', hs, hb', hlt'⟩ := own_shape hown' (fun e => by have := (hnn.1 e).2; omega); rw [hs]; have hc1 := grown_cell hgrow hv HN.out; have hf1 := grown_frozen hgrow hv hf HN.out)
  go_end0
  rw [hs] at hown'
  exact ⟨rfl, _, g', cap', w1, hgrow, by simpa using hown', by simp⟩

set_option maxRecDepth 100000 in
theorem watch_add_more (bF base g n cap : Nat) (p y : Int) (xs : List Value) (w : World) (hn : 1 ≤ n) (hn' : n ≤ 1048577) (hv : w.cell? ⟨bF, 10, none⟩ = some (.slice (some ⟨g, 0, none⟩) n cap)) (hf : w.frozen? ⟨bF, 10, none⟩ = false) (hl : w.cell? ⟨g, n - 1, none⟩ = some (.int .i64 y)) (hyp : y ≠ p) (hown : w.ownsRow base 3 1 (.slice (some ⟨g, 0, none⟩) n cap) n xs) (hbase : base ≤ w.heap.size) (hne : (Value.slice (some ⟨g, 0, none⟩) n cap).ownBlock ≠ some bF) :
    Calls Ybad.prog 18 #[.pointer (some ⟨bF, 0, none⟩), .int .i64 p] w fun e w' => e = .returned (.tuple #[]) ∧ Added w bF base n (.slice (some ⟨g, 0, none⟩) n cap) xs p w' := by
  have HO := hide hown
  have HN := hide hne
  have h1 : ((n : Int) == 0) = false := by simp; omega
  have h2 : (y != p) = true := by simpa using hyp
  clear hown hne
  obtain ⟨i0, hi, hz0, hz1, hz2⟩ := info_parts Ybad.info3
  have hbw := block_lt_of_cell hv
  go_enter Ybad.func18, Ybad.ntmps18
  go_wp2_with (at_builtin; refine wpList_append_own _ rfl (.tmp 28) (.tmp 30) 23 rfl base 3 i0 (.int .i64 0) 1 8 Ybad.underlying23 hi hz0 hz1 hz2 rfl (by decide) (.slice (some ⟨g, 0, none⟩) n cap) n xs rfl (HO.out.alloc _) ⟨w.heap.size, 0, none⟩ 1 1 [.int .i64 p] rfl rfl (fun j u hj => by cases j with | zero => simp at hj; subst hj; simp [Addr.add] | succ j => simp at hj) (fun u hu => by simp at hu; subst hu; rfl) (by unfold maxLen; omega) (by omega) (by simp; omega) ?_; intro v' w1 hown' hgrow hnn; obtain ⟨g', cap', hs, hb', hlt'⟩ := own_shape hown' (fun e => by have := (hnn.1 e).2; omega); rw [hs]; have hc1 := grown_cell hgrow hv HN.out; have hf1 := grown_frozen hgrow hv hf HN.out)
  go_end0
  rw [hs] at hown'
  exact ⟨rfl, _, g', cap', w1, hgrow, by simpa using hown', by simp⟩

/-! ### rose: out of what get answers -/
theorem rose_no (bF : Nat) (p : Int) (w : World) (hget : Calls Ybad.prog 17 #[.pointer (some ⟨bF, 5, none⟩), .int .i64 p] w fun e w' => e = .returned (.int .u64 18446744073709551615) ∧ ∃ n, w' = w.drewN n) :
    Calls Ybad.prog 10 #[.pointer (some ⟨bF, 0, none⟩), .int .i64 p] w fun e w' => e = .returned (.tuple #[]) ∧ ∃ n, w' = w.drewN n := by
  have HG := hide hget
  clear hget
  go_enter Ybad.func10, Ybad.ntmps10
  go_wp2_with (go_at_call 17; refine HG.out.mono ?_; rintro e w' ⟨rfl, n, rfl⟩)
  go_end0
  exact ⟨rfl, _, rfl⟩
theorem rose_yes (bF : Nat) (p x : Int) (Q : World → Prop) (w : World) (hget : Calls Ybad.prog 17 #[.pointer (some ⟨bF, 5, none⟩), .int .i64 p] w fun e w' => e = .returned (.int .u64 x) ∧ ∃ n, w' = w.drewN n) (hx : (x != 18446744073709551615) = true)
    (hw : ∀ m, Calls Ybad.prog 18 #[.pointer (some ⟨bF, 0, none⟩), .int .i64 p] (w.drewN m) fun e w' => e = .returned (.tuple #[]) ∧ Q w') :
    Calls Ybad.prog 10 #[.pointer (some ⟨bF, 0, none⟩), .int .i64 p] w fun e w' => e = .returned (.tuple #[]) ∧ Q w' := by
  have HG := hide hget
  have HW := hide hw
  clear hget hw
  go_enter Ybad.func10, Ybad.ntmps10
  go_wp2_with (first | (go_at_call 17; refine HG.out.mono ?_; rintro e w' ⟨rfl, n, rfl⟩) | (go_at_call 18; refine (HW.out _).mono ?_; rintro e w' ⟨rfl, hq⟩))
  go_end0
  exact ⟨rfl, hq⟩
end Go.Proofs.YbulkezdaDoor
