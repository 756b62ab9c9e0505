/-
  THE LAW's STATE, AS FACTS ON WORLDS. N: the heap's size when the law was entered. Block N: orig. Blocks N + 1 .. N + 3 + W: newPerProcess's. Block N + 4 + W: the variable got.
-/
import Derived.Test.YbulkezdaNpp
import Derived.Deep.Draws
namespace Go.Proofs.Ybulkezda
open Go.RowKit
theorem Yba.info3 : (Yba.prog.info? 3).map (fun i => (i.zero, i.size, i.bytes)) = some (some (.int .i64 0), 1, 8) := by kernel_rfl

/-- BEHIND k ROUNDS OF THE COPY INTO orig. -/
structure Or (z : List Int) (n N : Nat) (w : World) (k : Nat) (wr : World) : Prop where
  size : wr.heap.size = N + 1
  below : Below N w wr
  row : wr.rowIs N 3 n (fun j => .int .i64 (if j < k then z.getD j 0 else 0))
theorem Or.start (z : List Int) (n : Nat) (w : World) : Or z n w.heap.size w 0 (w.alloc (.cells (madeCells #[.int .i64 0] n) 3)) :=
  ⟨by simp, (Below.refl _ _).alloc (Nat.le_refl _) _, by simpa using World.rowIs_made w (.int .i64 0) n 3⟩
theorem Or.step {z : List Int} {n N k : Nat} {w wr : World} (h : Or z n N w k wr) : Or z n N w (k + 1) (wr.setCell ⟨N, k, none⟩ (.int .i64 (z.getD k 0))) := by
  refine ⟨by simp [h.size], h.below.setCell (by simp) _, (h.row.set k _).congr fun j hj => ?_⟩
  by_cases e : j = k
  · subst e; simp
  · simp only [if_neg e]
    by_cases e' : j < k
    · rw [if_pos e', if_pos (by omega)]
    · rw [if_neg e', if_neg (by omega)]

/-- THE STATE FROM THE TABLE ON. -/
structure G (z : List Int) (n W N : Nat) (w : World) (f : Nat → Nat → Int) (wr : World) : Prop where
  below : Below N w wr
  orig : wr.rowIs N 3 n (fun j => .int .i64 (z.getD j 0))
  got : wr.rowIs (N + 4 + W) 25 1 (fun _ => .slice (some ⟨N + 2, 0, none⟩) W W)
  ptr : wr.rowIs (N + 2) 27 W (fun i => .pointer (some ⟨N + 4 + i, 0, none⟩))
  arr : ∀ i, i < W → wr.rowIs (N + 4 + i) 29 64 (fun j => .int .i64 (f i j))
theorem G.start {z : List Int} {n W N : Nat} {w w1 w2 : World} (h : Or z n N w n w1) (hs : w2.heap.size = N + 4 + W) (hb : Below w1.heap.size w1 w2) (ht : Tab (val z n) W w1.heap.size w2) :
    G z n W N w (val z n) (w2.alloc (.cells #[.slice (some ⟨N + 2, 0, none⟩) W W] 25)) := by
  rw [h.size] at hb ht
  refine ⟨(h.below.trans (hb.mono (by omega))).alloc (by omega) _, ?_, ?_, ht.ptr.alloc _, fun i hi => ?_⟩
  · refine World.rowIs.alloc ?_ _
    exact (h.row.congr fun j hj => by simp [hj]).of_block (hb.block N (by omega))
  · have := World.rowIs_alloc w2 #[.slice (some ⟨N + 2, 0, none⟩) W W] 25 (fun _ => .slice (some ⟨N + 2, 0, none⟩) W W) (fun i hi => by simp at hi; subst hi; rfl)
    rw [hs] at this
    exact this
  · have := (ht.arr i hi).alloc (.cells #[.slice (some ⟨N + 2, 0, none⟩) W W] 25)
    rw [show N + 1 + 3 + i = N + 4 + i by omega] at this
    exact this
theorem G.drewN {z : List Int} {n W N m : Nat} {w wr : World} {f : Nat → Nat → Int} (h : G z n W N w f wr) : G z n W N w f (wr.drewN m) :=
  ⟨⟨h.below.os, h.below.tape, h.below.output, h.below.size, h.below.block⟩, h.orig, h.got, h.ptr, h.arr⟩
theorem G.congr {z : List Int} {n W N : Nat} {w wr : World} {f g : Nat → Nat → Int} (h : G z n W N w f wr) (e : ∀ i j, i < W → j < 64 → f i j = g i j) : G z n W N w g wr :=
  ⟨h.below, h.orig, h.got, h.ptr, fun i hi => (h.arr i hi).congr fun j hj => by rw [e i j hi hj]⟩
theorem G.set {z : List Int} {n W N : Nat} {w wr : World} {f : Nat → Nat → Int} (h : G z n W N w f wr) (i j : Nat) (hi : i < W) (v : Int) :
    G z n W N w (fun i' j' => if i' = i ∧ j' = j then v else f i' j') (wr.setCell ⟨N + 4 + i, j, none⟩ (.int .i64 v)) := by
  refine ⟨h.below.setCell (by simp; omega) _, h.orig.setOther (by simp; omega) _, h.got.setOther (by simp; omega) _, h.ptr.setOther (by simp; omega) _, fun i' hi' => ?_⟩
  by_cases e : i' = i
  · subst e
    refine ((h.arr i' hi').set j _).congr fun j' hj' => ?_
    by_cases e' : j' = j <;> simp [e']
  · refine ((h.arr i' hi').setOther (by simp; omega) _).congr fun j' hj' => ?_
    simp [e]
/-- What is read of it. -/
theorem G.gotc {z : List Int} {n W N : Nat} {w wr : World} {f : Nat → Nat → Int} (h : G z n W N w f wr) : wr.cell? ⟨N + 4 + W, 0, none⟩ = some (.slice (some ⟨N + 2, 0, none⟩) W W) := h.got.cell (by omega)
theorem G.ptrc {z : List Int} {n W N i : Nat} {w wr : World} {f : Nat → Nat → Int} (h : G z n W N w f wr) (hi : i < W) : wr.cell? ⟨N + 2, i, none⟩ = some (.pointer (some ⟨N + 4 + i, 0, none⟩)) := h.ptr.cell hi
theorem G.arrc {z : List Int} {n W N i j : Nat} {w wr : World} {f : Nat → Nat → Int} (h : G z n W N w f wr) (hi : i < W) (hj : j < 64) : wr.cell? ⟨N + 4 + i, j, none⟩ = some (.int .i64 (f i j)) := (h.arr i hi).cell hj
theorem G.arrf {z : List Int} {n W N i : Nat} {w wr : World} {f : Nat → Nat → Int} (h : G z n W N w f wr) (hi : i < W) (j : Nat) : wr.frozen? ⟨N + 4 + i, j, none⟩ = false := (h.arr i hi).frozen j
theorem G.origc {z : List Int} {n W N k : Nat} {w wr : World} {f : Nat → Nat → Int} (h : G z n W N w f wr) (hk : k < n) : wr.cell? ⟨N, k, none⟩ = some (.int .i64 (z.getD k 0)) := h.orig.cell hk

/-- The marker of place j of part i. -/
def mark (z : List Int) (n i j : Nat) : Int := if i * 64 + j < n ∧ z.getD (i * 64 + j) 0 = (i * 64 + j : Nat) + 1 then -((i * 64 + j : Nat) + 1) else (i * 64 + j : Nat) + 1
/-- WHILE THE MARKERS ARE WRITTEN: the parts below i are done, of part i the places below j. -/
def mkd (z : List Int) (n i j i' j' : Nat) : Int := if i' < i ∨ (i' = i ∧ j' < j) then mark z n i' j' else val z n i' j'
theorem mkd_zero (z : List Int) (n i j : Nat) : mkd z n 0 0 i j = val z n i j := by simp [mkd]
theorem mkd_next (z : List Int) (n i : Nat) : ∀ i' j', j' < 64 → mkd z n i 64 i' j' = mkd z n (i + 1) 0 i' j' := by
  intro i' j' hj'
  simp only [mkd]
  by_cases e : i' < i ∨ (i' = i ∧ j' < 64)
  · rw [if_pos e, if_pos (by omega)]
  · rw [if_neg e, if_neg (by omega)]
theorem mkd_done (z : List Int) (n W : Nat) : ∀ i' j', i' < W → mkd z n W 0 i' j' = mark z n i' j' := by
  intro i' j' hi'
  simp only [mkd]
  rw [if_pos (by omega)]
theorem mkd_set (z : List Int) (n i j : Nat) (v : Int) (hv : v = mark z n i j) : ∀ i' j', (if i' = i ∧ j' = j then v else mkd z n i j i' j') = mkd z n i (j + 1) i' j' := by
  intro i' j'
  simp only [mkd]
  by_cases e : i' = i ∧ j' = j
  · obtain ⟨rfl, rfl⟩ := e
    simp [hv]
  · rw [if_neg e]
    by_cases e' : i' < i ∨ (i' = i ∧ j' < j)
    · rw [if_pos e', if_pos (by omega)]
    · rw [if_neg e', if_neg (by omega)]
/-- One store: the marker as it is. -/
theorem G.mark1 {z : List Int} {n W N i j m : Nat} {w wr : World} (h : G z n W N w (mkd z n i j) wr) (hi : i < W) (v : Int) (hv : v = mark z n i j) :
    G z n W N w (mkd z n i (j + 1)) ((wr.setCell ⟨N + 4 + i, j, none⟩ (.int .i64 v)).drewN m) :=
  ((h.set i j hi v).congr fun i' j' _ _ => mkd_set z n i j v hv i' j').drewN
/-- Two stores: the marker turned. -/
theorem G.mark2 {z : List Int} {n W N i j m : Nat} {w wr : World} (h : G z n W N w (mkd z n i j) wr) (hi : i < W) (u v : Int) (hv : v = mark z n i j) :
    G z n W N w (mkd z n i (j + 1)) (((wr.setCell ⟨N + 4 + i, j, none⟩ (.int .i64 u)).drewN m).setCell ⟨N + 4 + i, j, none⟩ (.int .i64 v)) := by
  refine (((h.set i j hi u).drewN (m := m)).set i j hi v).congr fun i' j' _ _ => ?_
  rw [← mkd_set z n i j v hv i' j']
  by_cases e : i' = i ∧ j' = j <;> simp [e]
theorem mark_yes (z : List Int) (n i j : Nat) (h : i * 64 + j < n) (e : z[i * 64 + j]?.getD 0 = (i : Int) * 64 + j + 1) : -((i : Int) * 64 + j + 1) = mark z n i j := by
  simp only [mark]
  rw [if_pos ⟨h, by rw [List.getD_eq_getElem?_getD, e]; omega⟩]
  omega
theorem mark_no (z : List Int) (n i j : Nat) (e : ¬ z[i * 64 + j]?.getD 0 = (i : Int) * 64 + j + 1) : (i : Int) * 64 + j + 1 = mark z n i j := by
  simp only [mark]
  rw [if_neg (by rw [List.getD_eq_getElem?_getD]; omega)]
  omega
theorem mark_past (z : List Int) (n i j : Nat) (h : ¬ i * 64 + j < n) : (i : Int) * 64 + j + 1 = mark z n i j := by
  simp only [mark]
  rw [if_neg (by omega)]
  omega
end Go.Proofs.Ybulkezda
