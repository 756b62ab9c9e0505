/-
  THE LAW's STATE BEHIND THE FIRST LOOP: the copies, the receiver s, its watch; and the contracts of the calls that follow, over that state.
-/
import Derived.Test.YbulkezdaDoorState
namespace Go.Proofs.YbulkezdaDoor
open Go.ChangeShapes Go.WideShapes Go.ChangeAt Go.RowKit

/-- The cells of s (a pendingTxs): list, queue, floors, watch. -/
def sCell (N n : Nat) (φ : Int) (used : Nat) (x : Value) : Nat → Value
  | 0 => .slice none 0 0
  | 1 => .slice none 0 0
  | 2 => .int .i32 0
  | 3 => .int .i32 0
  | 4 => .int .i32 0
  | 5 => .int .u64 φ
  | 6 => .slice (some ⟨N, 0, none⟩) n n
  | 7 => .bool true
  | 8 => .slice (some ⟨N + 1, 0, none⟩) 16 16
  | 9 => .int .i64 used
  | _ => x

/-- WITHOUT s. -/
structure Cop (N n gC gD : Nat) (w : World) (A P F : Nat → Int) (wr : World) : Prop where
  below : Below N w wr
  arr : wr.rowIs N 29 n (fun i => .int .u32 (A i))
  tab : wr.rowIs (N + 1) 32 32 (slotCell P F)
  arrC : ∀ j, j < n → wr.cell? ⟨gC, j, none⟩ = some (.int .u32 (A j))
  tabC : ∀ j, j < 32 → wr.cell? ⟨gD, j, none⟩ = some (slotCell P F j)
theorem Cop.keep {N n gC gD : Nat} {w wr wr' : World} {A P F : Nat → Int} (h : Cop N n gC gD w A P F wr) (hb : Below N w wr') (e : ∀ k, k = N ∨ k = N + 1 ∨ k = gC ∨ k = gD → wr'.heap[k]? = wr.heap[k]?) : Cop N n gC gD w A P F wr' :=
  ⟨hb, h.arr.of_block (e N (by simp)), h.tab.of_block (e (N + 1) (by simp)), fun j hj => (World.cell?_of_block (w := wr) (a := ⟨gC, j, none⟩) (e gC (by simp))).trans (h.arrC j hj), fun j hj => (World.cell?_of_block (w := wr) (a := ⟨gD, j, none⟩) (e gD (by simp))).trans (h.tabC j hj)⟩

/-! ### the two copies -/
theorem row_src {w : World} {b : Nat} {t : TypeId} {n : Nat} {f : Nat → Value} (h : w.rowIs b t n f) : ∀ j u, ((List.range n).map f)[j]? = some u → w.cell? (Addr.add ⟨b, 0, none⟩ j) = some u := by
  intro j u hj
  have hjl : j < n := by
    have := (List.getElem?_eq_some_iff.1 hj).1
    simpa using this
  rw [List.getElem?_map, List.getElem?_range hjl] at hj
  simp at hj
  rw [show Addr.add ⟨b, 0, none⟩ j = ⟨b, j, none⟩ by simp [Addr.add]; intro e; exact e.symm, h.cell hjl, hj]
theorem own_cells {w : World} {base g n cap size : Nat} {e : TypeId} {m : Nat} {f : Nat → Value} (h : w.ownsRow base e size (.slice (some ⟨g, 0, none⟩) n cap) n ((List.range m).map f)) (hm : m = n * size) : ∀ j, j < m → w.cell? ⟨g, j, none⟩ = some (f j) := by
  intro j hj
  rw [h.cellAt j (by omega), List.getElem?_map, List.getElem?_range hj]
  rfl
theorem Cop.start {N n gC gD cC cD b3 b4 : Nat} {w wc w3 w4 : World} {A P F : Nat → Int} {xs : List Int} {v : Value} (h : St N n w A P F xs v wc)
    (hoC : w3.ownsRow b3 29 1 (.slice (some ⟨gC, 0, none⟩) n cC) n ((List.range n).map fun i => .int .u32 (A i))) (hg3 : wc.grownBy w3 none) (hgC' : gC < w3.heap.size)
    (hoD : w4.ownsRow b4 32 2 (.slice (some ⟨gD, 0, none⟩) 16 cD) 16 ((List.range 32).map (slotCell P F))) (hg4 : w3.grownBy w4 none) :
    Cop N n gC gD w A P F w4 := by
  have hsz := h.size
  have e3 : ∀ k, k < wc.heap.size → w3.heap[k]? = wc.heap[k]? := fun k hk => hg3.block k hk (by simp)
  have e4 : ∀ k, k < w3.heap.size → w4.heap[k]? = w3.heap[k]? := fun k hk => hg4.block k hk (by simp)
  have hs3 := hg3.size
  refine ⟨(h.below.grown hg3 (by omega) (by simp)).grown hg4 (by omega) (by simp), (h.arr.of_block (e3 N (by omega))).of_block (e4 N (by omega)), (h.tab.of_block (e3 (N + 1) (by omega))).of_block (e4 (N + 1) (by omega)), fun j hj => ?_, own_cells hoD rfl⟩
  exact (World.cell?_of_block (w := w3) (a := ⟨gC, j, none⟩) (e4 gC hgC')).trans (own_cells hoC (by omega) j hj)

/-! ### slices.Clone(watch) -/
theorem grownBy_refl (w : World) (row : Option Nat) : w.grownBy w row := ⟨rfl, rfl, rfl, Nat.le_refl _, fun _ _ _ => rfl⟩
theorem clone_watch (a : Option Addr) (n c N : Nat) (zs : List Int) (w0 w : World) (h : Rd .i64 w0 a n zs) (hnil : a = none → c = 0) (hb : Below N w0 w) (hN : N = w0.heap.size) (hn : n ≤ 1048576) :
    Calls Ybad.prog 9 #[.slice a n c] w fun e w' => ∃ a' cap', e = .returned (.slice a' n cap') ∧ w'.ownsRow w.heap.size 3 1 (.slice a' n cap') n (zs.map (.int .i64)) ∧ w.grownBy w' none := by
  obtain ⟨hl, hwf, hr⟩ := h
  cases a with
  | none =>
    obtain rfl := hnil rfl
    have h0 : n = 0 := by
      rcases hr with h | ⟨_, _, h, _⟩
      · exact h
      · cases h
    subst h0
    obtain rfl : zs = [] := List.eq_nil_of_length_eq_zero hl
    refine (clone_nil9 w).mono ?_
    rintro e w' ⟨rfl, rfl⟩
    exact ⟨none, 0, rfl, World.ownsRow_nil _ _ _ _, grownBy_refl _ _⟩
  | some ad =>
    refine (clone9 ad n c (zs.map (.int .i64)) w (by omega) (by simp [hl]) (fun j u hj => ?_) (fun u hu => by obtain ⟨z, _, rfl⟩ := List.mem_map.1 hu; rfl)).mono ?_
    · have hjl : j < zs.length := by
        have := (List.getElem?_eq_some_iff.1 hj).1
        simpa using this
      obtain ⟨b, off, e, hc⟩ := hr.resolve_left (by omega)
      cases e
      have := hc j (by omega)
      rw [show Addr.add ⟨b, off, none⟩ j = ⟨b, off + j, none⟩ by simp [Addr.add], hb.cell (by rw [hN]; exact block_lt_of_cell this), this]
      rw [List.getElem?_map, List.getElem?_eq_getElem hjl] at hj
      simp at hj
      rw [← hj, List.getD_eq_getElem?_getD, List.getElem?_eq_getElem hjl]
      rfl
    · rintro e w' ⟨g, cap', rfl, ho, hg, _, _⟩
      exact ⟨_, cap', rfl, ho, hg⟩

/-! ### slices.Equal over []int, of slices that hold the same -/
theorem equal_holds (v1 v2 : Value) (ys : List Int) (w : World) (hn : ys.length ≤ 1048578) (h1 : Holds w v1 ys) (h2 : Holds w v2 ys) :
    Calls Ybad.prog 11 #[v1, v2] w fun e w' => e = .returned (.bool true) ∧ ∃ m, w' = w.drewN m := by
  have sh : ∀ v, Holds w v ys → ys = [] → ∃ a c, v = .slice a 0 c := by
    intro v h e
    rcases h with ⟨rfl, _⟩ | ⟨g, c, rfl, _⟩
    · exact ⟨_, _, rfl⟩
    · exact ⟨_, c, by rw [e]; rfl⟩
  by_cases e : ys = []
  · obtain ⟨a1, c1, rfl⟩ := sh v1 h1 e
    obtain ⟨a2, c2, rfl⟩ := sh v2 h2 e
    exact equal_int_empty a1 a2 c1 c2 w
  · obtain ⟨g1, c1, rfl, hc1⟩ := h1.resolve_left (fun h => e h.2)
    obtain ⟨g2, c2, rfl, hc2⟩ := h2.resolve_left (fun h => e h.2)
    exact equal_int_same g1 g2 ys.length c1 c2 (fun j => ys.getD j 0) w hn hc1 hc2
end Go.Proofs.YbulkezdaDoor
