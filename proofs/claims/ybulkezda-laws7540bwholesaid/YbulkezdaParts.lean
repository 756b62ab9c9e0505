/-
  WHAT newPerProcess LAYS, AS FACTS ON WORLDS; AND THE BUILTIN copy INTO A ROW OF THE CALL's OWN, as one step of a region that draws, its world written out.
-/
import Derived.Test.YbulkezdaRows
import Derived.WalkKit
import Derived.Below
import Derived.Deep.OwnRows
import Derived.Laws.CopyOwn
namespace Go.Proofs.Ybulkezda
open Go.RowKit

theorem rowIs_setRow {w : World} {b : Nat} {t : TypeId} {n : Nat} {f g : Nat → Value} (h : w.rowIs b t n f) (cs : Array Value) (hs : cs.size = n) (hc : ∀ i, i < n → cs[i]? = some (g i)) : (w.setRow b cs).rowIs b t n g := by
  obtain ⟨c, hb, _, _⟩ := h
  exact ⟨cs, setRow_heap w b c cs t (0, 0) hb, hs, hc⟩
theorem rowIs_setRow_other {w : World} {b g : Nat} {t : TypeId} {n : Nat} {f : Nat → Value} (h : w.rowIs b t n f) (cs : Array Value) (hne : b ≠ g) : (w.setRow g cs).rowIs b t n f :=
  h.of_block (setRow_other w g b cs hne)

/-- copy INTO THE HEAD OF A ROW THAT IS KNOWN WHOLE, as one step of a region that draws its order. -/
theorem step_copy_row {P : Program} {ops : Array Oper} {o : Oper} {a : Act} {w : World} {K : Act → World → Prop} {Q : Exit → Act → World → Prop} {E : Prop} (hgd : o.guard = none) (d s : Operand) (dT sT : TypeId)
    (ho : o.op = .call { callee := .builtin .copy, args := #[d, s], argTypes := #[dT, sT] }) (elem : TypeId) (hu : P.underlying dT = some (.slice elem)) (hsz : (P.info? elem).map (·.size) = some 1)
    (g dLen dCap : Nat) (ad : Addr) (sLen sCap : Nat) (hd : a.eval d = .slice (some ⟨g, 0, none⟩) dLen dCap) (hs : a.eval s = .slice (some ad) sLen sCap)
    (cur : Array Value) (t : TypeId) (hg : w.heap[g]? = some (.cells cur t (0, 0))) (cs : List Value) (hn : cs.length = Nat.min sLen dLen)
    (hsrc : ∀ j v, cs[j]? = some v → w.cell? (ad.add j) = some v) (hfit : cs.length ≤ cur.size) (h1 : ∀ v ∈ cs, v.oneCell' = true)
    (h : K (a.put o.dst (goInt cs.length)) (w.setRow g (cs ++ cur.toList.drop cs.length).toArray)) :
    if Region.wanted o (yielded ops a.tmps) = true then Oper.wp P o a w K Q else E := by
  have hw : Region.wanted o (yielded ops a.tmps) = true := by simp [Region.wanted, hgd]
  rw [if_pos hw]
  have hrun := run_copy_row (P := P) w dT sT o.type elem g 0 dLen dCap ad sLen sCap cur t cs hu hsz hg hn hsrc (by simpa using hfit) h1
  simp only [List.take_zero, List.nil_append, Nat.zero_add] at hrun
  unfold Oper.wp
  simp [execOp, ho, resolve, invoke, builtin, hd, hs, hrun, Result.andThen]
  exact h

/-- The number in place j of part i: element i*64 + j, or 0 past the end. -/
def val (z : List Int) (n i j : Nat) : Int := if i * 64 + j < n then z.getD (i * 64 + j) 0 else 0

/-- BEHIND k ROUNDS: M: the heap's size when newPerProcess was entered. -/
structure Mid (z : List Int) (n W M : Nat) (w : World) (k : Nat) (wr : World) : Prop where
  size : wr.heap.size = M + 3 + k
  below : Below M w wr
  res : wr.rowIs M 25 1 (fun _ => .slice none 0 0)
  v : wr.rowIs (M + 2) 25 1 (fun _ => .slice (some ⟨M + 1, 0, none⟩) W W)
  ptr : wr.rowIs (M + 1) 27 W (fun i => if i < k then .pointer (some ⟨M + 3 + i, 0, none⟩) else .pointer none)
  arr : ∀ i, i < k → wr.rowIs (M + 3 + i) 29 64 (fun j => .int .i64 (val z n i j))

/-- IN A ROUND: the new array is there, its pointer stored; nothing copied yet. -/
structure Mid1 (z : List Int) (n W M : Nat) (w : World) (k : Nat) (wr : World) : Prop where
  size : wr.heap.size = M + 3 + k + 1
  below : Below M w wr
  res : wr.rowIs M 25 1 (fun _ => .slice none 0 0)
  v : wr.rowIs (M + 2) 25 1 (fun _ => .slice (some ⟨M + 1, 0, none⟩) W W)
  ptr : wr.rowIs (M + 1) 27 W (fun i => if i < k + 1 then .pointer (some ⟨M + 3 + i, 0, none⟩) else .pointer none)
  arr : ∀ i, i < k → wr.rowIs (M + 3 + i) 29 64 (fun j => .int .i64 (val z n i j))
  last : wr.rowIs (M + 3 + k) 29 64 (fun _ => .int .i64 0)

theorem Mid.step {z : List Int} {n W M k : Nat} {w wr : World} (h : Mid z n W M w k wr) (hM : M = w.heap.size) (hk : k < W) (c : Array Value) (hcr : c = Array.replicate 64 (.int .i64 0)) :
    Mid1 z n W M w k ((wr.alloc (.cells c 29)).setCell ⟨M + 1, k, none⟩ (.pointer (some ⟨M + 3 + k, 0, none⟩))) := by
  have hc : c.size = 64 := by rw [hcr]; simp
  have hc' : ∀ i, i < 64 → c[i]? = some (.int .i64 0) := fun i hi => by rw [hcr]; simp [hi]
  clear hcr
  obtain ⟨h1, h2, h3, h4, h5, h6⟩ := h
  refine ⟨by simp [h1], (h2.alloc (by omega) _).setCell (by simp) _, (h3.alloc _).setOther (by simp) _, (h4.alloc _).setOther (by simp) _, ?_, fun i hi => ((h6 i hi).alloc _).setOther (by simp; omega) _, ?_⟩
  · refine ((h5.alloc (.cells c 29)).set k _).congr fun i hi => ?_
    by_cases e : i = k
    · subst e; simp
    · simp only [if_neg e]
      by_cases e' : i < k
      · rw [if_pos e', if_pos (by omega)]
      · rw [if_neg e', if_neg (by omega)]
  · have := World.rowIs_alloc wr c 29 (fun _ => .int .i64 0) (fun i hi => hc' i (by omega))
    rw [hc, h1] at this
    exact this.setOther (by simp; omega) _

theorem Mid1.step {z : List Int} {n W M k : Nat} {w wr : World} (h : Mid1 z n W M w k wr) (cs : List Value) (hm : cs.length = min 64 (n - k * 64)) (hkn : k * 64 < n) (hcs : ∀ j, j < cs.length → cs[j]? = some (.int .i64 (z.getD (k * 64 + j) 0))) (cur : Array Value) (hcur : wr.heap[M + 3 + k]? = some (.cells cur 29 (0, 0))) :
    Mid z n W M w (k + 1) (wr.setRow (M + 3 + k) (cs ++ cur.toList.drop cs.length).toArray) := by
  obtain ⟨h1, h2, h3, h4, h5, h6, h7⟩ := h
  refine ⟨by simp [h1]; omega, below_setRow h2 (by omega) _, rowIs_setRow_other h3 _ (by omega), rowIs_setRow_other h4 _ (by omega), rowIs_setRow_other h5 _ (by omega), fun i hi => ?_⟩
  by_cases e : i = k
  · subst e
    have h7' := h7
    obtain ⟨c, hb, hs, hc⟩ := h7
    rw [hb] at hcur
    simp only [Option.some.injEq, Obj.cells.injEq, and_true] at hcur
    subst hcur
    refine rowIs_setRow h7' _ (by simp; omega) fun j hj => ?_
    simp only [List.getElem?_toArray]
    by_cases hjl : j < cs.length
    · rw [List.getElem?_append_left hjl, hcs j hjl]
      simp only [val]
      rw [if_pos (by omega)]
    · rw [List.getElem?_append_right (by omega), List.getElem?_drop]
      rw [show cs.length + (j - cs.length) = j by omega]
      simp only [Array.getElem?_toList, hc j hj, val]
      rw [if_neg (by omega)]
  · exact rowIs_setRow_other (h6 i (by omega)) _ (by omega)
/-- What the copy of round k is handed. -/
structure CopyFacts (z : List Int) (n W M k b off : Nat) (w wc : World) (cs : List Value) (cur : Array Value) : Prop where
  blk : wc.heap[M + 3 + k]? = some (.cells cur 29 (0, 0))
  csz : cur.size = 64
  len : cs.length = min 64 (n - k * 64)
  at_ : ∀ j, j < cs.length → cs[j]? = some (.int .i64 (z.getD (k * 64 + j) 0))
  one : ∀ v ∈ cs, v.oneCell' = true
  src : ∀ j v, cs[j]? = some v → wc.cell? (Addr.add ⟨b, off + k * 64, none⟩ j) = some v
theorem Mid1.copy {z : List Int} {n W M k b off : Nat} {w wc : World} (h : Mid1 z n W M w k wc) (hb : b < M) (hkn : k * 64 < n) (hv : ∀ k, k < n → w.cell? ⟨b, off + k, none⟩ = some (.int .i64 (z.getD k 0))) :
    ∃ cs cur, CopyFacts z n W M k b off w wc cs cur := by
  obtain ⟨c, hc, hs, _⟩ := h.last
  have hat : ∀ j, j < ((List.range (min 64 (n - k * 64))).map fun j => Value.int .i64 (z.getD (k * 64 + j) 0)).length → ((List.range (min 64 (n - k * 64))).map fun j => Value.int .i64 (z.getD (k * 64 + j) 0))[j]? = some (.int .i64 (z.getD (k * 64 + j) 0)) := fun j hj => by
    rw [List.length_map, List.length_range] at hj
    rw [List.getElem?_map, List.getElem?_range hj]; rfl
  refine ⟨(List.range (min 64 (n - k * 64))).map fun j => .int .i64 (z.getD (k * 64 + j) 0), c, hc, hs, by simp, hat, ?_, ?_⟩
  · intro v hv
    obtain ⟨j, _, rfl⟩ := List.mem_map.1 hv
    rfl
  · intro j v hj
    have hjl := (List.getElem?_eq_some_iff.1 hj).1
    rw [hat j hjl] at hj
    rw [← hj]
    rw [List.length_map, List.length_range] at hjl
    have := hv (k * 64 + j) (by omega)
    rw [← Nat.add_assoc] at this
    rw [show Addr.add ⟨b, off + k * 64, none⟩ j = ⟨b, off + k * 64 + j, none⟩ by simp [Addr.add]]
    exact (h.below.cell hb).trans this
/-- THE TABLE: W parts, each an array of 64 numbers in a block of its own. -/
structure Tab (f : Nat → Nat → Int) (W M : Nat) (wr : World) : Prop where
  ptr : wr.rowIs (M + 1) 27 W (fun i => .pointer (some ⟨M + 3 + i, 0, none⟩))
  arr : ∀ i, i < W → wr.rowIs (M + 3 + i) 29 64 (fun j => .int .i64 (f i j))
theorem Mid.tab {z : List Int} {n W M : Nat} {w wr : World} (h : Mid z n W M w W wr) (v : Value) : Tab (val z n) W M (wr.setCell ⟨M, 0, none⟩ v) :=
  ⟨(h.ptr.setOther (by simp) _).congr fun i hi => by simp [hi], fun i hi => (h.arr i hi).setOther (by simp; omega) _⟩
theorem hide {p : Prop} (h : p) : Hid p := h
theorem Mid.start (z : List Int) (n W : Nat) (w : World) : Mid z n W w.heap.size w 0 (((w.alloc (.cells #[.slice none 0 0] 25)).alloc (.cells (madeCells #[.pointer none] W) 27)).alloc (.cells #[.slice (some ⟨w.heap.size + 1, 0, none⟩) W W] 25)) := by
  refine ⟨by simp, (((Below.refl _ _).alloc (Nat.le_refl _) _).alloc (by simp) _).alloc (by simp; omega) _, ?_, ?_, ?_, fun i hi => absurd hi (by omega)⟩
  · exact ((World.rowIs_alloc w #[.slice none 0 0] 25 (fun _ => .slice none 0 0) (fun i hi => by simp at hi; subst hi; rfl)).alloc _).alloc _
  · have := World.rowIs_alloc ((w.alloc (.cells #[.slice none 0 0] 25)).alloc (.cells (madeCells #[.pointer none] W) 27)) #[.slice (some ⟨w.heap.size + 1, 0, none⟩) W W] 25 (fun _ => .slice (some ⟨w.heap.size + 1, 0, none⟩) W W) (fun i hi => by simp at hi; subst hi; rfl)
    simpa using this
  · have := (World.rowIs_made (w.alloc (.cells #[.slice none 0 0] 25)) (.pointer none) W 27).alloc (.cells #[.slice (some ⟨w.heap.size + 1, 0, none⟩) W W] 25)
    simpa using this
theorem Mid.drew {z : List Int} {n W M k : Nat} {w wr : World} (h : Mid z n W M w k wr) : Mid z n W M w k wr.drew := ⟨h.size, h.below.drew, h.res, h.v, h.ptr, h.arr⟩
end Go.Proofs.Ybulkezda
