/-
  WHAT THE LAW LAYS, AS FACTS ON WORLDS: block N: ms; N + 1: ends; N + 2: the committee; and the builtin copy of elements of two cells.
-/
import Derived.Test.YbulkezlcRows
import Derived.WalkKit
import Derived.Below
import Derived.Deep.OwnRows
import Derived.Laws.CopyOwn
namespace Go.Proofs.Ybulkezlc
open Go.RowKit

theorem hide {p : Prop} (h : p) : Hid p := h
theorem Yba.info43 : (Yba.prog.info? 43).map (fun i => (i.zero, i.size, i.bytes)) = some (some (.agg #[.string ByteArray.empty, .int .u64 0]), 2, 24) := by kernel_rfl
theorem Yba.info27 : (Yba.prog.info? 27).map (fun i => (i.zero, i.size, i.bytes)) = some (some (.int .u64 0), 1, 8) := by kernel_rfl

/-- A row of members: each an address and a stake. -/
def memCell (S : Nat → ByteArray) (T : Nat → Int) (c : Nat) : Value := if c % 2 = 0 then .string (S (c / 2)) else .int .u64 (T (c / 2))
theorem mem_addr {S : Nat → ByteArray} {T : Nat → Int} {b n i : Nat} {w : World} (h : w.rowIs b 43 (n * 2) (memCell S T)) (hi : i < n) : w.cell? ⟨b, i * 2, none⟩ = some (.string (S i)) := by
  rw [h.cell (i := i * 2) (by omega)]
  simp [memCell]
theorem mem_stake {S : Nat → ByteArray} {T : Nat → Int} {b n i : Nat} {w : World} (h : w.rowIs b 43 (n * 2) (memCell S T)) (hi : i < n) : w.cell? ⟨b, i * 2 + 1, none⟩ = some (.int .u64 (T i)) := by
  rw [h.cell (i := i * 2 + 1) (by omega)]
  simp only [memCell]
  rw [if_neg (by omega), show (i * 2 + 1) / 2 = i by omega]

/-- WHAT IS KNOWN OF THE SLICE members THAT CAME IN. -/
def Rm (w : World) (a : Option Addr) (n : Nat) (S : Nat → ByteArray) (T : Nat → Int) : Prop :=
  n = 0 ∨ ∃ b off, a = some ⟨b, off, none⟩ ∧ ∀ i, i < n → w.cell? ⟨b, off + i * 2, none⟩ = some (.string (S i)) ∧ w.cell? ⟨b, off + i * 2 + 1, none⟩ = some (.int .u64 (T i)) ∧ 0 ≤ T i ∧ T i ≤ 18446744073709551615

theorem rm_src {w : World} {b off n : Nat} {S : Nat → ByteArray} {T : Nat → Int} (h : ∀ i, i < n → w.cell? ⟨b, off + i * 2, none⟩ = some (.string (S i)) ∧ w.cell? ⟨b, off + i * 2 + 1, none⟩ = some (.int .u64 (T i))) : ∀ j, j < n * 2 → w.cell? ⟨b, off + j, none⟩ = some (memCell S T j) := by
  intro j hj
  have hi := h (j / 2) (by omega)
  simp only [memCell]
  by_cases e : j % 2 = 0
  · rw [if_pos e]
    have := hi.1
    rwa [show off + j / 2 * 2 = off + j by omega] at this
  · rw [if_neg e]
    have := hi.2
    rwa [show off + j / 2 * 2 + 1 = off + j by omega] at this

/-- copy, elements of two cells each. -/
theorem run_copy_row2 {P : Program} (w : World) (dT sT ty elem : TypeId) (g dLen dCap : Nat) (a : Addr) (sLen sCap : Nat) (cur : Array Value) (t : TypeId) (cs : List Value)
    (hu : P.underlying dT = some (.slice elem)) (hs : (P.info? elem).map (·.size) = some 2)
    (hg : w.heap[g]? = some (.cells cur t (0, 0))) (n : Nat) (hn : n = Nat.min sLen dLen) (hl2 : cs.length = n * 2)
    (hsrc : ∀ j v, cs[j]? = some v → w.cell? (a.add j) = some v) (hfit : cs.length ≤ cur.size) (h1 : ∀ v ∈ cs, v.oneCell' = true) :
    (Builtin.copy_ #[dT, sT] ty #[.slice (some ⟨g, 0, none⟩) dLen dCap, .slice (some a) sLen sCap]).run P w =
      .ok (goInt n) (w.setRow g (cs ++ cur.toList.drop cs.length).toArray) := by
  have hl := run_loadCells_list (P := P) w a cs hsrc
  have hst := run_storeCells_at P g 0 t cs 0 cur w hg (by simpa using hfit) h1
  rw [hl2] at hl
  simp only [Nat.zero_add, List.take_zero, List.nil_append] at hst
  cases hq : P.info? elem with
  | none => simp [hq] at hs
  | some i =>
    have hi : i.size = 2 := by simpa [hq] using hs
    simp [Builtin.copy_, run_underlying hu, Builtin.lenOf, Builtin.firstCells, sizeOf, typeInfo, hq, hi, ← hn, hl, hst]
theorem run_copy_none2 {P : Program} (w : World) (dT sT ty elem : TypeId) (d a : Option Addr) (dLen dCap sCap : Nat) (hu : P.underlying dT = some (.slice elem)) (hs : (P.info? elem).map (·.size) = some 2) :
    (Builtin.copy_ #[dT, sT] ty #[.slice d dLen dCap, .slice a 0 sCap]).run P w = .ok (goInt 0) w := by
  cases hq : P.info? elem with
  | none => simp [hq] at hs
  | some i =>
    have hl : ∀ (x : Addr), (loadCells x 0).run P w = .ok #[] w := fun x => by simpa using run_loadCells_list (P := P) w x [] (by simp)
    cases d <;> cases a <;> simp [Builtin.copy_, run_underlying hu, Builtin.lenOf, Builtin.firstCells, sizeOf, typeInfo, hq, storeCells, hl]

theorem copy_members (a : Option Addr) (n cap : Nat) (S : Nat → ByteArray) (T : Nat → Int) (w : World) (h : Rm w a n S T) :
    ∃ w1, (Builtin.copy_ #[39, 39] 3 #[.slice (some ⟨w.heap.size, 0, none⟩) n n, .slice a n cap]).run Yba.prog (w.alloc (.cells (madeCells #[.string ByteArray.empty, .int .u64 0] (n * 2)) 43)) = .ok (goInt n) w1 ∧
      w1.rowIs w.heap.size 43 (n * 2) (memCell S T) ∧ Below w.heap.size w w1 ∧ w1.heap.size = w.heap.size + 1 := by
  have hsz : (Yba.prog.info? 43).map (·.size) = some 2 := by kernel_rfl
  have hblk : (w.alloc (.cells (madeCells #[.string ByteArray.empty, .int .u64 0] (n * 2)) 43)).heap[w.heap.size]? = some (.cells (madeCells #[.string ByteArray.empty, .int .u64 0] (n * 2)) 43 (0, 0)) := heap_alloc_new w _
  have hbel : Below w.heap.size w (w.alloc (.cells (madeCells #[.string ByteArray.empty, .int .u64 0] (n * 2)) 43)) := (Below.refl _ _).alloc (Nat.le_refl _) _
  by_cases h0 : n = 0
  · subst h0
    exact ⟨_, run_copy_none2 _ 39 39 3 43 _ a _ _ cap Yba.underlying39 hsz, ⟨_, hblk, by rw [size_madeCells], fun i hi => by omega⟩, hbel, by simp⟩
  · obtain ⟨b, off, rfl, hc⟩ := h.resolve_left h0
    have hsrc := rm_src (fun i hi => ⟨(hc i hi).1, (hc i hi).2.1⟩)
    have hcl : ((List.range (n * 2)).map (memCell S T)).length = n * 2 := by simp
    refine ⟨_, run_copy_row2 _ 39 39 3 43 w.heap.size n n ⟨b, off, none⟩ n cap _ 43 ((List.range (n * 2)).map (memCell S T)) Yba.underlying39 hsz hblk n (by simp) hcl (fun j v hj => ?_) (by rw [hcl, size_madeCells]; exact Nat.le_refl _) (fun v hv => ?_), ?_, below_setRow hbel (Nat.le_refl _) _, by simp⟩
    · have hjl : j < n * 2 := by
        have := (List.getElem?_eq_some_iff.1 hj).1
        simpa using this
      rw [List.getElem?_map, List.getElem?_range hjl] at hj
      have hs := hsrc j hjl
      rw [show Addr.add ⟨b, off, none⟩ j = ⟨b, off + j, none⟩ by simp [Addr.add], World.cell?_alloc_lt _ _ _ (block_lt_of_cell hs), hs]
      simpa using hj
    · obtain ⟨j, _, rfl⟩ := List.mem_map.1 hv
      unfold memCell
      split <;> rfl
    · refine ⟨_, setRow_heap _ _ _ _ _ _ hblk, ?_, fun i hi => ?_⟩
      · simp [size_madeCells]
      · simp only [List.getElem?_toArray]
        rw [List.getElem?_append_left (by omega), List.getElem?_map, List.getElem?_range hi]
        rfl

/-- THE STATE FROM THE FIRST LOOP ON. -/
structure Ms (N n : Nat) (w : World) (S : Nat → ByteArray) (T : Nat → Int) (wr : World) : Prop where
  below : Below N w wr
  size : wr.heap.size = N + 2
  ms : wr.rowIs N 43 (n * 2) (memCell S T)
  ends : ∃ f, wr.rowIs (N + 1) 27 n f
theorem Ms.start {N n : Nat} {w w1 : World} {S : Nat → ByteArray} {T : Nat → Int} (hb : Below N w w1) (hs : w1.heap.size = N + 1) (hm : w1.rowIs N 43 (n * 2) (memCell S T)) : Ms N n w S T (w1.alloc (.cells (madeCells #[.int .u64 0] n) 27)) := by
  have := World.rowIs_made w1 (.int .u64 0) n 27
  rw [hs] at this
  exact ⟨hb.alloc (by omega) _, by simp; omega, hm.alloc _, _, this⟩
theorem Ms.step {N n : Nat} {w wr : World} {S : Nat → ByteArray} {T : Nat → Int} (h : Ms N n w S T wr) (k : Nat) (v : Value) : Ms N n w S T (wr.setCell ⟨N + 1, k, none⟩ v) := by
  obtain ⟨f, hf⟩ := h.ends
  exact ⟨h.below.setCell (by simp) _, by simp [h.size], h.ms.setOther (by simp) _, _, hf.set k v⟩
end Go.Proofs.Ybulkezlc
