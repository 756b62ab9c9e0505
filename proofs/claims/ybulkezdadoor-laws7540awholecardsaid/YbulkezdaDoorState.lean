/-
  THE LAW's STATE, AS FACTS ON WORLDS. N: the heap's size when the law was entered. Block N: array. Block N + 1: slots.
-/
import Derived.Test.YbulkezdaDoorRose
import Derived.Test.YbulkezdaDoorPlain
import Derived.Laws.CopyOwn
import Derived.OpenShut
namespace Go.Proofs.YbulkezdaDoor
open Go.ChangeShapes Go.WideShapes Go.ChangeAt Go.RowKit

/-- WHAT IS KNOWN OF A SLICE OF INTEGERS THAT CAME IN: its n elements zs. -/
def Rd (k : IntKind) (w : World) (a : Option Addr) (n : Nat) (zs : List Int) : Prop :=
  zs.length = n ∧ (∀ z ∈ zs, (Lit.int k z).wf = true) ∧ (n = 0 ∨ ∃ b off, a = some ⟨b, off, none⟩ ∧ ∀ j, j < n → w.cell? ⟨b, off + j, none⟩ = some (.int k (zs.getD j 0)))

/-! ### copy(array, arr) -/
/-- The numbers of array: arr's, and a nought behind them. -/
def arrOf (zs : List Int) (i : Nat) : Int := zs.getD i 0
theorem arrOf_bound (zs : List Int) (h : ∀ z ∈ zs, (Lit.int .u32 z).wf = true) (i : Nat) : 0 ≤ arrOf zs i ∧ arrOf zs i ≤ 4294967295 := by
  unfold arrOf
  rw [List.getD_eq_getElem?_getD]
  cases e : zs[i]? with
  | none => simp
  | some z =>
    have hz := List.mem_of_getElem? e
    have := bounds_u32 (h z hz)
    simpa using this
theorem copy_arr (a : Option Addr) (n cap : Nat) (zs : List Int) (w : World) (h : Rd .u32 w a n zs) (hn : n ≤ 1048576) :
    ∃ w1, (Builtin.copy_ #[22, 22] 3 #[.slice (some ⟨w.heap.size, 0, none⟩) (n + 1) (n + 1), .slice a n cap]).run Ybad.prog (w.alloc (.cells (madeCells #[.int .u32 0] (n + 1)) 29)) = .ok (goInt n) w1 ∧
      w1.rowIs w.heap.size 29 (n + 1) (fun i => .int .u32 (arrOf zs i)) ∧ Below w.heap.size w w1 ∧ w1.heap.size = w.heap.size + 1 := by
  have hsz : (Ybad.prog.info? 29).map (·.size) = some 1 := by kernel_rfl
  have hrow := World.rowIs_made w (.int .u32 0) (n + 1) 29
  have hbel : Below w.heap.size w (w.alloc (.cells (madeCells #[.int .u32 0] (n + 1)) 29)) := (Below.refl _ _).alloc (Nat.le_refl _) _
  obtain ⟨hl, hwf, hr⟩ := h
  by_cases h0 : n = 0
  · subst h0
    refine ⟨_, run_copy_none _ 22 22 3 29 _ a _ _ 0 cap Ybad.underlying22 hsz (by simp), hrow.congr fun i hi => ?_, hbel, by simp⟩
    obtain rfl : zs = [] := List.eq_nil_of_length_eq_zero hl
    simp [arrOf]
  · obtain ⟨b, off, rfl, hc⟩ := hr.resolve_left h0
    have hrow' := hrow
    obtain ⟨cur, hcur, hcs, hci⟩ := hrow
    have hrun := run_copy_row (P := Ybad.prog) (w.alloc (.cells (madeCells #[.int .u32 0] (n + 1)) 29)) 22 22 3 29 w.heap.size 0 (n + 1) (n + 1) ⟨b, off, none⟩ n cap cur 29 (zs.map (.int .u32)) Ybad.underlying22 hsz hcur (by simp [hl]) (fun j v hj => by
      have hjl : j < zs.length := by
        have := (List.getElem?_eq_some_iff.1 hj).1
        simpa using this
      rw [List.getElem?_map, List.getElem?_eq_getElem hjl] at hj
      simp at hj
      have := hc j (by omega)
      rw [show Addr.add ⟨b, off, none⟩ j = ⟨b, off + j, none⟩ by simp [Addr.add]]
      rw [World.cell?_alloc_lt _ _ _ (block_lt_of_cell this), this, ← hj, List.getD_eq_getElem?_getD, List.getElem?_eq_getElem hjl]
      rfl) (by simp; omega) (fun v hv => by obtain ⟨z, _, rfl⟩ := List.mem_map.1 hv; rfl)
    simp only [List.length_map, hl] at hrun
    refine ⟨_, hrun, ?_, below_setRow hbel (Nat.le_refl _) _, by simp⟩
    obtain ⟨c2, hb2, _, _⟩ := hrow'
    rw [hb2] at hcur
    refine ⟨_, setRow_heap _ _ _ _ _ _ hb2, ?_, fun i hi => ?_⟩
    · simp [hl, hcs]
    · simp only [List.getElem?_toArray, List.take_zero, List.nil_append, Nat.zero_add]
      by_cases hil : i < n
      · rw [List.getElem?_append_left (by simp [hl]; omega), List.getElem?_map, List.getElem?_eq_getElem (by omega)]
        simp [arrOf, List.getD_eq_getElem?_getD, List.getElem?_eq_getElem (show i < zs.length by omega)]
      · rw [List.getElem?_append_right (by simp [hl]; omega), List.getElem?_drop]
        obtain rfl : i = n := by omega
        simp only [List.length_map, hl, Nat.sub_self, Nat.add_zero, Array.getElem?_toList]
        rw [hci i (by omega)]
        simp [arrOf, List.getD_eq_getElem?_getD, List.getElem?_eq_none (show zs.length ≤ i by omega)]

/-! ### THE STATE OF THE FIRST LOOP -/
structure St (N n : Nat) (w : World) (A P F : Nat → Int) (xs : List Int) (v : Value) (wr : World) : Prop where
  below : Below N w wr
  size : N + 2 ≤ wr.heap.size
  arr : wr.rowIs N 29 n (fun i => .int .u32 (A i))
  tab : wr.rowIs (N + 1) 32 32 (slotCell P F)
  tp : wr.ownsRow (N + 2) 3 1 v xs.length (xs.map (.int .i64))
  tbl : Tbl P F xs
  hP : ∀ i, -2147483648 ≤ P i ∧ P i ≤ 2147483647
  hF : ∀ i, 0 ≤ F i ∧ F i ≤ 4294967295
  len : xs.length ≤ 8
theorem St.start {N n : Nat} {w w1 : World} {A : Nat → Int} (hb : Below N w w1) (hs : w1.heap.size = N + 1) (ha : w1.rowIs N 29 n (fun i => .int .u32 (A i))) (cs : Array Value) (hc : cs = madeCells #[.int .i32 0, .int .u32 0] 32) :
    St N n w A (fun _ => 0) (fun _ => 0) [] (.slice none 0 0) (w1.alloc (.cells cs 32)) := by
  refine ⟨hb.alloc (by omega) _, by simp; omega, ha.alloc _, ?_, World.ownsRow_nil _ _ _ _, tbl_empty, fun _ => by omega, fun _ => by omega, by simp⟩
  have hsz : cs.size = 32 := by rw [hc, size_madeCells]
  have := World.rowIs_alloc w1 cs 32 (slotCell (fun _ => 0) (fun _ => 0)) (fun i hi => by
    have hi' : i < 32 := by omega
    rw [hc]
    simp only [madeCells, slotCell]
    rcases Nat.mod_two_eq_zero_or_one i with e | e <;> simp [hi', e])
  rw [hs, hsz] at this
  exact this
/-- The shape of tp. -/
theorem tp_shape {w : World} {base n : Nat} {v : Value} {xs : List Value} (h : w.ownsRow base 3 1 v n xs) : ∃ a cap, v = .slice a n cap := by
  rcases h.2 with ⟨rfl, rfl⟩ | ⟨g, cap, _, rfl, _⟩
  · exact ⟨none, 0, rfl⟩
  · exact ⟨_, cap, rfl⟩
theorem holds_of {w : World} {base : Nat} {v : Value} {xs : List Int} (h : w.ownsRow base 3 1 v xs.length (xs.map (.int .i64))) : Holds w v xs := by
  have h' := h
  rcases h.2 with ⟨rfl, e⟩ | ⟨g, cap, _, rfl, _⟩
  · exact .inl ⟨rfl, List.eq_nil_of_length_eq_zero e⟩
  · refine .inr ⟨g, cap, rfl, fun j hj => ?_⟩
    rw [h'.cellAt j (by omega), List.getElem?_map, List.getElem?_eq_getElem hj]
    simp [List.getD_eq_getElem?_getD, List.getElem?_eq_getElem hj]
theorem slot_set (P F : Nat → Int) (b s : Nat) (q v : Int) (w : World) (h : w.rowIs b 32 32 (slotCell P F)) :
    ((w.setCell ⟨b, s * 2, none⟩ (.int .i32 q)).setCell ⟨b, s * 2 + 1, none⟩ (.int .u32 v)).rowIs b 32 32 (slotCell (upd P s q) (upd F s v)) := by
  refine ((h.set (s * 2) _).set (s * 2 + 1) _).congr fun c hc => ?_
  simp only [slotCell, upd]
  by_cases e1 : c = s * 2 + 1
  · subst e1
    rw [if_pos rfl, if_neg (by omega), if_pos (by omega)]
  · rw [if_neg e1]
    by_cases e2 : c = s * 2
    · subst e2
      rw [if_pos rfl, if_pos (by omega), if_pos (by omega)]
    · rw [if_neg e2]
      by_cases e3 : c % 2 = 0
      · rw [if_pos e3, if_pos e3, if_neg (by omega)]
      · rw [if_neg e3, if_neg e3, if_neg (by omega)]
/-- What the append finds. -/
theorem St.own2 {N n : Nat} {w wr : World} {A P F : Nat → Int} {xs : List Int} {v : Value} (h : St N n w A P F xs v wr) (o1 o2 : Nat) (u1 u2 : Value) :
    ((wr.setCell ⟨N + 1, o1, none⟩ u1).setCell ⟨N + 1, o2, none⟩ u2).ownsRow (N + 2) 3 1 v xs.length (xs.map (.int .i64)) :=
  ownsRow_setCell_below (ownsRow_setCell_below h.tp (by simp) _) (by simp) _
/-- A PAYER LAID: the slot stored, the payer appended. -/
theorem St.step {N n : Nat} {w wr w1 : World} {A P F : Nat → Int} {xs : List Int} {v v' : Value} (h : St N n w A P F xs v wr) (q u : Int) (s : Nat) (X : Obj) (hl : xs.length < 8) (hq : 0 ≤ q ∧ q ≤ 1048577) (hu : 1 ≤ u ∧ u ≤ 4294967295) (d : Nat) (hd : d < 16) (hsl : s = (hm q + d) % 16) (hz : F ((hm q + d) % 16) = 0) (hno : ∀ d', d' < d → F ((hm q + d') % 16) ≠ 0)
    (hg : (((wr.setCell ⟨N + 1, s * 2, none⟩ (.int .i32 q)).setCell ⟨N + 1, s * 2 + 1, none⟩ (.int .u32 u)).alloc X).grownBy w1 v.ownBlock) (ho : w1.ownsRow (N + 2) 3 1 v' (xs.length + 1) (xs.map (.int .i64) ++ [.int .i64 q])) :
    St N n w A (upd P s q) (upd F s u) (xs ++ [q]) v' w1 := by
  have hrow : ∀ k, v.ownBlock = some k → N + 2 ≤ k := fun k hk => (h.tp.lt k hk).1
  have hsz := h.size
  have hblk : ∀ k, k < N + 2 → w1.heap[k]? = ((wr.setCell ⟨N + 1, s * 2, none⟩ (.int .i32 q)).setCell ⟨N + 1, s * 2 + 1, none⟩ (.int .u32 u)).heap[k]? := fun k hk =>
    grown_block hg (by simp; omega) (fun e => by have := hrow k e; omega)
  have hbel : Below N w ((wr.setCell ⟨N + 1, s * 2, none⟩ (.int .i32 q)).setCell ⟨N + 1, s * 2 + 1, none⟩ (.int .u32 u)) := (h.below.setCell (by simp) _).setCell (by simp) _
  have hgs := hg.size
  simp at hgs
  refine ⟨⟨hg.os.trans hbel.os, hg.tape.trans hbel.tape, hg.output.trans hbel.output, by have := hbel.size; simp at this; omega, fun k hk => (hblk k (by omega)).trans (hbel.block k hk)⟩, by omega, ?_, ?_, by simpa using ho, ?_, ?_, ?_, by simp; omega⟩
  · exact ((h.arr.setOther (by simp) _).setOther (by simp) _).of_block (hblk N (by omega))
  · exact (slot_set P F (N + 1) s q u wr h.tab).of_block (hblk (N + 1) (by omega))
  · subst hsl
    exact h.tbl.put q u (by omega) d hd hz hno
  · intro i
    have := h.hP i
    simp only [upd]
    split <;> omega
  · intro i
    have := h.hF i
    simp only [upd]
    split <;> omega
theorem or_bound (x y : Int) : 0 ≤ bits BinOp.or IntKind.u64 x y ∧ bits BinOp.or IntKind.u64 x y ≤ 18446744073709551615 := by
  unfold bits
  rw [IntKind.wrap_u64]
  omega
theorem rd_val {k : IntKind} {w wr : World} {a : Option Addr} {n N j : Nat} {zs : List Int} (h : Rd k w a n zs) (hb : Below N w wr) (hN : N = w.heap.size) (hj : j < n) :
    ∃ b off, a = some ⟨b, off, none⟩ ∧ wr.cell? ⟨b, off + j, none⟩ = some (.int k (zs.getD j 0)) := by
  obtain ⟨_, _, hr⟩ := h
  obtain ⟨b, off, rfl, hc⟩ := hr.resolve_left (by omega)
  have := hc j hj
  exact ⟨b, off, rfl, (hb.cell (by rw [hN]; exact block_lt_of_cell this)).trans this⟩
/-- An element of a slice that came in, in a later world. -/
theorem rd_at {k : IntKind} {w wr : World} {a : Option Addr} {n N j : Nat} {zs : List Int} {Q : Int → Prop} (h : Rd k w a n zs) (hb : Below N w wr) (hN : N = w.heap.size) (hj : j < n) (hQ : ∀ z, (Lit.int k z).wf = true → Q z) :
    ∃ t, (∃ b off, a = some ⟨b, off, none⟩ ∧ wr.cell? ⟨b, off + j, none⟩ = some (.int k t)) ∧ Q t := by
  obtain ⟨hl, hwf, hr⟩ := h
  obtain ⟨b, off, rfl, hc⟩ := hr.resolve_left (by omega)
  refine ⟨zs.getD j 0, ⟨b, off, rfl, ?_⟩, hQ _ (hwf _ ?_)⟩
  · have := hc j hj
    exact (hb.cell (by rw [hN]; exact block_lt_of_cell this)).trans this
  · rw [List.getD_eq_getElem?_getD, List.getElem?_eq_getElem (by omega)]
    simp
end Go.Proofs.YbulkezdaDoor
