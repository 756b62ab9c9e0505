/-
  get and rose over the law's state.
-/
import Derived.Test.YbulkezdaDoorFin
namespace Go.Proofs.YbulkezdaDoor
open Go.ChangeShapes Go.WideShapes Go.ChangeAt Go.RowKit

structure Fin (N n gC gD bF : Nat) (w : World) (A P F : Nat → Int) (φ : Int) (used : Nat) (x : Value) (wr : World) : Prop where
  cop : Cop N n gC gD w A P F wr
  s : wr.rowIs bF 43 11 (sCell N n φ used x)

/-! ### whether p has a floor -/
def bitOf (φ p : Int) : Int := bits BinOp.and IntKind.u64 (φ / 2 ^ (p % 64).toNat) 1
def hasB (A : Nat → Int) (xs : List Int) (φ p : Int) : Bool := if bitOf φ p = 1 then xs.contains p else (A p.toNat != 0)
theorem bit01 (φ p : Int) (hφ : 0 ≤ φ ∧ φ ≤ 18446744073709551615) : bitOf φ p = 0 ∨ bitOf φ p = 1 := by
  unfold bitOf
  have h0 : 0 ≤ φ / 2 ^ (p % 64).toNat := Int.ediv_nonneg hφ.1 (Int.pow_nonneg (by decide))
  have h1 : φ / 2 ^ (p % 64).toNat ≤ φ := Int.ediv_le_self _ hφ.1
  rw [and_one_u64 _ h0 (by omega)]
  omega
theorem pred_max (y : Int) (hy : 0 ≤ y ∧ y ≤ 4294967295) : (IntKind.u64.wrap (y - 1) != 18446744073709551615) = (y != 0) := by
  rw [IntKind.wrap_u64]
  by_cases e : y = 0
  · subst e; decide
  · have h : (y - 1) % 18446744073709551616 = y - 1 := by omega
    rw [h]
    have e1 : (y != 0) = true := by simpa using e
    rw [e1, bne_iff_ne]
    omega

section
variable {N n gC gD bF : Nat} {w : World} {A P F : Nat → Int} {φ : Int} {used : Nat} {x : Value} {wr : World}

theorem Fin.fl (h : Fin N n gC gD bF w A P F φ used x wr) (htz : w.cell? ⟨2, 15, none⟩ = some (.int .u8 4)) (hN : N = w.heap.size) (hP : ∀ i, -2147483648 ≤ P i ∧ P i ≤ 2147483647) (hF : ∀ i, 0 ≤ F i ∧ F i ≤ 4294967295) : Fl P F bF (N + 1) wr :=
  ⟨(h.cop.below.cell (by rw [hN]; exact block_lt_of_cell htz)).trans htz, h.s.cell (i := 8) (by omega), h.cop.tab, hP, hF⟩

theorem get_fin {xs : List Int} {p : Int} (h : Fin N n gC gD bF w A P F φ used x wr) (htz : w.cell? ⟨2, 15, none⟩ = some (.int .u8 4)) (hN : N = w.heap.size) (hP : ∀ i, -2147483648 ≤ P i ∧ P i ≤ 2147483647) (hF : ∀ i, 0 ≤ F i ∧ F i ≤ 4294967295) (hA : ∀ i, 0 ≤ A i ∧ A i ≤ 4294967295)
    (ht : Tbl P F xs) (hl : xs.length ≤ 8) (hφ : 0 ≤ φ ∧ φ ≤ 18446744073709551615) (h0 : 0 ≤ p) (hp : p < (n : Int)) (hn : n ≤ 1048577) :
    ∃ y, (y != 18446744073709551615) = hasB A xs φ p ∧ Calls Ybad.prog 17 #[.pointer (some ⟨bF, 5, none⟩), .int .i64 p] wr fun e w' => e = .returned (.int .u64 y) ∧ ∃ m, w' = wr.drewN m := by
  have hφc : wr.cell? ⟨bF, 5, none⟩ = some (.int .u64 φ) := h.s.cell (i := 5) (by omega)
  rcases bit01 φ p hφ with hb | hb
  · have hac : wr.cell? ⟨bF, 6, none⟩ = some (.slice (some ⟨N, 0, none⟩) n n) := h.s.cell (i := 6) (by omega)
    have hy := h.cop.arr.cell (i := p.toNat) (by omega)
    refine ⟨IntKind.u64.wrap (A p.toNat - 1), ?_, ?_⟩
    · rw [pred_max _ (hA _)]
      simp [hasB, hb]
    · refine (get_arr bF N n n p φ (A p.toNat) h0 (by omega) wr hφc hb hac hp hy (hA _)).mono ?_
      rintro e w' ⟨rfl, rfl⟩
      exact ⟨rfl, 0, rfl⟩
  · obtain ⟨s, _, hst, hiff⟩ := ht.search (by omega) p
    refine ⟨IntKind.u64.wrap (F s - 1), ?_, get_tab bF (N + 1) p φ P F h0 (by omega) wr (h.fl htz hN hP hF) hφc hb s hst _ rfl⟩
    rw [pred_max _ (hF _)]
    simp only [hasB, hb, if_true]
    by_cases e : F s = 0
    · have : ¬ p ∈ xs := fun hm => hiff.2 hm e
      simp [e, this]
    · have : p ∈ xs := hiff.1 e
      simp [e, this]

/-! ### what rose does -/
def addB (has : Bool) (ys : List Int) (p : Int) : Bool := has && (ys.isEmpty || ys.getD (ys.length - 1) 0 != p)

theorem Fin.drewN (h : Fin N n gC gD bF w A P F φ used x wr) (m : Nat) : Fin N n gC gD bF w A P F φ used x (wr.drewN m) :=
  ⟨⟨⟨h.cop.below.os, h.cop.below.tape, h.cop.below.output, h.cop.below.size, h.cop.below.block⟩, h.cop.arr, h.cop.tab, h.cop.arrC, h.cop.tabC⟩, h.s⟩

theorem Fin.start {w4 w5 : World} {a' : Option Addr} {cap' m : Nat} (h : Cop N n gC gD w A P F w4) (hg : w4.grownBy w5 none) (hs : N + 2 ≤ w4.heap.size ∧ gC < w4.heap.size ∧ gD < w4.heap.size) :
    Fin N n gC gD w5.heap.size w A P F φ used (.slice a' m cap') (w5.alloc (.cells #[.slice none 0 0, .slice none 0 0, .int .i32 0, .int .i32 0, .int .i32 0, .int .u64 φ, .slice (some ⟨N, 0, none⟩) n n, .bool true, .slice (some ⟨N + 1, 0, none⟩) 16 16, .int .i64 used, .slice a' m cap'] 43)) := by
  have hz := hg.size
  refine ⟨h.keep ((h.below.grown hg (by omega) (by simp)).alloc (by omega) _) (fun k hk => (Below.heap_alloc _ _ _ (by omega)).trans (hg.block k (by omega) (by simp))), ?_⟩
  refine World.rowIs_alloc w5 #[.slice none 0 0, .slice none 0 0, .int .i32 0, .int .i32 0, .int .i32 0, .int .u64 φ, .slice (some ⟨N, 0, none⟩) n n, .bool true, .slice (some ⟨N + 1, 0, none⟩) 16 16, .int .i64 used, .slice a' m cap'] 43 _ (fun i hi => ?_)
  match i, hi with
  | 0, _ | 1, _ | 2, _ | 3, _ | 4, _ | 5, _ | 6, _ | 7, _ | 8, _ | 9, _ | 10, _ => rfl
  | i + 11, hi => simp at hi; omega
theorem own_kept {w1 w2 : World} {base m : Nat} {v : Value} {l : List Value} (h : w1.ownsRow base 3 1 v m l) (hg : w1.grownBy w2 none) : w2.ownsRow base 3 1 v m l :=
  h.kept hg (by cases e : v.ownBlock <;> simp)
/-- A store into s.watch. -/
theorem Fin.setWatch (h : Fin N n gC gD bF w A P F φ used x wr) (hb : N + 2 ≤ bF ∧ gC < bF ∧ gD < bF) (v : Value) : Fin N n gC gD bF w A P F φ used v (wr.setCell ⟨bF, 10, none⟩ v) := by
  refine ⟨h.cop.keep (h.cop.below.setCell (by simp; omega) _) (fun k hk => Below.heap_setCell _ _ _ _ (by simp; omega)), (h.s.set 10 v).congr fun i hi => ?_⟩
  by_cases e : i = 10
  · subst e; simp [sCell]
  · rw [if_neg e]
    match i, hi, e with
    | 0, _, _ | 1, _, _ | 2, _, _ | 3, _, _ | 4, _, _ | 5, _, _ | 6, _, _ | 7, _, _ | 8, _, _ | 9, _, _ => rfl
    | 10, _, e => exact absurd rfl e
    | i + 11, hi, _ => omega
/-- Growth elsewhere. -/
theorem Fin.grown {w1 : World} {row : Option Nat} (h : Fin N n gC gD bF w A P F φ used x wr) (hg : wr.grownBy w1 row) (hb : N + 2 ≤ bF ∧ gC < bF ∧ gD < bF) (hr : ∀ k, row = some k → N + 2 ≤ k ∧ gC ≠ k ∧ gD ≠ k ∧ bF ≠ k) : Fin N n gC gD bF w A P F φ used x w1 := by
  have hbs := h.s.lt
  have e : ∀ k, k < wr.heap.size → row ≠ some k → w1.heap[k]? = wr.heap[k]? := fun k hk hne => hg.block k hk (fun e => hne e.symm)
  refine ⟨h.cop.keep (h.cop.below.grown hg (by omega) (fun k hk => by have := hr k hk; omega)) (fun k hk => e k (by omega) (fun ek => by have := hr k ek; omega)), h.s.of_block (e bF hbs (fun ek => (hr bF ek).2.2.2 rfl))⟩

theorem added_fin {base : Nat} {a' : Option Addr} {cap' : Nat} {ys : List Int} {p : Int} {w' : World} (h : Fin N n gC gD bF w A P F φ used (.slice a' ys.length cap') wr)
    (hown : wr.ownsRow base 3 1 (.slice a' ys.length cap') ys.length (ys.map (.int .i64))) (hbase : N + 2 ≤ base ∧ gC < base ∧ gD < base) (hbF : N + 2 ≤ bF ∧ gC < bF ∧ gD < bF) (hne : (Value.slice a' ys.length cap').ownBlock ≠ some bF)
    (ha : Added wr bF base ys.length (.slice a' ys.length cap') (ys.map (.int .i64)) p w') :
    ∃ x', Fin N n gC gD bF w A P F φ used x' w' ∧ Holds w' x' (ys ++ [p]) ∧ ∀ k, k < wr.heap.size → k ≠ bF → (Value.slice a' ys.length cap').ownBlock ≠ some k → w'.heap[k]? = wr.heap[k]? := by
  obtain ⟨X, g', c', w1, hg, ho, rfl⟩ := ha
  have hrow := hown.lt
  have hg' : wr.grownBy w1 (Value.slice a' ys.length cap').ownBlock := ⟨hg.os, hg.tape, hg.output, by have := hg.size; simp at this; omega, fun k hk hr => grown_block hg hk (fun e => hr e.symm)⟩
  have hf1 : Fin N n gC gD bF w A P F φ used (.slice a' ys.length cap') w1 := h.grown hg' hbF (fun k hk => by
    have := hrow k hk
    refine ⟨by omega, by omega, by omega, fun e => hne (by rw [hk, e])⟩)
  have hgb : g' ≠ bF := by
    intro e
    subst e
    obtain ⟨c, hc, _⟩ := hf1.s
    rcases ho.2 with ⟨h', _⟩ | ⟨g, cap, cur, h', _, hb, _⟩
    · simp at h'
    · simp only [Value.slice.injEq, Option.some.injEq, Addr.mk.injEq, and_true, true_and] at h'
      rw [← h'.1, hc] at hb
      simp at hb
  refine ⟨_, hf1.setWatch hbF _, ?_, fun k hk hkb hkr => ?_⟩
  · have ho' : w1.ownsRow base 3 1 (.slice (some ⟨g', 0, none⟩) (ys ++ [p]).length c') (ys ++ [p]).length ((ys ++ [p]).map (.int .i64)) := by simpa using ho
    rcases holds_of ho' with ⟨h', _⟩ | ⟨g, cap, h', hc⟩
    · simp at h'
    · simp only [Value.slice.injEq, Option.some.injEq, Addr.mk.injEq, and_true, true_and] at h'
      obtain ⟨rfl, rfl⟩ := h'
      refine .inr ⟨g', c', by simp, fun j hj => ?_⟩
      rw [World.cell?_setCell_other _ ⟨bF, 10, none⟩ ⟨g', j, none⟩ _ (fun e => hgb (congrArg Addr.block e).symm)]
      exact hc j hj
  · rw [Below.heap_setCell _ _ _ _ (by simpa using hkb)]
    exact hg'.block k hk (fun e => hkr e.symm)
/-- The slice 'want': it holds ys; its row, if it has one, is younger than s. -/
structure Want (bF : Nat) (vW : Value) (ys : List Int) (wr : World) : Prop where
  holds : Holds wr vW ys
  young : ∀ k, vW.ownBlock = some k → bF < k ∧ k < wr.heap.size
theorem want_of {base : Nat} {a2 : Option Addr} {cap2 : Nat} {ys : List Int} (h : wr.ownsRow base 3 1 (.slice a2 ys.length cap2) ys.length (ys.map (.int .i64))) (hb : bF < base) : Want bF (.slice a2 ys.length cap2) ys wr :=
  ⟨holds_of h, fun k hk => by have := h.lt k hk; omega⟩
/-- want, appended to. -/
theorem want_added {w7 w9 : World} {base m : Nat} {a' a2 : Option Addr} {cap' cap2 : Nat} {ys : List Int} {p : Int} {X : Obj} {v' : Value} (h : Fin N n gC gD bF w A P F φ used (.slice a' m cap') w7) (hbF : N + 2 ≤ bF ∧ gC < bF ∧ gD < bF)
    (hown : w7.ownsRow base 3 1 (.slice a' m cap') m (ys.map (.int .i64))) (hxb : ∀ k, (Value.slice a' m cap').ownBlock = some k → k < bF + 1)
    {bW : Nat} (hbW : bF < bW) (h2 : w7.ownsRow bW 3 1 (.slice a2 ys.length cap2) ys.length (ys.map (.int .i64))) (hg : (w7.alloc X).grownBy w9 (Value.slice a2 ys.length cap2).ownBlock) (ho : w9.ownsRow bW 3 1 v' (ys.length + 1) (ys.map (.int .i64) ++ [.int .i64 p])) :
    Fin N n gC gD bF w A P F φ used (.slice a' m cap') w9 ∧ w9.ownsRow base 3 1 (.slice a' m cap') m (ys.map (.int .i64)) ∧ Want bF v' (ys ++ [p]) w9 ∧ w7.heap.size ≤ w9.heap.size := by
  have hg' : w7.grownBy w9 (Value.slice a2 ys.length cap2).ownBlock := ⟨hg.os, hg.tape, hg.output, by have := hg.size; simp at this; omega, fun k hk hr => grown_block hg hk (fun e => hr e.symm)⟩
  have hr : ∀ k, (Value.slice a2 ys.length cap2).ownBlock = some k → bF < k := fun k hk => by have := h2.lt k hk; omega
  refine ⟨h.grown hg' hbF (fun k hk => by have := hr k hk; omega), hown.kept hg' ?_, ⟨holds_of (base := bW) (by simpa using ho), fun k hk => by have := ho.lt k hk; omega⟩, hg'.size⟩
  cases e : (Value.slice a' m cap').ownBlock with
  | none => exact .inl rfl
  | some k =>
    refine .inr fun e2 => ?_
    have h3 := hxb k e
    have h4 := hr k e2.symm
    omega
/-- want, behind rose. -/
theorem want_kept {w9 w10 : World} {vW : Value} {ys : List Int} (h : Want bF vW ys w9) (e : ∀ k, bF < k → k < w9.heap.size → w10.heap[k]? = w9.heap[k]?) : Holds w10 vW ys := by
  rcases h.holds with ⟨rfl, rfl⟩ | ⟨g, cap, rfl, hc⟩
  · exact .inl ⟨rfl, rfl⟩
  · have hy := h.young g rfl
    exact .inr ⟨g, cap, rfl, fun j hj => (World.cell?_of_block (w := w9) (a := ⟨g, j, none⟩) (e g hy.1 hy.2)).trans (hc j hj)⟩

/-- ROSE, WHOLE. -/
theorem rose_fin {base : Nat} {a' : Option Addr} {cap' : Nat} {xs ys : List Int} {p : Int} (h : Fin N n gC gD bF w A P F φ used (.slice a' ys.length cap') wr)
    (hown : wr.ownsRow base 3 1 (.slice a' ys.length cap') ys.length (ys.map (.int .i64))) (hbase : N + 2 ≤ base ∧ gC < base ∧ gD < base) (hbs : base ≤ wr.heap.size) (hbF : N + 2 ≤ bF ∧ gC < bF ∧ gD < bF) (hne : (Value.slice a' ys.length cap').ownBlock ≠ some bF) (hyl : ys.length ≤ 1048576)
    (htz : w.cell? ⟨2, 15, none⟩ = some (.int .u8 4)) (hN : N = w.heap.size) (hP : ∀ i, -2147483648 ≤ P i ∧ P i ≤ 2147483647) (hF : ∀ i, 0 ≤ F i ∧ F i ≤ 4294967295) (hA : ∀ i, 0 ≤ A i ∧ A i ≤ 4294967295)
    (ht : Tbl P F xs) (hl : xs.length ≤ 8) (hφ : 0 ≤ φ ∧ φ ≤ 18446744073709551615) (h0 : 0 ≤ p) (hp : p < (n : Int)) (hn : n ≤ 1048577) :
    Calls Ybad.prog 10 #[.pointer (some ⟨bF, 0, none⟩), .int .i64 p] wr fun e w' => e = .returned (.tuple #[]) ∧
      ∃ x', Fin N n gC gD bF w A P F φ used x' w' ∧ Holds w' x' (if addB (hasB A xs φ p) ys p = true then ys ++ [p] else ys) ∧ ∀ k, k < wr.heap.size → k ≠ bF → (Value.slice a' ys.length cap').ownBlock ≠ some k → w'.heap[k]? = wr.heap[k]? := by
  obtain ⟨y, hy, hget⟩ := get_fin h htz hN hP hF hA ht hl hφ h0 hp hn
  have hv : wr.cell? ⟨bF, 10, none⟩ = some (.slice a' ys.length cap') := h.s.cell (i := 10) (by omega)
  have hf := h.s.frozen 10
  have hold : Holds wr (.slice a' ys.length cap') ys := holds_of hown
  cases hb : hasB A xs φ p with
  | false =>
    have e : y = 18446744073709551615 := by simpa [hb] using hy
    subst e
    refine (rose_no bF p wr hget).mono ?_
    rintro e w' ⟨rfl, m, rfl⟩
    exact ⟨rfl, _, h.drewN m, by rw [show addB false ys p = false from rfl]; exact hold, fun _ _ _ _ => rfl⟩
  | true =>
    refine rose_yes bF p y _ wr hget (by rw [hy, hb]) fun m => ?_
    by_cases he : ys = []
    · subst he
      refine (watch_add_empty bF base cap' a' p (wr.drewN m) hv hf hown hbs hne).mono ?_
      rintro e w' ⟨rfl, ha⟩
      obtain ⟨x', h1, h2, h3⟩ := added_fin (ys := []) (h.drewN m) hown hbase hbF hne ha
      exact ⟨rfl, x', h1, by simpa [addB] using h2, h3⟩
    · have hpos : 1 ≤ ys.length := by
        cases ys with
        | nil => exact absurd rfl he
        | cons _ _ => simp
      obtain ⟨g, cap, hs, hc⟩ := hold.resolve_left (fun h => he h.2)
      have hs' : (Value.slice a' ys.length cap') = .slice (some ⟨g, 0, none⟩) ys.length cap := hs
      have hie : ys.isEmpty = false := by simpa using he
      have hlast := hc (ys.length - 1) (by omega)
      rw [hs'] at hv hown hne h ⊢
      by_cases hlp : ys.getD (ys.length - 1) 0 = p
      · rw [hlp] at hlast
        refine (watch_skip bF g ys.length cap p (wr.drewN m) hpos (by omega) hv hlast).mono ?_
        rintro e w' ⟨rfl, rfl⟩
        have hadd : addB true ys p = false := by simp only [addB, hie, hlp]; simp
        refine ⟨rfl, _, h.drewN m, ?_, fun _ _ _ _ => rfl⟩
        rw [hadd]
        exact .inr ⟨g, cap, rfl, hc⟩
      · refine (watch_add_more bF base g ys.length cap p (ys.getD (ys.length - 1) 0) (ys.map (.int .i64)) (wr.drewN m) hpos (by omega) hv hf hlast hlp hown hbs hne).mono ?_
        rintro e w' ⟨rfl, ha⟩
        obtain ⟨x', h1, h2, h3⟩ := added_fin (h.drewN m) hown hbase hbF hne ha
        have hadd : addB true ys p = true := by simp only [addB, hie]; simpa using hlp
        refine ⟨rfl, x', h1, ?_, h3⟩
        rw [hadd]
        exact h2
end
end Go.Proofs.YbulkezdaDoor
