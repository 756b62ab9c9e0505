/-
  THE PLAIN LAW: a table of 16 slots filled by linear probing: no Go in sight (but for 'hm', the home slot, and 'Stops', where a search ends).
-/
import Derived.Test.YbulkezdaDoorFloors
namespace Go.Proofs.YbulkezdaDoor

def upd (f : Nat → Int) (s : Nat) (v : Int) : Nat → Int := fun i => if i = s then v else f i

/-- THE TABLE HOLDS THE PAYERS xs. -/
structure Tbl (P F : Nat → Int) (xs : List Int) : Prop where
  few : ∃ ss : List Nat, ss.length = xs.length ∧ ∀ s, s < 16 → F s ≠ 0 → s ∈ ss
  mem : ∀ s, s < 16 → F s ≠ 0 → P s ∈ xs
  lies : ∀ q, q ∈ xs → ∃ d, d < 16 ∧ F ((hm q + d) % 16) ≠ 0 ∧ P ((hm q + d) % 16) = q ∧ ∀ d', d' < d → F ((hm q + d') % 16) ≠ 0

theorem tbl_empty : Tbl (fun _ => 0) (fun _ => 0) [] :=
  ⟨⟨[], rfl, fun _ _ h => absurd rfl h⟩, fun _ _ h => absurd rfl h, fun _ h => by cases h⟩

/-- All of 0 .. n-1 among ss: ss has n elements at least. -/
theorem all_in (n : Nat) : ∀ ss : List Nat, (∀ s, s < n → s ∈ ss) → n ≤ ss.length := by
  induction n with
  | zero => intro ss _; omega
  | succ n ih =>
    intro ss h
    have hm := h n (by omega)
    have h' := ih (ss.erase n) (fun s hs => (List.mem_erase_of_ne (by omega)).2 (h s (by omega)))
    rw [List.length_erase_of_mem hm] at h'
    have : 0 < ss.length := List.length_pos_of_mem hm
    omega
theorem Tbl.free {P F : Nat → Int} {xs : List Int} (h : Tbl P F xs) (hl : xs.length < 16) : ∃ s, s < 16 ∧ F s = 0 := by
  obtain ⟨ss, hs, hin⟩ := h.few
  apply Classical.byContradiction
  intro hno
  have := all_in 16 ss (fun s hs => hin s hs (fun e => hno ⟨s, hs, e⟩))
  omega
/-- The first d below n at which Q holds. -/
theorem first_of (Q : Nat → Prop) : ∀ n, (∃ d, d < n ∧ Q d) → ∃ d, d < n ∧ Q d ∧ ∀ d', d' < d → ¬ Q d' := by
  intro n
  induction n with
  | zero => rintro ⟨d, hd, _⟩; omega
  | succ n ih =>
    rintro ⟨d, hd, hq⟩
    by_cases h : ∃ d, d < n ∧ Q d
    · obtain ⟨d, h1, h2, h3⟩ := ih h
      exact ⟨d, by omega, h2, h3⟩
    · have : d = n := by
        apply Classical.byContradiction
        intro e
        exact h ⟨d, by omega, hq⟩
      subst this
      exact ⟨d, by omega, hq, fun d' hd' hq' => h ⟨d', hd', hq'⟩⟩
theorem dist (h s : Nat) (hh : h < 16) (hs : s < 16) : ∃ d, d < 16 ∧ (h + d) % 16 = s := ⟨(s + 16 - h) % 16, by omega, by omega⟩

/-- WHERE A NEW PAYER IS LAID: at the first free slot from its home on. -/
theorem Tbl.place {P F : Nat → Int} {xs : List Int} (h : Tbl P F xs) (hl : xs.length < 16) (q : Int) : ∃ d, d < 16 ∧ F ((hm q + d) % 16) = 0 ∧ ∀ d', d' < d → F ((hm q + d') % 16) ≠ 0 := by
  obtain ⟨s, hs, hz⟩ := h.free hl
  obtain ⟨d, hd, e⟩ := dist (hm q) s (hm_lt q) hs
  exact first_of (fun d => F ((hm q + d) % 16) = 0) 16 ⟨d, hd, by rw [e]; exact hz⟩

/-- WHERE A SEARCH STOPS, AND WHAT IT FINDS. -/
theorem Tbl.search {P F : Nat → Int} {xs : List Int} (h : Tbl P F xs) (hl : xs.length < 16) (p : Int) : ∃ s, s < 16 ∧ Stops P F p s ∧ (F s ≠ 0 ↔ p ∈ xs) := by
  obtain ⟨d, hd, hq, hno⟩ := first_of (fun d => F ((hm p + d) % 16) = 0 ∨ P ((hm p + d) % 16) = p) 16 (by
    obtain ⟨d, hd, hz, _⟩ := h.place hl p
    exact ⟨d, hd, Or.inl hz⟩)
  refine ⟨(hm p + d) % 16, by omega, ⟨d, hd, rfl, hq, fun d' hd' => ⟨fun e => hno d' hd' (Or.inl e), fun e => hno d' hd' (Or.inr e)⟩⟩, ?_⟩
  constructor
  · intro hz
    have e : P ((hm p + d) % 16) = p := hq.resolve_left hz
    have := h.mem _ (by omega) hz
    rwa [e] at this
  · intro hm' hz
    obtain ⟨d1, hd1, h1, h2, h3⟩ := h.lies p hm'
    by_cases e : d = d1
    · subst e; exact h1 hz
    · by_cases e' : d < d1
      · exact h3 d e' hz
      · exact hno d1 (by omega) (Or.inr h2)

/-- A NEW PAYER LAID. -/
theorem Tbl.put {P F : Nat → Int} {xs : List Int} (h : Tbl P F xs) (q v : Int) (hv : v ≠ 0) (d : Nat) (hd : d < 16) (hz : F ((hm q + d) % 16) = 0) (hno : ∀ d', d' < d → F ((hm q + d') % 16) ≠ 0) :
    Tbl (upd P ((hm q + d) % 16) q) (upd F ((hm q + d) % 16) v) (xs ++ [q]) := by
  have up : ∀ i, F i ≠ 0 → upd F ((hm q + d) % 16) v i ≠ 0 := fun i hi => by
    unfold upd
    split
    · exact hv
    · exact hi
  obtain ⟨ss, hs, hin⟩ := h.few
  refine ⟨⟨((hm q + d) % 16) :: ss, by simp [hs], fun s h16 hF => ?_⟩, fun s h16 hF => ?_, fun q' hq' => ?_⟩
  · by_cases e : s = (hm q + d) % 16
    · rw [e]; exact List.mem_cons_self
    · exact List.mem_cons_of_mem _ (hin s h16 (by simpa [upd, e] using hF))
  · by_cases e : s = (hm q + d) % 16
    · simp [upd, e]
    · simp only [upd, if_neg e] at hF ⊢
      exact List.mem_append_left _ (h.mem s h16 hF)
  · rcases List.mem_append.1 hq' with hq' | hq'
    · obtain ⟨d1, hd1, h1, h2, h3⟩ := h.lies q' hq'
      refine ⟨d1, hd1, up _ h1, ?_, fun d' hd' => up _ (h3 d' hd')⟩
      have e : ¬ (hm q' + d1) % 16 = (hm q + d) % 16 := fun e => h1 (by rw [e]; exact hz)
      simp only [upd, if_neg e]
      exact h2
    · obtain rfl : q' = q := by simpa using hq'
      exact ⟨d, hd, by simpa [upd] using hv, by simp [upd], fun d' hd' => up _ (hno d' hd')⟩
end Go.Proofs.YbulkezdaDoor
