/-
  PROOF OF 'Rows.LawS7540AWholeCardSaid': the row out of the walk; the card out of the row and the given tie. By an AI agent of seat b7540aD.
-/
import Derived.Test.YbulkezdaDoorLong
import Derived.Test.YbulkezdaDoorShort
import Derived.Test.YbulkezdaDoorLaid
import Derived.Test.YbulkezdaDoorTie
import Derived.Test.YbulkezdaDoorCards
import Derived.ProofKit
import Derived.LaidMore
import Derived.OpenShut
import Derived.Stop.Joined
import Derived.ChangeOld
import Derived.SevenTiedAt
namespace Go.Proofs.YbulkezdaDoor.lawS7540AWhole
open Go.ChangeShapes Go.WideShapes Go.ChangeAt Go.RowKit

theorem own : ownKnob Ybad.prog.godebug = none := by kernel_rfl
theorem laidOut : laidOutB Ybad.prog = true := by kernel_rfl

/-- WHAT THE READING OF A SLICE OF INTEGERS GIVES THE WALK. -/
theorem rd_of {H : Type} {enc : TypeId × Value → H} {W : World} {base : Nat} {sp : Nat → Bool} {held : Bool} {k : IntKind} {T E : TypeId} {a : Option Addr} {n c : Nat} {d : DataW H} {p : List MemPlace} (hT : Ybad.prog.underlying T = some (.slice E)) (hE : Ybad.prog.underlying E = some (.int k)) (hc : Ybad.prog.cellsOf E = 1)
    (h : DataW.Trod enc Ybad.prog W base sp held T (.slice a n c) d p) : ∃ zs, Rd k W a n zs ∧ (a = none → c = 0) ∧ n ≤ maxLen := by
  obtain ⟨fuel, hf⟩ := h
  rcases open_ints hT hE hc hf with ⟨hcs, _⟩ | ⟨x, l, cp, zs, hcs, _, hl, hm, hz, _, hcell, hwz⟩
  · simp [Value.cells] at hcs
    obtain ⟨rfl, rfl, rfl⟩ := hcs
    exact ⟨[], ⟨rfl, fun z hz => absurd hz (by simp), .inl rfl⟩, fun _ => rfl, Nat.zero_le _⟩
  · simp [Value.cells] at hcs
    obtain ⟨rfl, rfl, rfl⟩ := hcs
    have hlz : n ≤ zs.length := by rw [hz]; split <;> omega
    refine ⟨zs.take n, ⟨by simp; omega, fun z hz' => hwz z (List.mem_of_mem_take hz'), ?_⟩, fun e => absurd e (by simp), by omega⟩
    by_cases h0 : n = 0
    · exact .inl h0
    · obtain ⟨b, off, spot⟩ := x
      have hsp : spot = none := by simpa [Addr.add] using World.cell?_spot (hcell 0 (by omega))
      subst hsp
      refine .inr ⟨b, off, rfl, fun j hj => ?_⟩
      have := hcell j (by omega)
      rw [show Addr.add ⟨b, off, none⟩ j = ⟨b, off + j, none⟩ by simp [Addr.add]] at this
      rw [this]
      simp [List.getD_eq_getElem?_getD, hj]

set_option maxRecDepth 100000 in
theorem lifted (os : Os) (started : os.Started) (H : Type) (enc : TypeId × Value → H) :
    ReturnsInHanded {} Ybad.checked os 3 .any (fun w args => (Rows.lawS7540AWholeSpec.pre enc Ybad.prog Ybad.f3 [] false w args ∧ laidMetH Ybad.prog Rows.lawS7540AWholeRow.laid w) ∧ sizedMet enc Ybad.prog Ybad.f3 (OpenSpec.ofChange Rows.lawS7540AWholeSpec) false w args)
      (Rows.lawS7540AWholeSpec.post enc Ybad.prog Ybad.f3 false true false false) := by
  refine returnsInHanded_of_change_and (C := Ybad.checked) (X := fun w _ => laidMetH Ybad.prog Rows.lawS7540AWholeRow.laid w) (fun _ _ _ hh h => h.of_heap hh) own started (by kernel_rfl) Ybad.func3
    (ChangeSpec.witness_shaped (enc := enc) (C := Ybad.checked) (os := os) (X := fun w _ => laidMetH Ybad.prog Rows.lawS7540AWholeRow.laid w) false (World.doorLaid Ybad.prog 26 os) #[.slice none 0 0, .slice none 0 0, .int .u64 0, .slice none 0 0, .slice none 0 0, .int .u64 0] 8 rfl (World.shaped_of_RefB (by kernel_rfl) (by kernel_rfl)) (by kernel_rfl) (by kernel_rfl) (by kernel_rfl) (door_met os _)) ?_
  intro W base args ds gs before hval0 hW _ _ hL _
  have hval : ∀ (j : Nat) t v, Ybad.f3.params[j]? = some t → args[j]? = some v → Value.okWide Ybad.prog W .any base t v := hval0
  have hW' := hW
  obtain ⟨p, q, hA0, hV, rfl, hfz, hnd⟩ := hW
  have hA : DataW.TrodAll enc Ybad.prog W 0 (fun _ => true) true Ybad.f3.params.toList args.toList ds p := hA0
  rw [Ybad.params3] at hA hval
  obtain ⟨v0, vs0, d0, ds0, p0, q0, hargs, rfl, rfl, h0, r0⟩ := trodAll_cons hA
  obtain ⟨v1, vs1, d1, ds1, p1, q1, rfl, rfl, rfl, h1, r1⟩ := trodAll_cons r0
  obtain ⟨v2, vs2, d2, ds2, p2, q2, rfl, rfl, rfl, h2, r2⟩ := trodAll_cons r1
  obtain ⟨v3, vs3, d3, ds3, p3, q3, rfl, rfl, rfl, h3, r3⟩ := trodAll_cons r2
  obtain ⟨v4, vs4, d4, ds4, p4, q4, rfl, rfl, rfl, h4, r4⟩ := trodAll_cons r3
  obtain ⟨v5, vs5, d5, ds5, p5, q5, rfl, rfl, rfl, h5, r5⟩ := trodAll_cons r4
  obtain ⟨rfl, rfl, rfl⟩ := trodAll_nil r5
  obtain rfl : args = #[v0, v1, v2, v3, v4, v5] := by cases args; simp_all
  obtain ⟨rfl, rfl⟩ := trodVars_none hV
  obtain ⟨a0, n0, c0, rfl⟩ := okWide_slice Ybad.underlying22 (hval 0 22 v0 rfl rfl)
  have k0 := h0
  have lt0 : ∀ x ∈ p0, x.block < W.heap.size := by obtain ⟨m, hm⟩ := k0; exact DataW.trod_lt m _ _ _ hm
  obtain ⟨z0, rd0, nl0, ml0⟩ := rd_of (k := .u32) Ybad.underlying22 Ybad.underlying29 (by kernel_rfl) h0
  obtain ⟨a1, n1, c1, rfl⟩ := okWide_slice Ybad.underlying23 (hval 1 23 v1 rfl rfl)
  have k1 := h1
  have lt1 : ∀ x ∈ p1, x.block < W.heap.size := by obtain ⟨m, hm⟩ := k1; exact DataW.trod_lt m _ _ _ hm
  obtain ⟨z1, rd1, nl1, ml1⟩ := rd_of (k := .i64) Ybad.underlying23 Ybad.underlying3 (by kernel_rfl) h1
  obtain ⟨a3, n3, c3, rfl⟩ := okWide_slice Ybad.underlying25 (hval 3 25 v3 rfl rfl)
  have k3 := h3
  have lt3 : ∀ x ∈ p3, x.block < W.heap.size := by obtain ⟨m, hm⟩ := k3; exact DataW.trod_lt m _ _ _ hm
  obtain ⟨z3, rd3, nl3, ml3⟩ := rd_of (k := .u64) Ybad.underlying25 Ybad.underlying24 (by kernel_rfl) h3
  obtain ⟨a4, n4, c4, rfl⟩ := okWide_slice Ybad.underlying22 (hval 4 22 v4 rfl rfl)
  have k4 := h4
  have lt4 : ∀ x ∈ p4, x.block < W.heap.size := by obtain ⟨m, hm⟩ := k4; exact DataW.trod_lt m _ _ _ hm
  obtain ⟨z4, rd4, nl4, ml4⟩ := rd_of (k := .u32) Ybad.underlying22 Ybad.underlying29 (by kernel_rfl) h4
  obtain ⟨pr, rfl, rfl, rfl, w2⟩ := open_int Ybad.underlying24 (hval 2 24 v2 rfl rfl) h2
  obtain ⟨ex, rfl, rfl, rfl, w5⟩ := open_int Ybad.underlying26 (hval 5 26 v5 rfl rfl) h5
  have htz := of_laid hL
  clear hA0 hval0
  have fin : Calls Ybad.prog 3 #[.slice a0 n0 c0, .slice a1 n1 c1, .int .u64 pr, .slice a3 n3 c3, .slice a4 n4 c4, .int .u64 ex] W fun e w' => e = .returned (.bool true) ∧ Below W.heap.size W w' := by
    unfold maxLen at ml0 ml1 ml3 ml4
    by_cases hs : n0 ≤ 1048576 ∧ n1 ≤ 1048576 ∧ n3 ≤ 1048576 ∧ n4 ≤ 1048576
    · exact law_long a0 a1 a3 a4 n0 n1 n3 n4 c0 c1 c3 c4 pr ex z0 z1 z3 z4 W hs.1 hs.2.1 hs.2.2.1 hs.2.2.2 rd0 rd1 rd3 rd4 (bounds_u64 w2) (bounds_u64 w5) htz nl1
    · exact law_short a0 a1 a3 a4 n0 n1 n3 n4 c0 c1 c3 c4 pr ex W (by omega) (by omega) (by omega) (by omega) (by omega)
  refine fin.mono fun e W' ⟨he, bel⟩ => ?_
  subst he
  exact ⟨_, rfl, _, _, _, [], _, [], hW', trodAll_mk1 (shut_bool Ybad.underlying4 _), (trodAll_cons_mk (Below.trod laidOut (by kernel_rfl) (of_decide_eq_true (by kernel_rfl)) k0 bel lt0) (trodAll_cons_mk (Below.trod laidOut (by kernel_rfl) (of_decide_eq_true (by kernel_rfl)) k1 bel lt1) (trodAll_cons_mk (shut_int Ybad.underlying24 w2) (trodAll_cons_mk (Below.trod laidOut (by kernel_rfl) (of_decide_eq_true (by kernel_rfl)) k3 bel lt3) (trodAll_cons_mk (Below.trod laidOut (by kernel_rfl) (of_decide_eq_true (by kernel_rfl)) k4 bel lt4) (trodAll_cons_mk (shut_int Ybad.underlying26 w5) trodAll_mk0)))))), rfl, bel.frame _, fun h => by cases h⟩

theorem over : Rows.LawS7540AWholeSaid :=
  OpenClaim.holds_of_wide 3 Ybad.f3 rfl rfl rfl rfl rfl rfl rfl ⟨rfl, rfl, rfl, rfl, rfl⟩ rfl rfl rfl rfl rfl (by kernel_rfl) Ybad.func3 (by kernel_rfl)
    (of_decide_eq_true (by kernel_rfl)) (by unfold Func.isWrapper; first | (rw [if_pos (by decide +kernel)]; kernel_rfl) | (rw [if_neg (by decide +kernel)]; exact ⟨rfl, rfl⟩))
    (fun os started H enc _ => lifted os started H enc)

/-- ████ THE STATEMENT ████ -/
theorem proved : Rows.LawS7540AWholeCardSaid :=
  Claim7.holds_tied_plain_at .later [] [.data, .data] true Rows.lawS7540AWholeCard.stood.harness true
    over (fun _ h => by cases h) (by kernel_rfl) (fun _ h => by cases h) lawS7540AWhole_row_tie rfl ⟨rfl, rfl⟩ (by kernel_rfl) rfl
    (fun f fn hf hfn => by
      obtain rfl : f = 3 := Option.some.inj ((show _ = some 3 by kernel_rfl).symm.trans hf) |>.symm
      obtain rfl : fn = Ybad.f3 := (Option.some.inj (Ybad.func3.symm.trans hfn)).symm
      exact ⟨by kernel_rfl, fun j t ht => by
        rw [Ybad.params3] at ht
        have hm : t ∈ [22, 23, 24, 25, 22, 26] := by simpa using Array.mem_of_getElem? ht
        have hall : ([22, 23, 24, 25, 22, 26].all fun u => !Ybad.prog.wantsStandIn u) = true := by kernel_rfl
        exact (show Ybad.prog.wantsStandIn t = false by simpa using List.all_eq_true.1 hall t hm)⟩)
    (by kernel_rfl)
end Go.Proofs.YbulkezdaDoor.lawS7540AWhole
