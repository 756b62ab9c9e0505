/-
  PROOF OF 'Rows.LawS7555CWholeSaid': the row out of the walk. After the guide's own frame for a law over slices. By an AI agent of seat b7555a.
-/
import Derived.Test.YbulkezlcRows
import Derived.Test.YbulkezlcLong
import Derived.WalkKit
import Derived.ProofKit
import Derived.OpenShut
import Derived.ShutString
import Derived.ChangeOld
import Derived.Below
import Derived.Deep.SlicePairs
namespace Go.Proofs.Ybulkezlc.lawS7555CWhole
open Go.ChangeShapes Go.WideShapes Go.ChangeAt Go.RowKit Go.Deep
open Go.ChangeMaps (open_string shut_string)

theorem own : ownKnob Yba.prog.godebug = none := by kernel_rfl
theorem laidOut : laidOutB Yba.prog = true := by kernel_rfl

def strOf : Value → ByteArray
  | .string s => s
  | _ => ByteArray.empty

/-- WHAT THE READING OF members GIVES THE WALK. -/
theorem rm_of {H : Type} {enc : TypeId × Value → H} {W : World} {base : Nat} {sp : Nat → Bool} {held : Bool} {a : Option Addr} {n c : Nat} {d : DataW H} {p : List MemPlace}
    (h : DataW.Trod enc Yba.prog W base sp held 39 (.slice a n c) d p) : ∃ S T, Rm W a n S T ∧ n ≤ maxLen := by
  obtain ⟨fuel, hf⟩ := h
  rcases open_slice_pairs Yba.underlying39 Yba.underlying43 (by kernel_rfl) rfl rfl (by kernel_rfl) (by kernel_rfl) hf with ⟨hcs, _⟩ | ⟨x, l, cp, m, k, V0, V1, D0, D1, P0, P1, hcs, _, hl, hm, hmm, _, hall⟩
  · simp [Value.cells] at hcs
    obtain ⟨rfl, rfl, rfl⟩ := hcs
    exact ⟨fun _ => ByteArray.empty, fun _ => 0, .inl rfl, Nat.zero_le _⟩
  · simp [Value.cells] at hcs
    obtain ⟨rfl, rfl, rfl⟩ := hcs
    have hnm : n ≤ m := by rw [hmm]; split <;> omega
    refine ⟨fun i => strOf (V0 i), fun i => intOf (V1 i), ?_, by omega⟩
    by_cases h0 : n = 0
    · exact .inl h0
    · obtain ⟨b, off, spot⟩ := x
      have hsp : spot = none := by simpa [Addr.add] using World.cell?_spot (hall 0 (by omega)).1
      subst hsp
      refine .inr ⟨b, off, rfl, fun i hi => ?_⟩
      obtain ⟨e0, e1, t0, t1⟩ := hall i (by omega)
      obtain ⟨s, f0, _⟩ := DataW.trod_string Yba.underlying9 t0
      obtain ⟨z, f1, _, hz⟩ := DataW.trod_int Yba.underlying27 t1
      have g0 : V0 i = .string s := by simpa using f0
      have g1 : V1 i = .int .u64 z := by simpa using f1
      rw [show Addr.add ⟨b, off, none⟩ (i * 2) = ⟨b, off + i * 2, none⟩ by simp [Addr.add]] at e0
      rw [show Addr.add ⟨b, off, none⟩ (i * 2 + 1) = ⟨b, off + i * 2 + 1, none⟩ by simp [Addr.add, Nat.add_assoc]] at e1
      have b := bounds_u64 hz
      show _ = some (Value.string (strOf (V0 i))) ∧ _ = some (Value.int .u64 (intOf (V1 i))) ∧ 0 ≤ intOf (V1 i) ∧ intOf (V1 i) ≤ 18446744073709551615
      rw [e0, e1, g0, g1]
      exact ⟨rfl, rfl, b.1, b.2⟩

theorem walk (lb r : Int) (h : Bool) (a : Option Addr) (n c : Nat) (S : Nat → ByteArray) (T : Nat → Int) (w : World) (hlb : 0 ≤ lb ∧ lb ≤ 18446744073709551615) (hr : 0 ≤ r ∧ r ≤ 18446744073709551615) (hm : Rm w a n S T) (hn : n ≤ maxLen) :
    Calls Yba.prog 5 #[.int .u64 lb, .int .u64 r, .bool h, .slice a n c] w fun e w' => e = .returned (.bool true) ∧ Below w.heap.size w w' := by
  unfold maxLen at hn
  by_cases hg : 1048576 < n
  · exact law_great lb r h a n c w hg (by omega)
  cases h with
  | false => exact law_none lb r a n c w (by omega) hlb hr
  | true => exact law_some lb r a n c S T w (by omega) hlb hr hm

set_option maxRecDepth 100000 in
theorem lifted (os : Os) (started : os.Started) (H : Type) (enc : TypeId × Value → H) :
    ReturnsInHanded {} Yba.checked os 5 .any (Rows.lawS7555CWholeSpec.pre6 enc Yba.prog Yba.f5 Rows.lawS7555CWholeRow.domain false) (Rows.lawS7555CWholeSpec.post enc Yba.prog Yba.f5 false true false false) := by
  refine returnsInHanded_of_change (C := Yba.checked) own started (by kernel_rfl) Yba.func5
    (ChangeSpec.witness6 (enc := enc) (C := Yba.checked) false ⟨#[], #[.int .u64 0, .int .u64 0, .bool false, .slice none 0 0], []⟩ 8 (by kernel_rfl) (by kernel_rfl) (by kernel_rfl) (by kernel_rfl)) ?_
  intro W base args ds gs before hval0 hW hcnd _
  have hval : ∀ (j : Nat) t v, Yba.f5.params[j]? = some t → args[j]? = some v → Value.okWide Yba.prog W .any base t v := hval0
  have hW' := hW
  obtain ⟨p, q, hA0, hV, rfl, hfz, hnd⟩ := hW
  have hA : DataW.TrodAll enc Yba.prog W 0 (fun _ => true) true Yba.f5.params.toList args.toList ds p := hA0
  rw [Yba.params5] at hA hval
  obtain ⟨v0, vs0, d0, ds0, p0, q0, hargs, rfl, rfl, h0, r0⟩ := trodAll_cons hA
  obtain ⟨v1, vs1, d1, ds1, p1, q1, rfl, rfl, rfl, h1, r1⟩ := trodAll_cons r0
  obtain ⟨v2, vs2, d2, ds2, p2, q2, rfl, rfl, rfl, h2, r2⟩ := trodAll_cons r1
  obtain ⟨v3, vs3, d3, ds3, p3, q3, rfl, rfl, rfl, h3, r3⟩ := trodAll_cons r2
  obtain ⟨rfl, rfl, rfl⟩ := trodAll_nil r3
  obtain rfl : args = #[v0, v1, v2, v3] := by cases args; simp_all
  obtain ⟨rfl, rfl⟩ := trodVars_none hV
  obtain ⟨lb, rfl, rfl, rfl, w0⟩ := open_int Yba.underlying27 (hval 0 27 v0 rfl rfl) h0
  obtain ⟨r, rfl, rfl, rfl, w1⟩ := open_int Yba.underlying27 (hval 1 27 v1 rfl rfl) h1
  obtain ⟨hc, rfl, rfl, rfl⟩ := open_bool Yba.underlying4 (hval 2 4 v2 rfl rfl) h2
  obtain ⟨a3, n3, c3, rfl⟩ := okWide_slice Yba.underlying39 (hval 3 39 v3 rfl rfl)
  have k3 := h3
  have lt3 : ∀ x ∈ p3, x.block < W.heap.size := by obtain ⟨m, hm⟩ := k3; exact DataW.trod_lt m _ _ _ hm
  obtain ⟨S, T, hm, hn⟩ := rm_of h3
  clear hA0 hval0
  refine (walk lb r hc a3 n3 c3 S T W (bounds_u64 w0) (bounds_u64 w1) hm hn).mono fun e W' ⟨he, bel⟩ => ?_
  subst he
  exact ⟨_, rfl, _, _, _, [], _, [], hW', trodAll_mk1 (shut_bool Yba.underlying4 _), (trodAll_cons_mk (shut_int Yba.underlying27 w0) (trodAll_cons_mk (shut_int Yba.underlying27 w1) (trodAll_cons_mk (shut_bool Yba.underlying4 _) (trodAll_cons_mk (Below.trod laidOut (by kernel_rfl) (of_decide_eq_true (by kernel_rfl)) k3 bel lt3) trodAll_mk0)))), rfl, bel.frame _, fun h => by cases h⟩

theorem over : Rows.lawS7555CWholeRow.holds Yba.pinned (OpenSpec.ofChange Rows.lawS7555CWholeSpec) :=
  OpenClaim.holds_of_wide 5 Yba.f5 rfl rfl rfl rfl rfl rfl rfl ⟨rfl, rfl, rfl, rfl, rfl⟩ rfl rfl rfl rfl rfl (by kernel_rfl) Yba.func5 (by kernel_rfl)
    (of_decide_eq_true (by kernel_rfl)) (by unfold Func.isWrapper; first | (rw [if_pos (by decide +kernel)]; kernel_rfl) | (rw [if_neg (by decide +kernel)]; exact ⟨rfl, rfl⟩))
    (fun os started H enc _ => lifted os started H enc)

/-- ████ THE STATEMENT ████ -/
theorem proved : Rows.LawS7555CWholeSaid := over
end Go.Proofs.Ybulkezlc.lawS7555CWhole
