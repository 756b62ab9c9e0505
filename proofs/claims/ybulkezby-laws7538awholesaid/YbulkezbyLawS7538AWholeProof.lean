/-
  PROOF OF 'Rows.LawS7538AWholeSaid'. The frame (the row's step) is the given shell's. By an AI agent of seat b7538a.
-/
import Derived.Test.YbulkezbyRows
import Derived.WalkKit
import Derived.ProofKit
import Derived.OpenShut
import Derived.ShutString
namespace Go.Proofs.Ybulkezby.lawS7538AWhole
open Go.ChangeShapes Go.WideShapes Go.ChangeAt Go.RowKit
open Go.ChangeMaps (open_string shut_string)
set_option linter.unusedVariables false      -- a walk need not use every 'w<i>' (that an integer argument fits its kind)

theorem own : ownKnob Yba.prog.godebug = none := by kernel_rfl

/-! ### THE HELPER's CONTRACT -/
theorem ret_int {k : IntKind} {a b : Int} (h : a = b) : Ending.returned (.int k a) = .returned (.int k b) := by rw [h]
theorem ahead_any (a1 a2 : Int) (q1 : -9223372036854775808 ≤ a1 ∧ a1 ≤ 9223372036854775807) (q2 : -9223372036854775808 ≤ a2 ∧ a2 ≤ 9223372036854775807) (c1 : a2 < a1) (w : World) :
    Calls Yba.prog 6 #[.int .i64 a1, .int .i64 a2] w fun e w' => e = .returned (.int .u64 (a1 - a2)) ∧ w' = w := by
  by_cases c2 : 0 ≤ a2
  · go_enter Yba.func6, Yba.ntmps6
    go_wp2
    go_ret
    exact ⟨rfl, rfl⟩
  · by_cases c3 : a1 < 0
    · go_enter Yba.func6, Yba.ntmps6
      go_wp2
      go_ret
      exact ⟨rfl, rfl⟩
    · go_enter Yba.func6, Yba.ntmps6
      go_wp2
      go_ret
      exact ⟨ret_int (by omega), rfl⟩

/-! ### '(*Clock).pastOffset' on a clock whose field 'maxOffset' holds a0 -/
theorem sub_u64 (a1 a2 : Int) (q1 : -9223372036854775808 ≤ a1 ∧ a1 ≤ 9223372036854775807) (q2 : -9223372036854775808 ≤ a2 ∧ a2 ≤ 9223372036854775807) (c1 : a2 < a1) :
    IntKind.u64.wrap (IntKind.u64.wrap a1 - IntKind.u64.wrap a2) = a1 - a2 := by
  simp only [IntKind.wrap_u64]
  omega
theorem ret_pair {a b : Int} {r s : Bool} (h : a = b) (h' : r = s) : Ending.returned (.tuple #[.int .u64 a, .bool r]) = .returned (.tuple #[.int .u64 b, .bool s]) := by rw [h, h']
/-- What it answers of the bool. -/
def pastB (a0 a1 a2 : Int) : Bool := if a0 ≤ 0 then decide (100 < a1 - a2) else (a0 != 9223372036854775807) && decide (a0 < a1 - a2)
theorem past_any (a0 a1 a2 : Int) (q0 : -9223372036854775808 ≤ a0 ∧ a0 ≤ 9223372036854775807) (q1 : -9223372036854775808 ≤ a1 ∧ a1 ≤ 9223372036854775807) (q2 : -9223372036854775808 ≤ a2 ∧ a2 ≤ 9223372036854775807) (c1 : a2 < a1) (b : Nat) (w : World) (hc : w.cell? ⟨b, 1, none⟩ = some (.int .i64 a0)) :
    Calls Yba.prog 5 #[.pointer (some ⟨b, 0, none⟩), .int .i64 a1, .int .i64 a2] w fun e w' => e = .returned (.tuple #[.int .u64 (a1 - a2), .bool (pastB a0 a1 a2)]) ∧ w' = w := by
  have E : Hid (IntKind.u64.wrap (IntKind.u64.wrap a1 - IntKind.u64.wrap a2) = a1 - a2) := sub_u64 a1 a2 q1 q2 c1
  by_cases c3 : a0 ≤ 0
  · have F : Hid (pastB a0 a1 a2 = decide (100 < a1 - a2)) := by show _ = _; simp [pastB, c3]
    go_enter Yba.func5, Yba.ntmps5
    go_wp2
    go_ret2
    exact ⟨ret_pair E.out (by rw [E.out, F.out]), rfl⟩
  · by_cases c4 : a0 = 9223372036854775807
    · have F : Hid (pastB a0 a1 a2 = false) := by show _ = _; subst c4; rfl
      subst c4
      go_enter Yba.func5, Yba.ntmps5
      go_wp2
      go_ret2
      exact ⟨ret_pair E.out F.out.symm, rfl⟩
    · have F : Hid (pastB a0 a1 a2 = ((a0 != 9223372036854775807) && decide (a0 < a1 - a2))) := by show _ = _; simp [pastB, c3]
      go_enter Yba.func5, Yba.ntmps5
      go_wp2
      go_ret2
      exact ⟨ret_pair E.out (by rw [E.out, F.out]), rfl⟩
theorem past_not (a0 a1 a2 : Int) (c1 : a1 ≤ a2) (b : Nat) (w : World) :
    Calls Yba.prog 5 #[.pointer (some ⟨b, 0, none⟩), .int .i64 a1, .int .i64 a2] w fun e w' => e = .returned (.tuple #[.int .u64 0, .bool false]) ∧ w' = w := by
  go_enter Yba.func5, Yba.ntmps5
  go_wp2
  go_ret2
  exact ⟨rfl, rfl⟩

/-! ### STEP 1: THE WALK: the Go text returns true. 'Grown w w'': the world has at most new blocks (Derived/RowKit3.lean). Part the cases AHEAD of 'go_enter' where a test parts the walk; take each callee by a contract of your own. -/
theorem walk (a0 : Int) (a1 : Int) (a2 : Int) (w0 : (Lit.int .i64 a0).wf = true) (w1 : (Lit.int .i64 a1).wf = true) (w2 : (Lit.int .i64 a2).wf = true) (w : World) :
    Calls Yba.prog 3 #[.int .i64 a0, .int .i64 a1, .int .i64 a2] w fun e w' => e = .returned (.bool true) ∧ Grown w w' := by
  have q0 := bounds_i64 w0
  have q1 := bounds_i64 w1
  have q2 := bounds_i64 w2
  clear w0 w1 w2
  have hn : ∀ w : World, (binOp BinOp.neq 27 .nilFunc .nilFunc).run Yba.prog w = .ok (.bool false) w := fun _ => by kernel_rfl
  by_cases c1 : a1 ≤ a2
  · go_enter Yba.func3, Yba.ntmps3
    go_wp2_with (first | (go_at_call 5; refine (past_not a0 a1 a2 c1 _ _).mono ?_; rintro e w' ⟨rfl, rfl⟩) | go_in)
    go_ret
    exact ⟨rfl, (Grown.refl _).alloc _ _⟩
  have c1' : a2 < a1 := by omega
  clear c1
  by_cases c3 : a0 ≤ 0
  · have F : Hid (pastB a0 a1 a2 = decide (100 < a1 - a2)) := by show _ = _; simp [pastB, c3]
    go_enter Yba.func3, Yba.ntmps3
    go_wp2_with (first | (go_at_call 5; refine (past_any a0 a1 a2 q0 q1 q2 c1' _ _ (by simp [go_sem])).mono ?_; rw [F.out]; rintro e w' ⟨rfl, rfl⟩) | (go_at_call 6; refine (ahead_any a1 a2 q1 q2 c1' _).mono ?_; rintro e w' ⟨rfl, rfl⟩) | go_in)
    go_ret
    exact ⟨by simp, (Grown.refl _).alloc _ _⟩
  by_cases c4 : a0 = 9223372036854775807
  · have F : Hid (pastB a0 a1 a2 = false) := by show _ = _; subst c4; rfl
    subst c4
    go_enter Yba.func3, Yba.ntmps3
    go_wp2_with (first | (go_at_call 5; refine (past_any _ a1 a2 q0 q1 q2 c1' _ _ (by simp [go_sem])).mono ?_; rw [F.out]; rintro e w' ⟨rfl, rfl⟩) | (go_at_call 6; refine (ahead_any a1 a2 q1 q2 c1' _).mono ?_; rintro e w' ⟨rfl, rfl⟩) | go_in)
    go_ret
    exact ⟨by simp, (Grown.refl _).alloc _ _⟩
  · have F : Hid (pastB a0 a1 a2 = decide (a0 < a1 - a2)) := by show _ = _; simp [pastB, c3, c4]
    go_enter Yba.func3, Yba.ntmps3
    go_wp2_with (first | (go_at_call 5; refine (past_any a0 a1 a2 q0 q1 q2 c1' _ _ (by simp [go_sem])).mono ?_; rw [F.out]; rintro e w' ⟨rfl, rfl⟩) | (go_at_call 6; refine (ahead_any a1 a2 q1 q2 c1' _).mono ?_; rintro e w' ⟨rfl, rfl⟩) | go_in)
    go_ret
    exact ⟨by simp, (Grown.refl _).alloc _ _⟩

/-! ### THE ROW's STEP: WRITTEN OUT: LEAVE IT -/
set_option maxRecDepth 100000 in
theorem lifted (os : Os) (started : os.Started) (H : Type) (enc : TypeId × Value → H) :
    ReturnsInHanded {} Yba.checked os 3 .any (Rows.lawS7538AWholeSpec.pre6 enc Yba.prog Yba.f3 Rows.lawS7538AWholeRow.domain false) (Rows.lawS7538AWholeSpec.post enc Yba.prog Yba.f3 false true false false) := by
  refine returnsInHanded_of_change (C := Yba.checked) own started (by kernel_rfl) Yba.func3
    (ChangeSpec.witness6 (enc := enc) (C := Yba.checked) false ⟨#[], #[.int .i64 0, .int .i64 0, .int .i64 0], []⟩ 8 (by kernel_rfl) (by kernel_rfl) (by kernel_rfl) (by kernel_rfl)) ?_
  intro W base args ds gs before hval0 hW hcnd _
  have hval : ∀ (j : Nat) t v, Yba.f3.params[j]? = some t → args[j]? = some v → Value.okWide Yba.prog W .any base t v := hval0
  have hW' := hW
  obtain ⟨p, q, hA0, hV, rfl, hfz, hnd⟩ := hW
  have hA : DataW.TrodAll enc Yba.prog W 0 (fun _ => true) true Yba.f3.params.toList args.toList ds p := hA0
  rw [Yba.params3] at hA hval
  obtain ⟨v0, vs0, d0, ds0, p0, q0, hargs, rfl, rfl, h0, r0⟩ := trodAll_cons hA
  obtain ⟨v1, vs1, d1, ds1, p1, q1, rfl, rfl, rfl, h1, r1⟩ := trodAll_cons r0
  obtain ⟨v2, vs2, d2, ds2, p2, q2, rfl, rfl, rfl, h2, r2⟩ := trodAll_cons r1
  obtain ⟨rfl, rfl, rfl⟩ := trodAll_nil r2
  obtain rfl : args = #[v0, v1, v2] := by cases args; simp_all
  obtain ⟨rfl, rfl⟩ := trodVars_none hV
  obtain ⟨a0, rfl, rfl, rfl, w0⟩ := open_int Yba.underlying2 (hval 0 2 v0 rfl rfl) h0
  obtain ⟨a1, rfl, rfl, rfl, w1⟩ := open_int Yba.underlying2 (hval 1 2 v1 rfl rfl) h1
  obtain ⟨a2, rfl, rfl, rfl, w2⟩ := open_int Yba.underlying2 (hval 2 2 v2 rfl rfl) h2
  clear hA0 hval0
  simp only [List.append_nil] at hW'
  refine (walk a0 a1 a2 w0 w1 w2 W).mono fun e W' ⟨he, hg⟩ => ?_
  subst he
  exact ⟨_, rfl, post_of_same (pa := []) (pv := []) hW' (fun _ _ _ => (trodAll_cons_mk (shut_bool Yba.underlying4 _) trodAll_mk0)) (fun sp _ => (trodAll_cons_mk (shut_int Yba.underlying2 w0) (trodAll_cons_mk (shut_int Yba.underlying2 w1) (trodAll_cons_mk (shut_int Yba.underlying2 w2) trodAll_mk0)))) (fun _ _ => rfl) rfl
    (hg.frame _) hg.2.1 (ok_one (by kernel_rfl) rfl (okWide_bool_mk Yba.underlying4 _))⟩

theorem over : Rows.lawS7538AWholeRow.holds Yba.pinned (OpenSpec.ofChange Rows.lawS7538AWholeSpec) :=
  OpenClaim.holds_of_wide 3 Yba.f3 rfl rfl rfl rfl rfl rfl rfl ⟨rfl, rfl, rfl, rfl, rfl⟩ rfl rfl rfl rfl rfl (by kernel_rfl) Yba.func3 (by kernel_rfl)
    (of_decide_eq_true (by kernel_rfl)) (by unfold Func.isWrapper; first | (rw [if_pos (by decide +kernel)]; kernel_rfl) | (rw [if_neg (by decide +kernel)]; exact ⟨rfl, rfl⟩))
    (fun os started H enc _ => lifted os started H enc)

/-- ████ THE STATEMENT ████ -/
theorem proved : Rows.LawS7538AWholeSaid :=
  over
end Go.Proofs.Ybulkezby.lawS7538AWhole
