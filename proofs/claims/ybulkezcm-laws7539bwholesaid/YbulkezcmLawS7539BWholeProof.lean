/-
  PROOF OF 'Rows.LawS7539BWholeSaid'. The frame (the row's step) is the given shell's. By an AI agent of seat b7539a.
-/
import Derived.Test.YbulkezcmRows
import Derived.Test.YbulkezcmUpdate
import Derived.Deep.QuietTactic
import Derived.BigQuiet
import Derived.WalkKit
import Derived.ProofKit
import Derived.OpenShut
import Derived.ShutString
namespace Go.Proofs.Ybulkezcm.lawS7539BWhole
open Go.ChangeShapes Go.WideShapes Go.ChangeAt Go.RowKit
open Go.ChangeMaps (open_string shut_string)
set_option linter.unusedVariables false      -- a walk need not use every 'w<i>' (that an integer argument fits its kind)

theorem own : ownKnob Yba.prog.godebug = none := by kernel_rfl

/-! ### THE WORLD IN WHICH update IS CALLED: five new blocks -/
def start (cs : Array Value) (a2 : ByteArray) (w : World) : World :=
  (((((w.alloc (Obj.cells #[Value.string a2] 9)).alloc (Obj.cells cs 53)).alloc
            (Obj.cells #[Value.pointer (some { block := w.heap.size + 1, off := 0 })] 22)).alloc
        (Obj.cells #[Value.int IntKind.i64 0] 3)).alloc
    (Obj.cells #[Value.bool true] 4))
theorem zc62 : Yba.zeroCells53[62]? = some (.int .i32 0) := by kernel_rfl
/-- What is read of it. -/
structure Facts (a0 : Bool) (x y : ByteArray) (k : Int) (N : Nat) (w : World) : Prop where
  nn : w.cell? ⟨N, 0, none⟩ = some (.string y)
  lock : w.cell? ⟨N + 1, 62, none⟩ = some (.int .i32 0)
  name : w.cell? ⟨N + 1, 64, none⟩ = some (.string x)
  ended : w.cell? ⟨N + 1, 71, none⟩ = some (.bool a0)
  s : w.cell? ⟨N + 2, 0, none⟩ = some (.pointer (some ⟨N + 1, 0, none⟩))
  calls : w.cell? ⟨N + 3, 0, none⟩ = some (.int .i64 k)
  held : w.cell? ⟨N + 4, 0, none⟩ = some (.bool true)
  flock : w.frozen? ⟨N + 1, 62, none⟩ = false
  fname : w.frozen? ⟨N + 1, 64, none⟩ = false
  fcalls : w.frozen? ⟨N + 3, 0, none⟩ = false
theorem start_facts (a0 : Bool) (a1 a2 : ByteArray) (w : World) : Facts a0 a1 a2 0 w.heap.size (start ((Yba.zeroCells53.setIfInBounds 64 (Value.string a1)).setIfInBounds 71 (Value.bool a0)) a2 w) := by
  unfold start
  refine ⟨?_, ?_, ?_, ?_, ?_, ?_, ?_, ?_, ?_, ?_⟩
  case refine_2 => simp [go_sem]; exact (Array.getElem?_eq_some_iff.1 zc62).2
  all_goals simp [go_sem]
theorem start_grown (cs : Array Value) (a2 : ByteArray) (w : World) : Grown w (start cs a2 w) :=
  (((((Grown.refl w).alloc _ _).alloc _ _).alloc _ _).alloc _ _).alloc _ _

/-! ### update, in that world -/
theorem upd_ended (a1 a2 : ByteArray) (fv : Value) (N : Nat) (w0 w : World) (hN : w0.heap.size ≤ N) (hg : Grown w0 w) (h : Facts true a1 a2 0 N w) :
    Calls Yba.prog 4 #[.pointer (some ⟨N + 1, 0, none⟩), fv] w fun e w' => e = .returned (.tuple #[]) ∧ Grown w0 w' ∧ Facts true a1 a2 0 N w' := by
  refine (update_ended (N + 1) fv w h.lock h.ended h.flock).mono ?_
  rintro e w' ⟨rfl, rfl⟩
  refine ⟨rfl, (hg.setCell (by simp; omega) _).setCell (by simp; omega) _, ?_⟩
  obtain ⟨h1, h2, h3, h4, h5, h6, h7, h8, h9, h10⟩ := h
  constructor <;> simp [go_sem, *]
theorem upd_open (a1 a2 : ByteArray) (N : Nat) (w0 w : World) (hN : w0.heap.size ≤ N) (hg : Grown w0 w) (h : Facts false a1 a2 0 N w) :
    Calls Yba.prog 4 #[.pointer (some ⟨N + 1, 0, none⟩), .func (.func 5) #[] #[.pointer (some ⟨N + 3, 0, none⟩), .pointer (some ⟨N + 2, 0, none⟩), .pointer (some ⟨N + 4, 0, none⟩), .pointer (some ⟨N, 0, none⟩)]] w fun e w' =>
      e = .returned (.tuple #[]) ∧ Grown w0 w' ∧ Facts false a2 a2 1 N w' := by
  refine (update_open N a1 a2 w h.calls h.s h.nn h.lock h.name h.ended h.fcalls h.fname h.flock).mono ?_
  rintro e w' ⟨rfl, rfl⟩
  refine ⟨rfl, (((hg.setCell (by simp; omega) _).setCell (by simp; omega) _).setCell (by simp; omega) _).setCell (by simp; omega) _, ?_⟩
  obtain ⟨h1, h2, h3, h4, h5, h6, h7, h8, h9, h10⟩ := h
  constructor <;> simp [go_sem, *]
/-! ### STEP 1: THE WALK: the Go text returns true. 'Grown w w'': the world has at most new blocks (Derived/RowKit3.lean). Part the cases AHEAD of 'go_enter' where a test parts the walk; take each callee by a contract of your own. -/
theorem walk (a0 : Bool) (a1 : ByteArray) (a2 : ByteArray) (w1 : a1.size ≤ maxLen) (w2 : a2.size ≤ maxLen) (w : World) :
    Calls Yba.prog 3 #[.bool a0, .string a1, .string a2] w fun e w' => e = .returned (.bool true) ∧ Grown w w' := by
  have hmf : ∀ (fn : Fn) (first cap : Array Value) (w : World), (Instr.makeFunc fn first cap).run Yba.prog w = .ok (.func fn first cap) w := fun _ _ _ _ => rfl
  cases a0
  · go_enter Yba.func3, Yba.ntmps3
    go_wp2_with fail
    refine (upd_open a1 a2 w.heap.size w _ (Nat.le_refl _) (start_grown _ a2 w) (start_facts false a1 a2 w)).mono ?_
    rintro e w' ⟨rfl, hg, h⟩
    obtain ⟨h1, h2, h3, h4, h5, h6, h7, h8, h9, h10⟩ := h
    go_wp2_with fail
    refine (try_free ⟨w.heap.size + 1, 62, none⟩ w' h2 h8).mono ?_
    rintro e w'' ⟨rfl, rfl⟩
    go_wp2_with fail
    refine (MuLone.unlock_held Yba.muLib ⟨w.heap.size + 1, 62, none⟩ _ (by simp [go_sem, h2]) (by simp [go_sem, h8])).mono ?_
    rintro e w'' ⟨rfl, rfl⟩
    go_wp2_with fail
    go_quiet (fail)
    go_wp2
    go_ret
    exact ⟨rfl, (hg.setCell (by simp) _).setCell (by simp) _⟩
  · go_enter Yba.func3, Yba.ntmps3
    go_wp2_with fail
    refine (upd_ended a1 a2 _ w.heap.size w _ (Nat.le_refl _) (start_grown _ a2 w) (start_facts true a1 a2 w)).mono ?_
    rintro e w' ⟨rfl, hg, h⟩
    obtain ⟨h1, h2, h3, h4, h5, h6, h7, h8, h9, h10⟩ := h
    go_wp2_with fail
    refine (try_free ⟨w.heap.size + 1, 62, none⟩ w' h2 h8).mono ?_
    rintro e w'' ⟨rfl, rfl⟩
    go_wp2_with fail
    refine (MuLone.unlock_held Yba.muLib ⟨w.heap.size + 1, 62, none⟩ _ (by simp [go_sem, h2]) (by simp [go_sem, h8])).mono ?_
    rintro e w'' ⟨rfl, rfl⟩
    go_wp2
    go_ret
    exact ⟨rfl, (hg.setCell (by simp) _).setCell (by simp) _⟩

/-! ### THE ROW's STEP: WRITTEN OUT: LEAVE IT -/
set_option maxRecDepth 100000 in
theorem lifted (os : Os) (started : os.Started) (H : Type) (enc : TypeId × Value → H) :
    ReturnsInHanded {} Yba.checked os 3 .any (Rows.lawS7539BWholeSpec.pre6 enc Yba.prog Yba.f3 Rows.lawS7539BWholeRow.domain false) (Rows.lawS7539BWholeSpec.post enc Yba.prog Yba.f3 false true false false) := by
  refine returnsInHanded_of_change (C := Yba.checked) own started (by kernel_rfl) Yba.func3
    (ChangeSpec.witness6 (enc := enc) (C := Yba.checked) false ⟨#[], #[.bool false, .string ByteArray.empty, .string ByteArray.empty], []⟩ 8 (by kernel_rfl) (by kernel_rfl) (by kernel_rfl) (by kernel_rfl)) ?_
  intro W base args ds gs before hval0 hW hcnd _
  have hval : ∀ (j : Nat) t v, Yba.f3.params[j]? = some t → args[j]? = some v → Value.okWide Yba.prog W .any base t v := hval0
  have hW' := hW
  obtain ⟨p, q, hA0, hV, rfl, hfz, hnd⟩ := hW
  have hA : DataW.TrodAll enc Yba.prog W 0 (fun _ => true) true Yba.f3.params.toList args.toList ds p := hA0
  rw [Yba.params3] at hA hval
  obtain ⟨v0, vs0, d0, ds0, p0, q0, hargs, rfl, rfl, h0, r0⟩ := trodAll_cons hA
  obtain ⟨v1, vs1, d1, ds1, p1, q1, rfl, rfl, rfl, h1, r1⟩ := trodAll_cons r0
  obtain ⟨v2, vs2, d2, ds2, p2, q2, rfl, rfl, rfl, h2, r2⟩ := trodAll_cons r1
  obtain ⟨rfl, rfl, rfl⟩ := trodAll_nil r2
  obtain rfl : args = #[v0, v1, v2] := by cases args; simp_all
  obtain ⟨rfl, rfl⟩ := trodVars_none hV
  obtain ⟨a0, rfl, rfl, rfl⟩ := open_bool Yba.underlying4 (hval 0 4 v0 rfl rfl) h0
  obtain ⟨a1, rfl, rfl, rfl, w1⟩ := open_string Yba.underlying9 (hval 1 9 v1 rfl rfl) h1
  obtain ⟨a2, rfl, rfl, rfl, w2⟩ := open_string Yba.underlying9 (hval 2 9 v2 rfl rfl) h2
  clear hA0 hval0
  simp only [List.append_nil] at hW'
  refine (walk a0 a1 a2 w1 w2 W).mono fun e W' ⟨he, hg⟩ => ?_
  subst he
  exact ⟨_, rfl, post_of_same (pa := []) (pv := []) hW' (fun _ _ _ => (trodAll_cons_mk (shut_bool Yba.underlying4 _) trodAll_mk0)) (fun sp _ => (trodAll_cons_mk (shut_bool Yba.underlying4 _) (trodAll_cons_mk (shut_string Yba.underlying9 w1) (trodAll_cons_mk (shut_string Yba.underlying9 w2) trodAll_mk0)))) (fun _ _ => rfl) rfl
    (hg.frame _) hg.2.1 (ok_one (by kernel_rfl) rfl (okWide_bool_mk Yba.underlying4 _))⟩

theorem over : Rows.lawS7539BWholeRow.holds Yba.pinned (OpenSpec.ofChange Rows.lawS7539BWholeSpec) :=
  OpenClaim.holds_of_wide 3 Yba.f3 rfl rfl rfl rfl rfl rfl rfl ⟨rfl, rfl, rfl, rfl, rfl⟩ rfl rfl rfl rfl rfl (by kernel_rfl) Yba.func3 (by kernel_rfl)
    (of_decide_eq_true (by kernel_rfl)) (by unfold Func.isWrapper; first | (rw [if_pos (by decide +kernel)]; kernel_rfl) | (rw [if_neg (by decide +kernel)]; exact ⟨rfl, rfl⟩))
    (fun os started H enc _ => lifted os started H enc)

/-- ████ THE STATEMENT ████ -/
theorem proved : Rows.LawS7539BWholeSaid :=
  over
end Go.Proofs.Ybulkezcm.lawS7539BWhole
