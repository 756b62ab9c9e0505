/-
  THE LAW's LONG WAY: a committee of at most 2^20 members.
-/
import Derived.Test.YbulkezlcLast
import Derived.Lib.Builder
namespace Go.Proofs.Ybulkezlc
open Go.RowKit

theorem fin_of {n : Nat} {w wr : World} {S : Nat → ByteArray} {T : Nat → Int} (h : Ms w.heap.size n w S T wr) (X : Obj) :
    Fin n w S T ((wr.alloc (.cells #[.slice (some ⟨w.heap.size, 0, none⟩) n n, .slice (some ⟨w.heap.size + 1, 0, none⟩) n n] 45)).alloc X) := by
  have hs := h.size
  refine ⟨(h.below.alloc (by omega) _).alloc (by simp; omega) _, (h.ms.alloc _).alloc _, ?_⟩
  rw [World.cell?_alloc_lt _ _ _ (by simp; omega), World.cell?_alloc_at _ _ _ _ hs.symm]
  rfl

set_option maxHeartbeats 1600000 in
set_option maxRecDepth 100000 in
theorem law_some (lb r : Int) (a : Option Addr) (n c : Nat) (S : Nat → ByteArray) (T : Nat → Int) (w : World) (hn : n ≤ 1048576) (hlb : 0 ≤ lb ∧ lb ≤ 18446744073709551615) (hr : 0 ≤ r ∧ r ≤ 18446744073709551615) (hm : Rm w a n S T) :
    Calls Yba.prog 5 #[.int .u64 lb, .int .u64 r, .bool true, .slice a n c] w fun e w' => e = .returned (.bool true) ∧ Below w.heap.size w w' := by
  obtain ⟨w1, hcp, hA, hB, hS⟩ := copy_members a n c S T w hm
  have hmk : ∀ w : World, (Instr.makeSlice 39 (.int .i64 (n : Int)) (.int .i64 (n : Int))).run Yba.prog w = .ok (.slice (some ⟨w.heap.size, 0, none⟩) n n) (w.alloc (.cells (madeCells #[.string ByteArray.empty, .int .u64 0] (n * 2)) 43)) := by
    intro w
    obtain ⟨i0, hi, hz0, hz1, hz2⟩ := info_parts Yba.info43
    have := run_make (P := Yba.prog) w 39 43 i0 (.agg #[.string ByteArray.empty, .int .u64 0]) Yba.underlying39 hi hz0 .i64 .i64 n n (by omega) (Int.le_refl _) (by rw [hz2]; omega) (by omega)
    simp only [hz1, Int.toNat_natCast] at this
    exact this
  have hmk2 := run_make_row' (P := Yba.prog) 41 27 (.int .u64 0) 8 Yba.underlying41 Yba.info27 rfl .i64 .i64 n (by omega) (by omega)
  have hpn : ∀ (b : Addr) (w : World), (binOp .neq 40 (.pointer (some b)) (.pointer (some b))).run Yba.prog w = .ok (.bool false) w := by
    intro b w
    cases hq : Yba.prog.info? 45 with
    | none => exact absurd (show (Yba.prog.info? 45).isSome = true by kernel_rfl) (by rw [hq]; simp)
    | some j => exact Lib.run_neq_ptr_same w b Yba.underlying40 hq
  have HM := hide hm
  clear hm
  go_enter Yba.func5, Yba.ntmps5
  go_wp2
  go_loopg [12, 13] n (fun g s12 s13 w2 => ∃ (k : Nat) (t : Int), k + g = n ∧ s12 = .int .u64 t ∧ s13 = .int .i64 k ∧ (0 ≤ t ∧ t ≤ 18446744073709551615) ∧ Ms w.heap.size n w S T w2)
  case atStart => exact ⟨0, 0, by omega, rfl, rfl, by omega, Ms.start hB hS hA⟩
  case round =>
    clear hA hB hS hcp hmk hmk2
    obtain ⟨k, t, hk, rfl, rfl, ht, hms⟩ := hrel
    by_cases hlt : k < n
    · have hs1 := mem_stake hms.ms hlt
      have hb1 : 0 ≤ T k ∧ T k ≤ 18446744073709551615 := by obtain ⟨_, _, _, hc⟩ := HM.out.resolve_left (by omega); exact (hc k hlt).2.2
      obtain ⟨f, hf⟩ := hms.ends
      have he1 := hf.cell hlt
      have he2 := hf.frozen k
      clear hf
      go_wp2
      go_roundg (gk - 1)
      case measure => omega
      case rel => exact ⟨k + 1, _, by omega, rfl, by go_num, by rw [IntKind.wrap_u64]; omega, hms.step k _⟩
    · have hsz := hms.size
      have HF := hide (fin_of hms (.cells #[.int .u64 lb, .pointer (some ⟨w.heap.size + 2, 0, none⟩)] 48))
      have hg0 : ((wr.alloc (.cells #[.slice (some ⟨w.heap.size, 0, none⟩) n n, .slice (some ⟨w.heap.size + 1, 0, none⟩) n n] 45)).alloc (.cells #[.int .u64 lb, .pointer (some ⟨w.heap.size + 2, 0, none⟩)] 48)).cell? ⟨w.heap.size + 2 + 1, 0, none⟩ = some (.int .u64 lb) := (World.cell?_alloc_at _ _ _ _ (by simp [hsz])).trans rfl
      have hg1 : ((wr.alloc (.cells #[.slice (some ⟨w.heap.size, 0, none⟩) n n, .slice (some ⟨w.heap.size + 1, 0, none⟩) n n] 45)).alloc (.cells #[.int .u64 lb, .pointer (some ⟨w.heap.size + 2, 0, none⟩)] 48)).cell? ⟨w.heap.size + 2 + 1, 1, none⟩ = some (.pointer (some ⟨w.heap.size + 2, 0, none⟩)) := (World.cell?_alloc_at _ _ _ _ (by simp [hsz])).trans rfl
      by_cases hy : 1 ≤ r ∧ r ≤ lb
      · obtain ⟨h1, h2⟩ := hy
        go_upto_if 92 with (go_at_call 7; refine (at_yes _ lb r (some ⟨w.heap.size + 2, 0, none⟩) _ h1 h2 hg0 hg1).mono ?_; rintro e w' ⟨rfl, rfl⟩)
        rename_i hK
        go_cut [9] from 79 to 92 (fun s9 w2 => s9 = .pointer (some ⟨w.heap.size + 2, 0, none⟩) ∧ Fin n w S T w2)
        case first =>
          go_wp2
          go_meet
          case rel => exact ⟨rfl, HF.out⟩
        case rest =>
          obtain ⟨rfl, hf⟩ := hcut
          refine hK _ _ ?_
          exact part_two _ _ _ _ _ _ _ _ _ _ _ _ _ _ _ _ _ _ _ _ _ _ _ _ _ _ _ _ _ _ _ _ _ _ _ _ _ _ _ _ _ _ _ _ _ _ _ _ _ _ _ _ _ _ _ _ _ _ _ _ _ _ _ _ _ _ _ _ _ _ _ _ _ _ _ _ _ _ _ _ _ _ _ _ _ _ _ _ _ _ _ _ _ _ _ _ _ _ _ _ _ _ _ _ _ _ _ _ _ _ _ _ _ _ _ _ _ _ _ a n c S T w _ hn HM.out hf
      · by_cases h0 : r = 0
        · subst h0
          clear hy
          go_upto_if 92 with (go_at_call 7; refine (at_no _ lb 0 _ (Or.inl rfl) hg0).mono ?_; rintro e w' ⟨rfl, rfl⟩)
          rename_i hK
          go_cut [9] from 79 to 92 (fun s9 w2 => s9 = .pointer (some ⟨w.heap.size + 2, 0, none⟩) ∧ Fin n w S T w2)
          case first =>
            go_wp2
            go_meet
            case rel => exact ⟨rfl, HF.out⟩
          case rest =>
            obtain ⟨rfl, hf⟩ := hcut
            refine hK _ _ ?_
            exact part_two _ _ _ _ _ _ _ _ _ _ _ _ _ _ _ _ _ _ _ _ _ _ _ _ _ _ _ _ _ _ _ _ _ _ _ _ _ _ _ _ _ _ _ _ _ _ _ _ _ _ _ _ _ _ _ _ _ _ _ _ _ _ _ _ _ _ _ _ _ _ _ _ _ _ _ _ _ _ _ _ _ _ _ _ _ _ _ _ _ _ _ _ _ _ _ _ _ _ _ _ _ _ _ _ _ _ _ _ _ _ _ _ _ _ _ _ _ _ _ a n c S T w _ hn HM.out hf
        · have h1 : lb < r := by omega
          have h2 : 1 ≤ r := by omega
          clear hy h0
          go_upto_if 92 with (go_at_call 7; refine (at_no _ lb r _ (Or.inr h1) hg0).mono ?_; rintro e w' ⟨rfl, rfl⟩)
          rename_i hK
          go_cut [9] from 79 to 92 (fun s9 w2 => s9 = .pointer (some ⟨w.heap.size + 2, 0, none⟩) ∧ Fin n w S T w2)
          case first =>
            go_wp2
            go_meet
            case rel => exact ⟨rfl, HF.out⟩
          case rest =>
            obtain ⟨rfl, hf⟩ := hcut
            refine hK _ _ ?_
            exact part_two _ _ _ _ _ _ _ _ _ _ _ _ _ _ _ _ _ _ _ _ _ _ _ _ _ _ _ _ _ _ _ _ _ _ _ _ _ _ _ _ _ _ _ _ _ _ _ _ _ _ _ _ _ _ _ _ _ _ _ _ _ _ _ _ _ _ _ _ _ _ _ _ _ _ _ _ _ _ _ _ _ _ _ _ _ _ _ _ _ _ _ _ _ _ _ _ _ _ _ _ _ _ _ _ _ _ _ _ _ _ _ _ _ _ _ _ _ _ _ a n c S T w _ hn HM.out hf
end Go.Proofs.Ybulkezlc
