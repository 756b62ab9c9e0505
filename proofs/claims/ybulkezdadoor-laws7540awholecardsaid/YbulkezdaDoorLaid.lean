/-
  WHAT THE ROW's 'laid' GIVES THE WALK: one cell of the library's table; and a world that meets it.
-/
import Derived.Test.YbulkezdaDoorRows
import Derived.ProofKit
import Derived.LaidMore
import Derived.OpenShut
import Derived.Stop.Joined
namespace Go.Proofs.YbulkezdaDoor
open Go.ChangeShapes Go.WideShapes Go.ChangeAt Go.WideMaps Go.WideElems Go.RowKit

theorem tTab : (Ybad.prog.globals[2]?).map (·.type) = some 107 := by kernel_rfl
theorem c5 : Ybad.prog.cellsOf 5 = 1 := by kernel_rfl
theorem datum15 {H : Type} : (match (Rows.laid_math_bits_deBruijn64tab : DataW H) with | .agg l => l[15]? | _ => none) = some (.lit (.int .u8 4)) := rfl

/-- The door's own heap meets the condition. -/
theorem door_met (os : Os) (args : Array Value) : laidMetH Ybad.prog Rows.lawS7540AWholeRow.laid ((World.doorLaid Ybad.prog 26 os).forCall (fun _ _ => 0) ⟨#[], args, []⟩).memory :=
  laidMetH_of_parts3 (fuel := 8) (laidMet_of_run' 8 (by kernel_rfl) (by kernel_rfl)) (by kernel_rfl) (by kernel_rfl)

set_option maxRecDepth 100000 in
theorem of_laid {W : World} (h : laidMetH Ybad.prog Rows.lawS7540AWholeRow.laid W) : W.cell? ⟨2, 15, none⟩ = some (.int .u8 4) := by
  rw [MakeChecks.laidMetH_plain _ _ _ (by kernel_rfl)] at h
  obtain ⟨ps, ⟨g0, t0, cs0, f0, p0, q0, hg0, ht0, hv0, hd0, ⟨g1, t1, cs1, f1, p1, q1, hg1, ht1, hv1, hd1, _, _⟩, _⟩, _, _⟩ := h
  obtain rfl := Option.some.inj ((show _ = some 2 from by kernel_rfl).symm.trans hg1)
  obtain rfl := Option.some.inj (tTab.symm.trans ht1)
  obtain ⟨xs, m1, rfl, hx1, hlen, hn, hel⟩ := DataW.trod_array Ybad.underlying107 hd1
  have h15 := hel 15 (by decide)
  have hd := datum15 (H := Unit)
  simp only [Prod.mk.injEq] at hx1
  rw [hx1.1] at hd
  simp only [List.getElem?_map, Option.map_eq_some_iff] at hd
  obtain ⟨y, hy, hy1⟩ := hd
  rw [hy, c5] at h15
  obtain ⟨k, e1, e2, _⟩ := DataW.trod_int Ybad.underlying5 h15
  rw [e2] at hy1
  have hk : k = 4 := by simpa using hy1
  subst hk
  have hc := World.var?_cell hg1 hv1 15
  rw [hc, ← Array.getElem?_toList]
  have e3 : (List.drop 15 cs1.toList)[0]? = some (.int .u8 4) := by
    have : (List.take 1 (List.drop (15 * 1) cs1.toList))[0]? = some (.int .u8 4) := by rw [e1]; rfl
    simpa using this
  simpa using e3
end Go.Proofs.YbulkezdaDoor
