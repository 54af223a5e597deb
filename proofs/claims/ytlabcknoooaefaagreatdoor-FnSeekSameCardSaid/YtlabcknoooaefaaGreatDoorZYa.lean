/-
  THE ROWS: what the listed variables give the walks.
-/
import Derived.Test.YtlabcknoooaefaaGreatDoorRows
import Derived.Test.YtlabcknoooaefaaGreatDoorZVa
import Derived.WalkKit
import Derived.ProofKit
import Derived.LaidMore
import Derived.OpenShut
import Derived.ShutString
import Derived.Stop.Joined
import Derived.ChangeOld
import Derived.ChangeVars
import Derived.OpenVars
import Derived.Lib.LaidTab
import Derived.Below
namespace Go.Proofs.YtlabcknoooaefaaGreatDoor
open Go.ChangeShapes Go.WideShapes Go.ChangeAt Go.RowKit
set_option linter.unusedVariables false

theorem ownK : ownKnob Tryz.prog.godebug = none := by kernel_rfl
theorem laidOutK : laidOutB Tryz.prog = true := by kernel_rfl
theorem gCh : Tryz.prog.globalNamed "loop.example/pub-g03441/pub/flac/frame.nChannels" = some 0 := by kernel_rfl

/-- The rows' listed variables. -/
def laid4 : List (String × DataW Unit) := [("io.ErrShortWrite", Rows.laid_io_ErrShortWrite), ("io.errInvalidWrite", Rows.laid_io_errInvalidWrite), ("io.EOF", Rows.laid_io_EOF), ("loop.example/pub-g03441/pub/flac/frame.nChannels", Rows.laid_loop_example_pub_g03441_pub_flac_frame_nChannels)]

theorem tCh : ∃ t n e, (Tryz.prog.globals[0]?).map (·.type) = some t ∧ Tryz.prog.underlying t = some (.array n e) ∧ Tryz.prog.underlying e = some (.int .i64) ∧ Tryz.prog.cellsOf e = 1 ∧ Tryz.prog.cellsOf t = n := ⟨193, 11, 3, by kernel_rfl, by kernel_rfl, by kernel_rfl, by kernel_rfl, by kernel_rfl⟩

/-- The door's own heap meets the condition. -/
theorem door_met (os : Os) (args : Array Value) : laidMetH Tryz.prog laid4 ((World.doorLaid Tryz.prog 1000 os).forCall (fun _ _ => 0) ⟨#[], args, []⟩).memory :=
  laidMetH_of_parts3 (fuel := 12) (laidMet_of_run' 12 (by kernel_rfl) (by kernel_rfl)) (by kernel_rfl) (by kernel_rfl)

/-- What the condition gives the walks: the table of channels. -/
theorem of_laid {W : World} (h : laidMetH Tryz.prog laid4 W) : NCh W ∧ 0 < W.heap.size := by
  rw [MakeChecks.laidMetH_plain _ _ _ (by kernel_rfl)] at h
  obtain ⟨ps, ⟨g0, t0, cs0, f0, p0, q0, hg0, ht0, hv0, hd0, ⟨g1, t1, cs1, f1, p1, q1, hg1, ht1, hv1, hd1, ⟨g2, t2, cs2, f2, p2, q2, hg2, ht2, hv2, hd2, ⟨g3, t3, cs3, f3, p3, q3, hg3, ht3, hv3, hd3, _, _⟩, _⟩, _⟩, _⟩, _, _⟩ := h
  obtain ⟨t, n, e, h1, h2, h3, h4, h5⟩ := tCh
  obtain rfl := Option.some.inj (gCh.symm.trans hg3)
  obtain rfl := Option.some.inj (h1.symm.trans ht3)
  have hc := Lib.cells_of_tab (k := .i64) (zs := [1, 2, 3, 4, 5, 6, 7, 8, 2, 2, 2]) h2 h3 h4 h5 hd3
  have cell : ∀ i : Nat, W.cell? ⟨0, i, none⟩ = cs3[i]? := fun i => World.var?_cell hg3 hv3 i
  have hcs : ∀ i : Nat, cs3[i]? = (([1, 2, 3, 4, 5, 6, 7, 8, 2, 2, 2] : List Int).map fun z => Value.int .i64 z)[i]? := fun i => by
    rw [← hc]
    simp
  refine ⟨fun i hi => ?_, ?_⟩
  · rw [cell, hcs]
    rcases i with _ | _ | _ | _ | _ | _ | _ | _ | i
    all_goals first | rfl | omega
  · have h0 : W.cell? ⟨0, 0, none⟩ = some (.int .i64 1) := by rw [cell, hcs]; rfl
    rcases Nat.eq_zero_or_pos W.heap.size with h | h
    · exfalso
      have e : W.heap[0]? = none := by simp [h]
      simp [World.cell?, e] at h0
    · exact h
end Go.Proofs.YtlabcknoooaefaaGreatDoor
