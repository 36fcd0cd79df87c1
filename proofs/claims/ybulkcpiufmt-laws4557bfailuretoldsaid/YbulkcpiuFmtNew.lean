/-
  The walk of bufio.NewReader at the source.
-/
import Derived.Test.YbulkcpiuFmtDrain
namespace Go.Proofs.YbulkcpiuFmt
open Go.RowKit Go.Deep
set_option linter.unusedVariables false

theorem info5 : (Ybaf.prog.info? 5).map (fun i => (i.zero, i.size, i.bytes)) = some (some (.int .u8 0), 1, 1) := by kernel_rfl

/-- What NewReader leaves: blocks B + 1 and B + 2. -/
structure Fresh (w w' : World) (B : Nat) : Prop where
  rd : w'.rowIs (B + 1) 54 7 (rdF B 0 0 .nilIface (.int .i64 (-1)) (.int .i64 (-1)))
  buf : w'.rowIs (B + 2) 5 4096 (fun _ => .int .u8 0)
  bel : Below (B + 1) w w'
  size : w'.heap.size = B + 3

theorem not_bufio (a : Addr) (w : World) : (Instr.typeAssert (.iface 23 (.pointer (some a))) 41 29 true).run Ybaf.prog w = .ok (.tuple #[.pointer none, .bool false]) w := by kernel_rfl

set_option maxRecDepth 100000 in
theorem newSize_any (w : World) (B : Nat) (hB : w.heap.size = B + 1) :
    Calls Ybaf.prog 11 #[.iface 23 (.pointer (some ⟨B, 0, none⟩)), .int .i64 4096] w fun e w' => e = .returned (.pointer (some ⟨B + 1, 0, none⟩)) ∧ Fresh w w' B := by
  have hmk : ∀ w : World, (Instr.makeSlice 22 (.int .i64 4096) (.int .i64 4096)).run Ybaf.prog w = .ok (.slice (some ⟨w.heap.size, 0, none⟩) 4096 4096) (w.alloc (.cells (madeCells #[.int .u8 0] 4096) 5)) :=
    run_make_row' (P := Ybaf.prog) 22 5 (.int .u8 0) 1 Ybaf.underlying22 info5 rfl .i64 .i64 4096 (by omega) (by omega)
  have hta := not_bufio
  go_enter Ybaf.func11, Ybaf.ntmps11
  go_wp2
  go_end0
  simp only []
  go_at_K
  go_wp2
  go_ret
  refine ⟨rfl, ?_, ?_, ?_, ?_⟩
  · refine World.rowIs.alloc ?_ _
    have := World.rowIs_alloc w #[.slice (some ⟨B + 2, 0, none⟩) 4096 4096, .iface 23 (.pointer (some ⟨B, 0, none⟩)), .int .i64 0, .int .i64 0, .nilIface, .int .i64 (-1), .int .i64 (-1)] 54 (rdF B 0 0 .nilIface (.int .i64 (-1)) (.int .i64 (-1))) (fun i hi => by
      have hi : i < 7 := hi
      rcases i with _ | _ | _ | _ | _ | _ | _ | i <;> first | rfl | omega)
    rw [hB] at this
    exact this
  · have := World.rowIs_made (w.alloc (.cells #[.slice (some ⟨B + 2, 0, none⟩) 4096 4096, .iface 23 (.pointer (some ⟨B, 0, none⟩)), .int .i64 0, .int .i64 0, .nilIface, .int .i64 (-1), .int .i64 (-1)] 54)) (.int .u8 0) 4096 5
    rw [show (w.alloc (.cells #[.slice (some ⟨B + 2, 0, none⟩) 4096 4096, .iface 23 (.pointer (some ⟨B, 0, none⟩)), .int .i64 0, .int .i64 0, .nilIface, .int .i64 (-1), .int .i64 (-1)] 54)).heap.size = B + 2 by simp [hB]] at this
    exact this
  · exact ((Below.refl _ _).alloc (by omega) _).alloc (by simp [hB]) _
  · simp [hB]

theorem new_any (w : World) (B : Nat) (hB : w.heap.size = B + 1) :
    Calls Ybaf.prog 5 #[.iface 23 (.pointer (some ⟨B, 0, none⟩))] w fun e w' => e = .returned (.pointer (some ⟨B + 1, 0, none⟩)) ∧ Fresh w w' B := by
  go_enter Ybaf.func5, Ybaf.ntmps5
  go_wp2_with fail
  refine (newSize_any w B hB).mono ?_
  rintro e w5 ⟨rfl, h5⟩
  go_wp2
  go_ret
  exact ⟨rfl, h5⟩
end Go.Proofs.YbulkcpiuFmt
