/-
  The lookups in a zero daybook.Day.
-/
import Derived.Test.YbulkcpncRows
import Derived.WalkKit
import Derived.WalkSpells
import Derived.WalkLawsBesides
import Derived.BigQuiet
import Derived.Deep.OwnRows
import Derived.Deep.RegionHeld3
import Derived.Laws.Rows
import Derived.Laws.Tables
import Derived.Laws.CopyOwn
import Derived.ArgAppend
namespace Go.Proofs.Ybulkcpnc
open Go.RowKit Go.Deep
set_option linter.unusedVariables false

theorem look32 (x : ByteArray) (w : World) : (Instr.lookup 32 (.map none) (.string x) false).run Yba.prog w = .ok .nilIface w := by kernel_rfl
theorem look36 (x y : ByteArray) (w : World) : (Instr.lookup 36 (.map none) (.agg #[.string x, .string y]) false).run Yba.prog w = .ok (.bool false) w := by kernel_rfl
theorem look34 (x : ByteArray) (w : World) : (Instr.lookup 34 (.map none) (.string x) false).run Yba.prog w = .ok (.bool false) w := by kernel_rfl
def secZ : Array Value := #[.string ⟨#[]⟩, .slice none 0 0, .string ⟨#[]⟩, .string ⟨#[]⟩, .string ⟨#[]⟩, .string ⟨#[]⟩, .string ⟨#[]⟩, .string ⟨#[]⟩, .string ⟨#[]⟩, .bool false, .map none, .int .u64 0, .int .i64 0, .pointer none, .pointer none, .int .u64 0, .int .i64 0, .pointer none, .int .u64 0, .int .i64 0, .pointer none, .string ⟨#[]⟩, .pointer none]
theorem look31 (x : ByteArray) (w : World) : (Instr.lookup 31 (.map none) (.string x) false).run Yba.prog w = .ok (.agg secZ) w := by kernel_rfl

section
variable (d : Nat) (x y : ByteArray) (w : World)
set_option maxRecDepth 100000 in
theorem cp_any (h1 : w.cell? ⟨d, 10, none⟩ = some (.map none)) (h2 : w.cell? ⟨d, 14, none⟩ = some (.map none)) :
    Calls Yba.prog 5 #[.pointer (some ⟨d, 0, none⟩), .string x, .string y] w fun e w' => e = .returned (.tuple #[.bool false, .nilIface]) ∧ w' = w := by
  have k1 := look32
  have k2 := look36
  go_enter Yba.func5, Yba.ntmps5
  go_wp2
  go_ret2
  exact ⟨rfl, rfl⟩
set_option maxRecDepth 100000 in
theorem related_any (h1 : w.cell? ⟨d, 10, none⟩ = some (.map none)) (h2 : w.cell? ⟨d, 15, none⟩ = some (.map none)) :
    Calls Yba.prog 6 #[.pointer (some ⟨d, 0, none⟩), .string x] w fun e w' => e = .returned (.tuple #[.bool false, .nilIface]) ∧ w' = w := by
  have k1 := look32
  have k2 := look34
  go_enter Yba.func6, Yba.ntmps6
  go_wp2
  go_ret2
  exact ⟨rfl, rfl⟩
set_option maxRecDepth 100000 in
theorem consented_any (h1 : w.cell? ⟨d, 10, none⟩ = some (.map none)) (h2 : w.cell? ⟨d, 16, none⟩ = some (.map none)) :
    Calls Yba.prog 8 #[.pointer (some ⟨d, 0, none⟩), .string x, .string y] w fun e w' => e = .returned (.tuple #[.bool false, .nilIface]) ∧ w' = w := by
  have k1 := look32
  have k2 := look36
  go_enter Yba.func8, Yba.ntmps8
  go_wp2
  go_ret2
  exact ⟨rfl, rfl⟩
theorem secZ_one : secZ.all (·.oneCell') = true := by unfold secZ; simp [Value.oneCell']
theorem size62 : (Yba.prog.info? 62).map (·.size) = some 23 := by kernel_rfl
set_option maxRecDepth 100000 in
theorem security_any (h1 : w.cell? ⟨d, 7, none⟩ = some (.map none)) :
    Calls Yba.prog 7 #[.pointer (some ⟨d, 0, none⟩), .string x] w fun e w' => e = .returned (.agg secZ) ∧ Below w.heap.size w w' := by
  have k1 := look31
  have hd : d < w.heap.size := World.block_lt_of_cell? w _ h1
  go_enter Yba.func7, Yba.ntmps7
  go_wp2_with (refine wpList_store_row rfl 62 (.tmp 4) (.tmp 10) rfl w.heap.size secZ rfl rfl 62 secZ (heap_alloc_new _ _) size62 rfl secZ_one ?_)
  refine bodyPost_ret (results_cell_row rfl _ _ w.heap.size 62 secZ (0, 0) _ rfl (setRow_heap _ _ _ _ _ _ (heap_alloc_new _ _)) Yba.underlying62 rfl size62) rfl ⟨rfl, ?_⟩
  exact below_setRow ((Below.refl _ _).alloc (Nat.le_refl _) _) (Nat.le_refl _) _
end
end Go.Proofs.Ybulkcpnc
