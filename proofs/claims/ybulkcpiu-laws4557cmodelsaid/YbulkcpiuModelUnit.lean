/-
  The walks of unit and members on blocks that newBlocks made.
-/
import Derived.Test.YbulkcpiuModelNew
namespace Go.Proofs.Ybulkcpiu
open Go.RowKit Go.Deep
set_option linter.unusedVariables false

section
variable (P B1 B n m x : Nat) (w : World)
set_option maxRecDepth 100000 in
set_option maxHeartbeats 400000 in
theorem unit_neg (hx : x < n) (hn : n ≤ 256) (l : Int) (hl : l < 0) (c0 : w.cell? ⟨P, 0, none⟩ = some (.slice (some ⟨B1, 0, none⟩) n n)) (e0 : w.cell? ⟨B1, x, none⟩ = some (.int .i32 l)) :
    Calls Yba.prog 5 #[.pointer (some ⟨P, 0, none⟩), .int .i32 x] w fun e w' => e = .returned (.int .i32 x) ∧ ∃ q, w' = w.drewN q := by
  have hx' : (x : Int) < (n : Int) := by omega
  go_enter Yba.func5, Yba.ntmps5
  go_wp2
  go_ret
  exact ⟨rfl, 0, rfl⟩
set_option maxRecDepth 100000 in
set_option maxHeartbeats 400000 in
theorem members_neg (hx : x < n) (hn : n ≤ 256) (l : Int) (hl : l < 0) (c0 : w.cell? ⟨P, 0, none⟩ = some (.slice (some ⟨B1, 0, none⟩) n n)) (e0 : w.cell? ⟨B1, x, none⟩ = some (.int .i32 l)) :
    Calls Yba.prog 7 #[.pointer (some ⟨P, 0, none⟩), .int .i32 x] w fun e w' => e = .returned (.slice none 0 0) ∧ ∃ q, w' = w.drewN q := by
  have hx' : (x : Int) < (n : Int) := by omega
  go_enter Yba.func7, Yba.ntmps7
  go_wp2
  go_ret
  exact ⟨rfl, 0, rfl⟩
set_option maxRecDepth 100000 in
set_option maxHeartbeats 800000 in
theorem unit_pos (hx : x < n) (hn : n ≤ 256) (r l bb : Nat) (u : Int) (hr : r < m) (hm : m ≤ 256) (hl : 0 < l) (hl2 : l ≤ 256) (c0 : w.cell? ⟨P, 0, none⟩ = some (.slice (some ⟨B1, 0, none⟩) n n)) (c1 : w.cell? ⟨P, 1, none⟩ = some (.slice (some ⟨B, 0, none⟩) m m)) (e0 : w.cell? ⟨B1, x, none⟩ = some (.int .i32 r))
    (e1 : w.cell? ⟨B, r, none⟩ = some (.slice (some ⟨bb, 0, none⟩) l l)) (e2 : w.cell? ⟨bb, 0, none⟩ = some (.int .i32 u)) :
    Calls Yba.prog 5 #[.pointer (some ⟨P, 0, none⟩), .int .i32 x] w fun e w' => e = .returned (.int .i32 u) ∧ ∃ q, w' = w.drewN q := by
  have hx' : (x : Int) < (n : Int) := by omega
  have hr' : (r : Int) < (m : Int) := by omega
  have hl' : (0 : Int) < (l : Int) := by omega
  go_enter Yba.func5, Yba.ntmps5
  go_wp2
  go_quiet (fail)
  go_wp2
  go_ret
  exact ⟨rfl, nq, rfl⟩
set_option maxRecDepth 100000 in
set_option maxHeartbeats 800000 in
theorem members_pos (hx : x < n) (hn : n ≤ 256) (r l bb : Nat) (hr : r < m) (hm : m ≤ 256) (c0 : w.cell? ⟨P, 0, none⟩ = some (.slice (some ⟨B1, 0, none⟩) n n)) (c1 : w.cell? ⟨P, 1, none⟩ = some (.slice (some ⟨B, 0, none⟩) m m)) (e0 : w.cell? ⟨B1, x, none⟩ = some (.int .i32 r))
    (e1 : w.cell? ⟨B, r, none⟩ = some (.slice (some ⟨bb, 0, none⟩) l l)) :
    Calls Yba.prog 7 #[.pointer (some ⟨P, 0, none⟩), .int .i32 x] w fun e w' => e = .returned (.slice (some ⟨bb, 0, none⟩) l l) ∧ ∃ q, w' = w.drewN q := by
  have hx' : (x : Int) < (n : Int) := by omega
  have hr' : (r : Int) < (m : Int) := by omega
  go_enter Yba.func7, Yba.ntmps7
  go_wp2
  go_quiet (fail)
  go_wp2
  go_ret
  exact ⟨rfl, nq, rfl⟩
end
end Go.Proofs.Ybulkcpiu
