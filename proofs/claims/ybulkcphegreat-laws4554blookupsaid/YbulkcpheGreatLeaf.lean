/-
  The leaf walks of LawS4554BLookup.
-/
import Derived.Test.YbulkcpheGreatPlain
import Derived.Test.YbulkcpheGreatLocks
import Derived.Conc.MuLone
import Derived.WalkKit
import Derived.WalkSpells
import Derived.WalkLawsBesides
namespace Go.Proofs.YbulkcpheGreat
open Go.RowKit Go.MuLone

set_option maxHeartbeats 400000 in
theorem name_any (k : Int) (w : World) (h0 : 0 ≤ k) (h1 : k ≤ 255) :
    Calls Ybaz.prog 10 #[.int .u8 k] w fun e w' => e = .returned (.string (Lk.nameOf k)) ∧ w' = w := by
  rcases (show k % 4 = 0 ∨ k % 4 = 1 ∨ k % 4 = 2 ∨ k % 4 = 3 from by omega) with h | h | h | h
  · rw [Lk.name0 h]
    go_enter Ybaz.func10, Ybaz.ntmps10
    go_wp2
    go_ret
    exact ⟨rfl, rfl⟩
  · rw [Lk.name1 h]
    go_enter Ybaz.func10, Ybaz.ntmps10
    go_wp2
    go_ret
    exact ⟨rfl, rfl⟩
  · rw [Lk.name2 h]
    go_enter Ybaz.func10, Ybaz.ntmps10
    go_wp2
    go_ret
    exact ⟨rfl, rfl⟩
  · rw [Lk.name3 h]
    go_enter Ybaz.func10, Ybaz.ntmps10
    go_wp2
    go_ret
    exact ⟨rfl, rfl⟩

set_option maxHeartbeats 400000 in
theorem query_any (q : Int) (w : World) (h0 : 0 ≤ q) (h1 : q ≤ 255) :
    Calls Ybaz.prog 4 #[.int .u8 q] w fun e w' => e = .returned (.string (Lk.queryOf q)) ∧ w' = w := by
  by_cases h : q % 5 = 4
  · have e : Lk.queryOf q = ⟨#[122, 122]⟩ := by unfold Lk.queryOf; rw [if_pos h]
    rw [e]; clear e
    go_enter Ybaz.func4, Ybaz.ntmps4
    go_wp2
    go_ret
    exact ⟨rfl, rfl⟩
  · have e : Lk.queryOf q = Lk.nameOf (q % 5) := by unfold Lk.queryOf; rw [if_neg h]
    rw [e]; clear e
    have hb : (q % 5 == 4) = false := by simpa using h
    go_enter Ybaz.func4, Ybaz.ntmps4
    go_wp2_with (go_at_call 10; refine (name_any _ _ (by omega) (by omega)).mono ?_; rintro e w' ⟨rfl, rfl⟩)
    go_ret
    exact ⟨rfl, rfl⟩

/-- The conversion of a pointer to the lock for the race detector's mark: the same address. -/
theorem conv_open (a : Addr) (w : World) : (convert 83 87 (.pointer (some a))).run Ybaz.prog w = (do
    let s ← Conv.seenAt a
    let nothing := match ← cellsIn s.block with
      | some cells => s.off ≥ cells && s.spot.isNone
      | none => false
    if (← sizeOf 55) = 0 || nothing then pure (.pointer (some ⟨← newObj (.view s 55), 0, none⟩)) else
    pure (.pointer (some s)) : Sem Value).run Ybaz.prog w := by kernel_rfl
theorem conv_lock {a : Addr} {v : Value} {w : World} (hc : w.cell? a = some v) : (convert 83 87 (.pointer (some a))).run Ybaz.prog w = .ok (.pointer (some a)) w := by
  obtain ⟨e, n, hsh, hlt, hsp⟩ := World.shape?_of_cell? hc
  have hge : ¬ (n ≤ a.off) := by omega
  rw [conv_open]
  simp [Conv.seenAt, viewAt, cellsIn, Ybaz.sizeOf55, hsh, hge, Result.andThen]

set_option maxHeartbeats 1000000 in
set_option maxRecDepth 100000 in
/-- '(*sync.Mutex).TryLock' at a free lock: true, and the state word is 1. -/
theorem trylock_free (a : Addr) (w : World) (hc : w.cell? a = some (.int .i32 0)) (hz : w.frozen? a = false) :
    Calls Ybaz.prog 8 #[.pointer (some a)] w fun e w' => e = .returned (.bool true) ∧ w' = w.setCell a (.int .i32 1) := by
  have hd := disable muLib
  have he := enable muLib
  have hr := acquire muLib
  have hcv := conv_lock (w := w.setCell a (.int .i32 1)) (World.cell?_setCell_same w a (.int .i32 1) hc)
  have hcas := run_call_cas_hit (P := Ybaz.prog) Ybaz.func18 (by kernel_rfl) (by kernel_rfl) (by kernel_rfl) .i32 (by kernel_rfl) (x := 0) (y := 1) hc hz
  go_enter Ybaz.func8, Ybaz.ntmps8
  go_wp2
  go_ret
  exact ⟨rfl, rfl⟩
end Go.Proofs.YbulkcpheGreat
