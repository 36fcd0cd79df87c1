/-
  The walk of LawS4565CParties.
-/
import Derived.Test.YbulkcpncParties
import Derived.Lib.SliceRun
namespace Go.Proofs.Ybulkcpnc
open Go.RowKit Go.Deep
set_option linter.unusedVariables false

set_option maxRecDepth 100000 in
set_option maxHeartbeats 1600000 in
theorem law_any (m : Nat) (a1 a2 a3 a4 : ByteArray) (w : World) (hm : m ≤ 255) :
    Calls Yba.prog 3 #[.int .u8 m, .string a1, .string a2, .string a3, .string a4] w fun e w' => e = .returned (.bool true) ∧ Below w.heap.size w w' := by
  obtain ⟨q, r, hr, rfl⟩ : ∃ q r, r < 4 ∧ m = 4 * q + r := ⟨m / 4, m % 4, Nat.mod_lt _ (by decide), by omega⟩
  have k1 := fun (wx : World) (a : Option Addr) (n c : Nat) => Lib.run_eql_slice_nil (P := Yba.prog) wx 49 9 a n c 0 0 Yba.underlying49
  rcases r with _ | _ | _ | _ | r
  case' zero =>
    go_enter Yba.func3, Yba.ntmps3
    go_wp2_with fail
    generalize (⟨#[112, 97, 121, 109, 101, 110, 116]⟩ : ByteArray) = kk
  case' succ.zero =>
    go_enter Yba.func3, Yba.ntmps3
    go_wp2_with fail
    generalize (⟨#[98, 117, 121]⟩ : ByteArray) = kk
  case' succ.succ.zero =>
    go_enter Yba.func3, Yba.ntmps3
    go_wp2_with fail
    generalize (⟨#[115, 101, 108, 108]⟩ : ByteArray) = kk
  case' succ.succ.succ.zero =>
    go_enter Yba.func3, Yba.ntmps3
    go_wp2_with fail
    generalize a1 = kk
  case succ.succ.succ.succ => omega
  all_goals
    refine (parties_any w _ (w.heap.size + 1) (w.heap.size + 1 + 1) a2 kk a4 a3 ?env).mono ?_
    case env =>
      refine ⟨by simp [go_sem], by simp [go_sem], by simp [go_sem], by simp [go_sem], by simp [go_sem], by simp [go_sem], ?_⟩
      exact ((((Below.refl _ _).alloc (Nat.le_refl _) _).alloc (by simp) _).alloc (by simp; omega) _).alloc (by simp; omega) _
    rintro e w5 ⟨v, rfl, hA, hE⟩
    have hbel := hE.bel
    clear hE
    cases hp : (kk.toList == [112, 97, 121, 109, 101, 110, 116])
    · cases hc : a3.toList.isEmpty
      · rcases hA with ⟨h | h, _⟩ | ⟨_, _, g, c, rfl, hcell⟩
        · rw [hp] at h; cases h
        · rw [hc] at h; cases h
        · unfold notL at hcell
          go_wp2
          go_ret
          exact ⟨rfl, hbel⟩
      · rcases hA with ⟨_, rfl⟩ | ⟨_, h, _⟩
        · go_wp2
          go_ret
          exact ⟨rfl, hbel⟩
        · rw [hc] at h; cases h
    · rcases hA with ⟨_, rfl⟩ | ⟨h, _⟩
      · go_wp2
        go_ret
        exact ⟨rfl, hbel⟩
      · rw [hp] at h; cases h
end Go.Proofs.Ybulkcpnc
