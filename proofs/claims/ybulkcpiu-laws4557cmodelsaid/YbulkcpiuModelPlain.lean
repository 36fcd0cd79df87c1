/-
  The plain side of LawS4557CModel. Nothing of the dump.
-/
import Derived.Below
namespace Go.Proofs.Ybulkcpiu.Md

/-- Does row r hold x among its first j elements? -/
def holdsTo (v : Nat → Nat → Int) (r j : Nat) (x : Int) : Bool := (List.range j).any fun i => v r i == x
/-- The last of the first r rows that holds x, -1 where none does. -/
def lastTo (L : Nat → Nat) (v : Nat → Nat → Int) : Nat → Int → Int
  | 0, _ => -1
  | r + 1, x => if holdsTo v r (L r) x then (r : Int) else lastTo L v r x
/-- .. and among the first j elements of row r. -/
def lastIn (L : Nat → Nat) (v : Nat → Nat → Int) (r j : Nat) (x : Int) : Int := if holdsTo v r j x then (r : Int) else lastTo L v r x

theorem holds_zero (v : Nat → Nat → Int) (r : Nat) (x : Int) : holdsTo v r 0 x = false := rfl
theorem holds_succ (v : Nat → Nat → Int) (r j : Nat) (x : Int) : holdsTo v r (j + 1) x = (holdsTo v r j x || v r j == x) := by
  simp [holdsTo, List.range_succ]
theorem lastIn_zero (L : Nat → Nat) (v : Nat → Nat → Int) (r : Nat) (x : Int) : lastIn L v r 0 x = lastTo L v r x := by
  simp [lastIn, holds_zero]
theorem lastIn_full (L : Nat → Nat) (v : Nat → Nat → Int) (r : Nat) (x : Int) : lastIn L v r (L r) x = lastTo L v (r + 1) x := rfl
theorem lastIn_hit (L : Nat → Nat) (v : Nat → Nat → Int) (r j : Nat) (x : Int) (h : v r j = x) : lastIn L v r (j + 1) x = (r : Int) := by
  simp [lastIn, holds_succ, h]
theorem lastIn_miss (L : Nat → Nat) (v : Nat → Nat → Int) (r j : Nat) (x : Int) (h : v r j ≠ x) : lastIn L v r (j + 1) x = lastIn L v r j x := by
  simp [lastIn, holds_succ, h]
theorem lastTo_bd (L : Nat → Nat) (v : Nat → Nat → Int) (x : Int) : ∀ r, -1 ≤ lastTo L v r x ∧ lastTo L v r x < (r : Int)
  | 0 => by simp [lastTo]
  | r + 1 => by
    have ih := lastTo_bd L v x r
    unfold lastTo
    split <;> omega
theorem lastIn_bd (L : Nat → Nat) (v : Nat → Nat → Int) (r j : Nat) (x : Int) : -1 ≤ lastIn L v r j x ∧ lastIn L v r j x ≤ (r : Int) := by
  have := lastTo_bd L v x r
  unfold lastIn
  split <;> omega
/-- The row that is named holds x, so it is not empty. -/
theorem lastTo_pos (L : Nat → Nat) (v : Nat → Nat → Int) (x : Int) : ∀ r, 0 ≤ lastTo L v r x → 0 < L (lastTo L v r x).toNat
  | 0, h => by simp [lastTo] at h
  | r + 1, h => by
    unfold lastTo at h ⊢
    split
    · rename_i hh
      rw [Int.toNat_natCast]
      rcases Nat.eq_zero_or_pos (L r) with h0 | hp
      · rw [h0, holds_zero] at hh; cases hh
      · exact hp
    · rename_i hh
      rw [if_neg hh] at h
      exact lastTo_pos L v x r h
end Go.Proofs.Ybulkcpiu.Md
