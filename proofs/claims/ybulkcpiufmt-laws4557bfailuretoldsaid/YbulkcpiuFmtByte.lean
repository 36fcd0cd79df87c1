/-
  The walk of the buffered reader's ReadByte.
-/
import Derived.Test.YbulkcpiuFmtFill
namespace Go.Proofs.YbulkcpiuFmt
open Go.RowKit Go.Deep
set_option linter.unusedVariables false

/-- The reader has handed out p bytes of n. -/
def Pos (w0 w : World) (B : Nat) (ao : Option Addr) (n cap k : Nat) (ev : Value) (f : Nat → Int) (line : Int) (p : Nat) : Prop :=
  ∃ i r wd X, St w0 w B ao n cap k ev i r wd .nilIface X line ∧ p + wd = i + r ∧ r ≤ wd ∧ wd ≤ 256 ∧ wd ≤ i ∧ i ≤ n ∧ ∀ j, j < wd → X j = .int .u8 (f (i - wd + j))

section
variable {w0 w : World} {B : Nat} {ao : Option Addr} {n cap k : Nat} {ev : Value} {i r wd : Nat} {er : Value} {X : Nat → Value} {line : Int}

theorem readErr_any (ea : Addr) (hS : St w0 w B ao n cap k ev i r wd (.iface 44 (.pointer (some ea))) X line) :
    Calls Ybaf.prog 17 #[.pointer (some ⟨B + 1, 0, none⟩)] w fun e w' => e = .returned (.iface 44 (.pointer (some ea))) ∧ St w0 w' B ao n cap k ev i r wd .nilIface X line := by
  have c4 := hS.r4
  have f4 := hS.fr 4
  go_enter Ybaf.func17, Ybaf.ntmps17
  go_wp2
  go_ret
  exact ⟨rfl, hS.setErr _⟩

set_option maxRecDepth 100000 in
set_option maxHeartbeats 1600000 in
theorem byte_some (b off : Nat) (f : Nat → Int) (p : Nat) (hP : Pos w0 w B ao n cap k ev f line p) (hB : Hid (B = w0.heap.size)) (hT : Text w0 ao n b off f) (hp : p < n) (hn : n ≤ 10000) (hk1 : 1 ≤ k) (hk : k ≤ 256) (hcap : n ≤ cap) :
    Calls Ybaf.prog 12 #[.pointer (some ⟨B + 1, 0, none⟩)] w fun e w' => e = .returned (.tuple #[.int .u8 (f p), .nilIface]) ∧ Pos w0 w' B ao n cap k ev f line (p + 1) := by
  obtain ⟨i, r, wd, X, hS, hpw, hrw, hw, hwi, hin, hX⟩ := hP
  have HX : Hid (∀ j, j < wd → X j = .int .u8 (f (i - wd + j))) := hX
  clear hX
  obtain ⟨v6, c6⟩ := hS.r6
  have f6 := hS.fr 6
  go_enter Ybaf.func12, Ybaf.ntmps12
  go_wp2
  refine wp_name (fun W => St w0 W B ao n cap k ev i r wd .nilIface X line) (hS.set6 _) ?_
  clear hS c6 f6
  intro W hS
  have c0 := hS.r0
  have c2 := hS.r2
  have c3 := hS.r3
  have c4 := hS.r4
  rcases Nat.lt_or_ge r wd with hlt | hge
  case' inl =>
    have hlt' : (r : Int) < (wd : Int) := by omega
    have hne : ((r : Int) == (wd : Int)) = false := by simp; omega
    refine wp_loop_rounds 1 ?_
    rw [rounds_succ]
    go_wp2
    go_quiet (fail)
    go_wp2
    refine wp_name (fun W => ∃ i r wd X, St w0 W B ao n cap k ev i r wd .nilIface X line ∧ r < wd ∧ p + wd = i + r ∧ wd ≤ 256 ∧ wd ≤ i ∧ i ≤ n ∧ ∀ j, j < wd → X j = .int .u8 (f (i - wd + j))) ⟨i, r, wd, X, hS.drewN _, hlt, hpw, hw, hwi, hin, HX.out⟩ ?_
  case' inr =>
    obtain rfl : r = wd := by omega
    obtain rfl : p = i := by omega
    refine wp_loop_rounds 2 ?_
    rw [rounds_succ]
    go_wp2
    go_quiet (fail)
    go_wp2_with fail
    refine (fill_some b off f (hS.drewN _) hB hT hw hp hn hk1 hk hcap (Nat.min (n - p) k) (show _ = _ from rfl)).mono ?_
    rintro e w5 ⟨rfl, h5⟩
    have hm1 : 0 < Nat.min (n - p) k := Nat.lt_min.2 ⟨by omega, by omega⟩
    have hm2 : Nat.min (n - p) k ≤ 256 := Nat.le_trans (Nat.min_le_right _ _) hk
    have hm3 : Nat.min (n - p) k ≤ n - p := Nat.min_le_left _ _
    generalize Nat.min (n - p) k = m at h5 hm1 hm2 hm3
    clear c0 c2 c3 c4
    have c2 : w5.cell? ⟨B + 1, 2, none⟩ = some (.int .i64 0) := h5.r2
    have c3 := h5.r3
    have hne : ((0 : Int) == (m : Int)) = false := by simp; omega
    have hne2 : ¬ m = 0 := by omega
    go_wp2
    rw [rounds_succ]
    go_wp2
    go_quiet (fail)
    go_wp2
    refine wp_name (fun W => ∃ i r wd X, St w0 W B ao n cap k ev i r wd .nilIface X line ∧ r < wd ∧ p + wd = i + r ∧ wd ≤ 256 ∧ wd ≤ i ∧ i ≤ n ∧ ∀ j, j < wd → X j = .int .u8 (f (i - wd + j))) ⟨p + m, 0, m, _, h5.drewN _, hm1, by omega, hm2, by omega, by omega, fun j hj => ?_⟩ ?_
    · rw [show p + m - m + j = p + j by omega]; unfold overF; rw [if_pos hj]
  all_goals
    clear hS
    rintro W2 ⟨i2, r2, wd2, X2, h2, hlt2, hpw2, hw2, hwi2, hin2, hX2⟩
    have hXr : W2.cell? ⟨B + 2, r2, none⟩ = some (.int .u8 (f p)) := by
      rw [h2.buf.cell (show r2 < 4096 by omega), hX2 r2 hlt2, show i2 - wd2 + r2 = p by omega]
    have HX2 : Hid (∀ j, j < wd2 → X2 j = .int .u8 (f (i2 - wd2 + j))) := hX2
    clear hX2
    have d0 := h2.r0
    have d2 := h2.r2
    obtain ⟨v5, d5⟩ := h2.r5
    have e2 := h2.fr 2
    have e5 := h2.fr 5
    have hl0 := hT.lo p hp
    have hl1 := hT.hi p hp
    obtain ⟨c, hc⟩ : ∃ c, c = f p := ⟨_, rfl⟩
    rw [← hc] at hXr hl0 hl1
    have HC : Hid (c = f p) := hc
    clear hc
    have i1 : (0 : Int) ≤ (r2 : Int) := by omega
    have i2' : (r2 : Int) < 4096 := by omega
    go_quiet (fail)
    go_wp2
    go_ret2
    have hc := HC.out
    exact ⟨by rw [← hc]; rfl, i2, r2 + 1, wd2, X2, by simpa using ((h2.drewN nq).setR (r2 + 1)).set5 _, by omega, by omega, hw2, hwi2, hin2, HX2.out⟩

set_option maxRecDepth 100000 in
set_option maxHeartbeats 1600000 in
theorem byte_end (ea : Addr) (f : Nat → Int) (hP : Pos w0 w B ao n cap k (.iface 44 (.pointer (some ea))) f line n) (hn : n ≤ 10000) :
    Calls Ybaf.prog 12 #[.pointer (some ⟨B + 1, 0, none⟩)] w fun e w' => e = .returned (.tuple #[.int .u8 0, .iface 44 (.pointer (some ea))]) ∧ Pos w0 w' B ao n cap k (.iface 44 (.pointer (some ea))) f line n := by
  obtain ⟨i, r, wd, X, hS, hpw, hrw, hw, hwi, hin, hX⟩ := hP
  clear hX
  obtain rfl : r = wd := by omega
  obtain rfl : n = i := by omega
  obtain ⟨v6, c6⟩ := hS.r6
  have f6 := hS.fr 6
  go_enter Ybaf.func12, Ybaf.ntmps12
  go_wp2
  refine wp_name (fun W => St w0 W B ao n cap k (.iface 44 (.pointer (some ea))) n r r .nilIface X line) (hS.set6 _) ?_
  clear hS c6 f6
  intro W hS
  have c2 := hS.r2
  have c3 := hS.r3
  have c4 := hS.r4
  refine wp_loop_rounds 2 ?_
  rw [rounds_succ]
  go_wp2
  go_quiet (fail)
  go_wp2_with fail
  refine (fill_end ea (hS.drewN _) hw hn).mono ?_
  rintro e w5 ⟨rfl, h5⟩
  clear c2 c3 c4
  have c2 : w5.cell? ⟨B + 1, 2, none⟩ = some (.int .i64 0) := h5.r2
  have c3 : w5.cell? ⟨B + 1, 3, none⟩ = some (.int .i64 0) := h5.r3
  have c4 := h5.r4
  go_wp2
  rw [rounds_succ]
  go_wp2
  go_quiet (fail)
  go_wp2_with fail
  refine (readErr_any ea (h5.drewN _)).mono ?_
  rintro e w6 ⟨rfl, h6⟩
  go_wp2
  go_ret2
  exact ⟨rfl, n, 0, 0, X, h6, by omega, by omega, by omega, by omega, by omega, fun j hj => by omega⟩
end
end Go.Proofs.YbulkcpiuFmt
