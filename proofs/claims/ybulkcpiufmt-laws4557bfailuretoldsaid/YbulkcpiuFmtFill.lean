/-
  The walk of the buffered reader's fill, called with nothing left unread.
-/
import Derived.Test.YbulkcpiuFmtRead
import Derived.LoopN
namespace Go.Proofs.YbulkcpiuFmt
open Go.RowKit Go.Deep
set_option linter.unusedVariables false

section
variable {w0 w : World} {B : Nat} {ao : Option Addr} {n cap k : Nat} {ev : Value} {i r wd : Nat} {er : Value} {X : Nat → Value} {line : Int}

/-- A copy of nothing. -/
theorem step_copy0 {ops : Array Oper} {o : Oper} {a : Act} {K : Act → World → Prop} {Q : Exit → Act → World → Prop} {E : Prop} (hgd : o.guard = none) (d s : Operand)
    (ho : o.op = .call { callee := .builtin .copy, args := #[d, s], argTypes := #[22, 22] })
    (hS : St w0 w B ao n cap k ev i r wd er X line) {da : Option Addr} {dl dc : Nat} (hd : a.eval d = .slice da dl dc) (hs : ∃ A C, a.eval s = .slice A 0 C)
    (h : ∀ w', St w0 w' B ao n cap k ev i r wd er X line → K (a.put o.dst (.int .i64 0)) w') :
    if Region.wanted o (yielded ops a.tmps) = true then Oper.wp Ybaf.prog o a w K Q else E := by
  obtain ⟨A, C, hs⟩ := hs
  have hw : Region.wanted o (yielded ops a.tmps) = true := by simp [Region.wanted, hgd]
  rw [if_pos hw]
  have hrun := run_copy_none (P := Ybaf.prog) w 22 22 o.type 5 da A dl dc 0 C Ybaf.underlying22 (by kernel_rfl) (by simp)
  unfold Oper.wp
  simp [execOp, ho, resolve, invoke, builtin, hd, hs, hrun, Result.andThen]
  exact h _ hS

theorem fill_nil (a : Addr) (w : World) : (nilAhead 211 23 (.pointer (some a)) "Read").run Ybaf.prog w = .ok (some false) w := by kernel_rfl
theorem fill_method (a : Addr) (w : World) : (method 211 23 (.pointer (some a)) "Read").run Ybaf.prog w = .ok (36, .pointer (some a)) w := by kernel_rfl

set_option maxRecDepth 100000 in
set_option maxHeartbeats 1600000 in
theorem fill_some (b off : Nat) (f : Nat → Int) (hS : St w0 w B ao n cap k ev i r r .nilIface X line) (hB : Hid (B = w0.heap.size)) (hT : Text w0 ao n b off f) (hr : r ≤ 256) (hi : i < n) (hn : n ≤ 10000) (hk1 : 1 ≤ k) (hk : k ≤ 256) (hcap : n ≤ cap) (m : Nat) (hm : Hid (m = Nat.min (n - i) k)) :
    Calls Ybaf.prog 18 #[.pointer (some ⟨B + 1, 0, none⟩)] w fun e w' => e = .returned (.tuple #[]) ∧ St w0 w' B ao n cap k ev (i + m) 0 m .nilIface (overF f i m X) line := by
  have c0 := hS.r0
  have c2 := hS.r2
  have c3 := hS.r3
  have f2 := hS.fr 2
  have f3 := hS.fr 3
  rcases Nat.eq_zero_or_pos r with hr0 | hr0
  case' inr =>
    have hr0' : (0 : Int) < (r : Int) := by omega
    have hr1' : (r : Int) ≤ 4096 := by omega
    have hr2' : (0 : Int) ≤ (r : Int) := by omega
    have h5' : ¬ 4096 = r := by omega
    all_goals
      go_enter Ybaf.func18, Ybaf.ntmps18
      go_wp2
      go_region_held3 (fun W => W.cell? ⟨B + 1, 0, none⟩ = some (.slice (some ⟨B + 2, 0, none⟩) 4096 4096) ∧ W.cell? ⟨B + 1, 2, none⟩ = some (.int .i64 r) ∧ W.cell? ⟨B + 1, 3, none⟩ = some (.int .i64 r)) ((go_split_ands; first | exact ⟨by assumption, by assumption, by assumption⟩ | exact ⟨h4.r0, h4.r2, h4.r3⟩))
        (first | (refine step_copy0 rfl (.tmp 13) (.tmp 26) rfl (hS.alike rfl rfl rfl rfl) rfl ?hs ?_; (case hs => simp [Act.eval]); intro w4 h4))
      clear c0 c2 c3 f2 f3
      have c0 := h4.r0
      have c2 := h4.r2
      have c3 := h4.r3
      have f2 := h4.fr 2
      have f3 := h4.fr 3
      go_wp2
      go_region
      go_wp2
      refine wp_name (fun W => St w0 W B ao n cap k ev i 0 0 .nilIface X line) (((h4.setW 0).setR 0).alike rfl rfl rfl rfl) ?_
      clear c0 c2 c3 f2 f3
  case' inl =>
    subst hr0
    go_enter Ybaf.func18, Ybaf.ntmps18
    go_wp2
    refine wp_name (fun W => St w0 W B ao n cap k ev i 0 0 .nilIface X line) hS ?_
    clear c0 c2 c3 f2 f3
  all_goals
    intro W hW
    clear hS
    have c0 := hW.r0
    have c1 := hW.r1
    have c2 : W.cell? ⟨B + 1, 2, none⟩ = some (.int .i64 0) := hW.r2
    have c3 : W.cell? ⟨B + 1, 3, none⟩ = some (.int .i64 0) := hW.r3
    have n1 := fill_nil
    have n2 := fill_method
    go_quiet (fail)
    go_wp2
    refine wp_loop_rounds 1 ?_
    rw [rounds_succ]
    go_wp2
    go_region_held3 (fun W => W.cell? ⟨B + 1, 0, none⟩ = some (.slice (some ⟨B + 2, 0, none⟩) 4096 4096) ∧ W.cell? ⟨B + 1, 1, none⟩ = some (.iface 23 (.pointer (some ⟨B, 0, none⟩))) ∧ W.cell? ⟨B + 1, 3, none⟩ = some (.int .i64 0)) ((go_split_ands; first | exact ⟨by assumption, by assumption, by assumption⟩ | exact ⟨h5.r0, h5.r1, h5.r3⟩))
      (first | (go_at_call 36; refine (read_some b off f (hW.drewN _) ((hT.keep hB.out hW.bel).drewN _) hi hn hk1 hk hcap m hm.out).mono ?_; rintro e w5 ⟨rfl, h5⟩))
    clear c0 c1 c2 c3
    have c3 : w5.cell? ⟨B + 1, 3, none⟩ = some (.int .i64 0) := h5.r3
    have f3 := h5.fr 3
    have hm1 : 0 < m := by rw [hm.out]; exact Nat.lt_min.2 ⟨by omega, by omega⟩
    have hm2 : m ≤ 256 := by rw [hm.out]; exact Nat.le_trans (Nat.min_le_right _ _) hk
    have hm3 : (0 : Int) < (m : Int) := by omega
    have hm4 : (0 : Int) ≤ (m : Int) := by omega
    go_wp2
    refine bodyPost_ret (results_none rfl _ _ _) rfl ?_
    exact ⟨rfl, h5.setW m⟩

set_option maxRecDepth 100000 in
set_option maxHeartbeats 1600000 in
theorem fill_end (ea : Addr) (hS : St w0 w B ao n cap k (.iface 44 (.pointer (some ea))) n r r .nilIface X line) (hr : r ≤ 256) (hn : n ≤ 10000) :
    Calls Ybaf.prog 18 #[.pointer (some ⟨B + 1, 0, none⟩)] w fun e w' => e = .returned (.tuple #[]) ∧ St w0 w' B ao n cap k (.iface 44 (.pointer (some ea))) n 0 0 (.iface 44 (.pointer (some ea))) X line := by
  have c0 := hS.r0
  have c2 := hS.r2
  have c3 := hS.r3
  have f2 := hS.fr 2
  have f3 := hS.fr 3
  rcases Nat.eq_zero_or_pos r with hr0 | hr0
  case' inr =>
    have hr0' : (0 : Int) < (r : Int) := by omega
    have hr1' : (r : Int) ≤ 4096 := by omega
    have hr2' : (0 : Int) ≤ (r : Int) := by omega
    have h5' : ¬ 4096 = r := by omega
    all_goals
      go_enter Ybaf.func18, Ybaf.ntmps18
      go_wp2
      go_region_held3 (fun W => W.cell? ⟨B + 1, 0, none⟩ = some (.slice (some ⟨B + 2, 0, none⟩) 4096 4096) ∧ W.cell? ⟨B + 1, 2, none⟩ = some (.int .i64 r) ∧ W.cell? ⟨B + 1, 3, none⟩ = some (.int .i64 r)) ((go_split_ands; first | exact ⟨by assumption, by assumption, by assumption⟩ | exact ⟨h4.r0, h4.r2, h4.r3⟩))
        (first | (refine step_copy0 rfl (.tmp 13) (.tmp 26) rfl (hS.alike rfl rfl rfl rfl) rfl ?hs ?_; (case hs => simp [Act.eval]); intro w4 h4))
      clear c0 c2 c3 f2 f3
      have c0 := h4.r0
      have c2 := h4.r2
      have c3 := h4.r3
      have f2 := h4.fr 2
      have f3 := h4.fr 3
      go_wp2
      go_region
      go_wp2
      refine wp_name (fun W => St w0 W B ao n cap k (.iface 44 (.pointer (some ea))) n 0 0 .nilIface X line) (((h4.setW 0).setR 0).alike rfl rfl rfl rfl) ?_
      clear c0 c2 c3 f2 f3
  case' inl =>
    subst hr0
    go_enter Ybaf.func18, Ybaf.ntmps18
    go_wp2
    refine wp_name (fun W => St w0 W B ao n cap k (.iface 44 (.pointer (some ea))) n 0 0 .nilIface X line) hS ?_
    clear c0 c2 c3 f2 f3
  all_goals
    intro W hW
    clear hS
    have c0 := hW.r0
    have c1 := hW.r1
    have c2 : W.cell? ⟨B + 1, 2, none⟩ = some (.int .i64 0) := hW.r2
    have c3 : W.cell? ⟨B + 1, 3, none⟩ = some (.int .i64 0) := hW.r3
    have n1 := fill_nil
    have n2 := fill_method
    go_quiet (fail)
    go_wp2
    refine wp_loop_rounds 1 ?_
    rw [rounds_succ]
    go_wp2
    go_region_held3 (fun W => W.cell? ⟨B + 1, 0, none⟩ = some (.slice (some ⟨B + 2, 0, none⟩) 4096 4096) ∧ W.cell? ⟨B + 1, 1, none⟩ = some (.iface 23 (.pointer (some ⟨B, 0, none⟩))) ∧ W.cell? ⟨B + 1, 3, none⟩ = some (.int .i64 0)) ((go_split_ands; first | exact ⟨by assumption, by assumption, by assumption⟩ | exact ⟨h5.r0, h5.r1, h5.r3⟩))
      (first | (go_at_call 36; refine (read_end (hW.drewN _) hn rfl).mono ?_; rintro e w5 ⟨rfl, q5, hw5⟩; have h5 := (hW.drewN (nq + 1)).drewN q5; rw [← hw5] at h5; clear hw5))
    clear c0 c1 c2 c3
    have c3 : w5.cell? ⟨B + 1, 3, none⟩ = some (.int .i64 0) := h5.r3
    have c4 := h5.r4
    have f3 := h5.fr 3
    have f4 := h5.fr 4
    go_wp2
    refine bodyPost_ret (results_none rfl _ _ _) rfl ?_
    exact ⟨rfl, (h5.setW 0).setErr _⟩
end
end Go.Proofs.YbulkcpiuFmt
