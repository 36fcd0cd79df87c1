/-
  The walk of LawS4557BBytesThenEOF.
-/
import Derived.Test.YbulkcpiuFmtNew
namespace Go.Proofs.YbulkcpiuFmt
open Go.RowKit Go.Deep
set_option linter.unusedVariables false

theorem neq_same (a : Addr) (w : World) : (binOp .neq 25 (.iface 44 (.pointer (some a))) (.iface 44 (.pointer (some a)))).run Ybaf.prog w = .ok (.bool false) w := by
  obtain ⟨i, hi, hc⟩ := info44
  obtain ⟨j, hj, _⟩ := info46
  simp only [binOp]
  simp [Op.equal, Op.maxDepth, run_equalIn_iface_ptr_same w 9998 a Ybaf.underlying25 Ybaf.underlying44 hi hc hj]

/-- The four blocks, fresh: no byte is handed out yet. -/
theorem pos_start {w w1 : World} {ao : Option Addr} {n cap k : Nat} {ev : Value} {line : Int} (f : Nat → Int) {B : Nat} (hB : B = w.heap.size)
    (hF : Fresh (w.alloc (.cells #[.slice ao n cap, .int .i64 0, .int .i64 k, ev] 27)) w1 B) :
    Pos w (w1.alloc (.cells #[.pointer (some ⟨B + 1, 0, none⟩), .int .i64 line, .slice none 0 0, .slice none 0 0] 32)) B ao n cap k ev f line 0 := by
  refine ⟨0, 0, 0, _, ⟨?_, ⟨_, _, hF.rd.alloc _⟩, hF.buf.alloc _, ?_, ?_⟩, by omega, by omega, by omega, by omega, by omega, fun j hj => by omega⟩
  · refine World.rowIs.alloc ?_ _
    have h := World.rowIs_alloc w #[.slice ao n cap, .int .i64 0, .int .i64 k, ev] 27 (srcF ao n cap k 0 ev) (fun i hi => by
      have hi : i < 4 := hi
      rcases i with _ | _ | _ | _ | i <;> first | rfl | omega)
    rw [← hB] at h
    exact h.of_block (hF.bel.block _ (by omega))
  · have h := World.rowIs_alloc w1 #[.pointer (some ⟨B + 1, 0, none⟩), .int .i64 line, .slice none 0 0, .slice none 0 0] 32 (ednF B line) (fun i hi => by
      have hi : i < 4 := hi
      rcases i with _ | _ | _ | _ | i <;> first | rfl | omega)
    rw [hF.size] at h
    exact h
  · have h1 : Below B w (w.alloc (.cells #[.slice ao n cap, .int .i64 0, .int .i64 k, ev] 27)) := (Below.refl _ _).alloc (by omega) _
    exact (h1.trans (hF.bel.mono (by omega))).alloc (by rw [hF.size]; omega) _

set_option maxRecDepth 100000 in
set_option maxHeartbeats 1600000 in
theorem eof_any (ea : Addr) (ao : Option Addr) (n cap b off c : Nat) (line : Int) (f : Nat → Int) (w : World) (hm : n ≤ maxLen) (hcap : n ≤ cap) (hc : c ≤ 255) (hT : Text w ao n b off f) (hg : w.cell? ⟨0, 0, none⟩ = some (.iface 44 (.pointer (some ea)))) :
    Calls Ybaf.prog 3 #[.slice ao n cap, .int .i64 line, .int .u8 c] w fun e w' => e = .returned (.bool true) ∧ Below w.heap.size w w' := by
  unfold maxLen at hm
  have h0 : 0 < w.heap.size := World.block_lt_of_cell? w _ hg
  by_cases hn : n ≤ 10000
  · have hn' : (n : Int) ≤ 10000 := by omega
    go_enter Ybaf.func3, Ybaf.ntmps3
    go_wp2_with fail
    refine (new_any _ w.heap.size (by simp)).mono ?_
    rintro e w1 ⟨rfl, hF⟩
    rw [show (c : Int) + 1 = ((c + 1 : Nat) : Int) by omega] at hF
    have hsz := hF.size
    have hP := pos_start (line := line) f rfl hF
    clear hF
    go_wp2_with fail
    refine (drain_any b off hP (show _ = _ from rfl) hT hn (by omega) (by omega) hcap).mono ?_
    rintro e w2 ⟨rfl, h2⟩
    clear hP hsz
    go_wp2_with fail
    refine (newlines_any b off (hT.keep rfl h2.bel) hn).mono ?_
    rintro e w3 ⟨rfl, hw⟩
    have hw := hw.symm
    subst hw
    go_wp2_with fail
    refine (read_eof ea h2 hn h0 hg).mono ?_
    rintro e w4 ⟨rfl, h4⟩
    have g4 : w4.cell? ⟨0, 0, none⟩ = some (.iface 44 (.pointer (some ea))) := (h4.bel.cell (p := ⟨0, 0, none⟩) h0).trans hg
    have e1 := h4.e1
    have q1 := eql_same ea
    have q2 := neq_same ea
    clear h2
    have hne : ¬ lineTo f line n = wrap64 (lineTo f line n + 1) := by unfold wrap64; omega
    generalize lineTo f line n = l at h4 e1 hne
    go_wp2_with fail
    refine (read_eof ea h4 hn h0 hg).mono ?_
    rintro e w5 ⟨rfl, h5⟩
    have g5 : w5.cell? ⟨0, 0, none⟩ = some (.iface 44 (.pointer (some ea))) := (h5.bel.cell (p := ⟨0, 0, none⟩) h0).trans hg
    have d1 := h5.e1
    clear g4 e1 h4
    go_wp2
    go_ret
    have hne2 : (l != wrap64 (l + 1)) = true := by simpa using hne
    exact ⟨show Ending.returned (.bool (l != wrap64 (l + 1))) = _ by rw [hne2], h5.bel⟩
  · have hn' : (10000 : Int) < (n : Int) := by omega
    go_enter Ybaf.func3, Ybaf.ntmps3
    go_wp2
    go_ret
    exact ⟨rfl, Below.refl _ _⟩
end Go.Proofs.YbulkcpiuFmt
