/-
  The walk of LawS4557BFailure.
-/
import Derived.Test.YbulkcpiuFmtIs
namespace Go.Proofs.YbulkcpiuFmt
open Go.RowKit Go.Deep Go.Extern.Stop Go.Stop Go.Extern
set_option linter.unusedVariables false

theorem errNew (s : ByteArray) (w : World) : Calls Ybaf.prog 9 #[.string s] w fun e w' => e = .returned (.iface 44 (.pointer (some ⟨w.heap.size, 0, none⟩))) ∧ w' = w.alloc (.cells #[.string s] 46) := by
  go_enter Ybaf.func9, Ybaf.ntmps9
  go_wp2
  go_ret
  exact ⟨rfl, rfl⟩

set_option maxRecDepth 100000 in
set_option maxHeartbeats 1600000 in
theorem fail_any (F : Interp) (ea : Addr) (ce : Array Value) (te : TypeId) (ao : Option Addr) (n cap b off c : Nat) (line : Int) (f : Nat → Int) (w : World) (hF : F.answers w.tape) (hm : n ≤ maxLen) (hcap : n ≤ cap) (hc : c ≤ 255) (hT : Text w ao n b off f)
    (hg : w.cell? ⟨0, 0, none⟩ = some (.iface 44 (.pointer (some ea)))) (he : w.heap[ea.block]? = some (.cells ce te (0, 0))) :
    Calls Ybaf.prog 4 #[.slice ao n cap, .int .i64 line, .int .u8 c] w fun e w' => e = .returned (.bool true) ∧ Below w.heap.size w w' := by
  unfold maxLen at hm
  have h0 : 0 < w.heap.size := World.block_lt_of_cell? w _ hg
  by_cases hn : n ≤ 10000
  · have hn' : (n : Int) ≤ 10000 := by omega
    go_enter Ybaf.func4, Ybaf.ntmps4
    go_wp2_with fail
    refine (errNew _ w).mono ?_
    rintro e w1 ⟨rfl, hw1⟩
    have hb1 : Below w.heap.size w w1 := by rw [hw1]; exact (Below.refl _ _).alloc (Nat.le_refl _) _
    have hs1 : w1.heap.size = w.heap.size + 1 := by rw [hw1]; simp
    have hT1 := hT.keep rfl hb1
    have hg1 : w1.cell? ⟨0, 0, none⟩ = some (.iface 44 (.pointer (some ea))) := (hb1.cell (p := ⟨0, 0, none⟩) h0).trans hg
    have hel : ea.block < w.heap.size := by
      rcases Nat.lt_or_ge ea.block w.heap.size with h | h
      · exact h
      · rw [Array.getElem?_eq_none h] at he; cases he
    have he1 : w1.heap[ea.block]? = some (.cells ce te (0, 0)) := (hb1.block _ hel).trans he
    have hf1 : ∃ S : ByteArray, w1.heap[w.heap.size]? = some (.cells #[.string S] 46 (0, 0)) := ⟨_, by rw [hw1]; exact blk_alloc_new _ _⟩
    obtain ⟨S, hf1⟩ := hf1
    have hF1 : F.answers w1.tape := by rw [hb1.tape]; exact hF
    clear hw1 hT hg he hF
    have HF1 : Hid (w1.heap[w.heap.size]? = some (.cells #[.string S] 46 (0, 0))) := hf1
    have HE1 : Hid (w1.heap[ea.block]? = some (.cells ce te (0, 0))) := he1
    clear hf1 he1
    go_wp2_with fail
    refine (new_any _ (w.heap.size + 1) (by simp [hs1])).mono ?_
    rintro e w2 ⟨rfl, hF2⟩
    rw [show (c : Int) + 1 = ((c + 1 : Nat) : Int) by omega] at hF2
    have hsz := hF2.size
    have hP := pos_start (line := line) f hs1.symm hF2
    clear hF2
    go_wp2_with fail
    refine (drain_any b off hP (show _ = _ from hs1.symm) hT1 hn (by omega) (by omega) hcap).mono ?_
    rintro e w3 ⟨rfl, h3⟩
    clear hP hsz
    go_wp2_with fail
    refine (newlines_any b off (hT1.keep hs1.symm h3.bel) hn).mono ?_
    rintro e w4 ⟨rfl, hw⟩
    have hw := hw.symm
    subst hw
    generalize lineTo f line n = l at h3
    go_wp2_with fail
    refine (read_fail F ⟨w.heap.size, 0, none⟩ ea S _ ce 46 te hF1 h3 hn (by omega) hg1 ?hne (by simp) (by omega) HF1.out HE1.out ?hcs).mono ?_
    case hne => intro e; rw [← e] at hel; simp at hel
    case hcs => simp [World.cell?, HF1.out]
    rintro e w5 ⟨w6, t, rfl, h6, hw5⟩
    have hlt := h6.lt
    have h7 : Pos w1 w5 (w.heap.size + 1) ao n cap (c + 1) (.iface 44 (.pointer (some ⟨w.heap.size, 0, none⟩))) f l n := by rw [hw5]; exact ((h6.alloc _).alloc _).drewN 1
    have e1 := h7.e1
    have g5 : w5.cell? ⟨0, 0, none⟩ = some (.iface 44 (.pointer (some ea))) := (h7.bel.cell (p := ⟨0, 0, none⟩) (by simp)).trans hg1
    have hcw : w5.cell? ⟨w6.heap.size + 1, 0 + 1, none⟩ = some (.iface 44 (.pointer (some ⟨w.heap.size, 0, none⟩))) := by
      rw [hw5]
      have := heap_alloc_new (w6.alloc (.cells #[.iface 3 (.int .i64 l), .iface 44 (.pointer (some ⟨w.heap.size, 0, none⟩))] 20)) (.cells #[.string t, .iface 44 (.pointer (some ⟨w.heap.size, 0, none⟩))] 98)
      rw [show (w6.alloc (.cells #[.iface 3 (.int .i64 l), .iface 44 (.pointer (some ⟨w.heap.size, 0, none⟩))] 20)).heap.size = w6.heap.size + 1 from by simp] at this
      exact cell_of_row _ _ 1 _ _ _ this
    clear hw5 h6 h3
    generalize w6.heap.size + 1 = pb at hcw
    have hty := run_eql_iface_types (P := Ybaf.prog) 71 44 (.pointer (some ⟨pb, 0, none⟩)) (.pointer (some ea)) Ybaf.underlying25 (by decide) w5
    go_wp2_with fail
    refine (is_wrap_same pb 0 ⟨w.heap.size, 0, none⟩ w5 hcw).mono ?_
    rintro e w8 ⟨rfl, hw⟩
    have hw := hw.symm
    subst hw
    go_wp2
    go_ret
    exact ⟨rfl, hb1.trans (h7.bel.mono (by omega))⟩
  · have hn' : (10000 : Int) < (n : Int) := by omega
    go_enter Ybaf.func4, Ybaf.ntmps4
    go_wp2
    go_ret
    exact ⟨rfl, Below.refl _ _⟩
end Go.Proofs.YbulkcpiuFmt
