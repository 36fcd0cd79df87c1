/-
  The walk of the ednReader's read.
-/
import Derived.Test.YbulkcpiuFmtByte
namespace Go.Proofs.YbulkcpiuFmt
open Go.RowKit Go.Deep
set_option linter.unusedVariables false

/-- The line behind one byte. -/
def lineAfter (line c : Int) : Int := if c = 10 then wrap64 (line + 1) else line

section
variable {w0 w : World} {B : Nat} {ao : Option Addr} {n cap k : Nat} {ev : Value} {line : Int} {f : Nat → Int} {p : Nat}

theorem Pos.bel (h : Pos w0 w B ao n cap k ev f line p) : Below B w0 w := by obtain ⟨_, _, _, _, h, _⟩ := h; exact h.bel
theorem Pos.e0 (h : Pos w0 w B ao n cap k ev f line p) : w.cell? ⟨B + 3, 0, none⟩ = some (.pointer (some ⟨B + 1, 0, none⟩)) := by obtain ⟨_, _, _, _, h, _⟩ := h; exact h.e0
theorem Pos.e1 (h : Pos w0 w B ao n cap k ev f line p) : w.cell? ⟨B + 3, 1, none⟩ = some (.int .i64 line) := by obtain ⟨_, _, _, _, h, _⟩ := h; exact h.e1
theorem Pos.fe (h : Pos w0 w B ao n cap k ev f line p) : w.frozen? ⟨B + 3, 1, none⟩ = false := by obtain ⟨_, _, _, _, h, _⟩ := h; exact h.fe
theorem Pos.setLine (h : Pos w0 w B ao n cap k ev f line p) (l' : Int) : Pos w0 (w.setCell ⟨B + 3, 1, none⟩ (.int .i64 l')) B ao n cap k ev f l' p := by
  obtain ⟨i, r, wd, X, h, rest⟩ := h
  exact ⟨i, r, wd, X, h.setLine l', rest⟩
theorem Pos.drewN (h : Pos w0 w B ao n cap k ev f line p) (q : Nat) : Pos w0 (w.drewN q) B ao n cap k ev f line p := by
  obtain ⟨i, r, wd, X, h, rest⟩ := h
  exact ⟨i, r, wd, X, h.drewN q, rest⟩

set_option maxRecDepth 100000 in
theorem read_byte (b off : Nat) (hP : Pos w0 w B ao n cap k ev f line p) (hB : Hid (B = w0.heap.size)) (hT : Text w0 ao n b off f) (hp : p < n) (hn : n ≤ 10000) (hk1 : 1 ≤ k) (hk : k ≤ 256) (hcap : n ≤ cap) (c : Int) (HC : Hid (c = f p)) :
    Calls Ybaf.prog 8 #[.pointer (some ⟨B + 3, 0, none⟩)] w fun e w' => e = .returned (.tuple #[.int .u8 c, .nilIface]) ∧ Pos w0 w' B ao n cap k ev f (lineAfter line c) (p + 1) := by
  have e0 := hP.e0
  go_enter Ybaf.func8, Ybaf.ntmps8
  go_wp2_with fail
  refine (byte_some b off f p hP hB hT hp hn hk1 hk hcap).mono ?_
  rintro e w5 ⟨rfl, h5⟩
  clear e0
  have e1 := h5.e1
  have fe := h5.fe
  rw [← HC.out]
  by_cases hc : c = 10
  · subst hc
    go_wp2
    go_ret2
    refine ⟨rfl, ?_⟩
    unfold lineAfter
    rw [if_pos rfl]
    exact h5.setLine _
  · have hc' : (c == 10) = false := by simpa using hc
    go_wp2
    go_ret2
    refine ⟨rfl, ?_⟩
    unfold lineAfter
    rw [if_neg hc]
    exact h5

theorem info44 : ∃ i, Ybaf.prog.info? 44 = some i ∧ i.comparable = true := ⟨_, rfl, by kernel_rfl⟩
theorem info46 : ∃ j, Ybaf.prog.info? 46 = some j ∧ j.size ≠ 0 := ⟨_, rfl, by decide⟩
theorem eql_same (a : Addr) (w : World) : (binOp .eql 25 (.iface 44 (.pointer (some a))) (.iface 44 (.pointer (some a)))).run Ybaf.prog w = .ok (.bool true) w := by
  obtain ⟨i, hi, hc⟩ := info44
  obtain ⟨j, hj, _⟩ := info46
  exact run_eql_iface_ptr_same w a Ybaf.underlying25 Ybaf.underlying44 hi hc hj

theorem readError_eof (ea ra : Addr) (hg : w.cell? ⟨0, 0, none⟩ = some (.iface 44 (.pointer (some ea)))) :
    Calls Ybaf.prog 13 #[.pointer (some ra), .iface 44 (.pointer (some ea))] w fun e w' => e = .returned (.iface 44 (.pointer (some ea))) ∧ w' = w := by
  have hq := eql_same ea
  go_enter Ybaf.func13, Ybaf.ntmps13
  go_wp2
  go_ret
  exact ⟨rfl, rfl⟩

set_option maxRecDepth 100000 in
theorem read_eof (ea : Addr) (hP : Pos w0 w B ao n cap k (.iface 44 (.pointer (some ea))) f line n) (hn : n ≤ 10000) (hB : 0 < B) (hg : w0.cell? ⟨0, 0, none⟩ = some (.iface 44 (.pointer (some ea)))) :
    Calls Ybaf.prog 8 #[.pointer (some ⟨B + 3, 0, none⟩)] w fun e w' => e = .returned (.tuple #[.int .u8 0, .iface 44 (.pointer (some ea))]) ∧ Pos w0 w' B ao n cap k (.iface 44 (.pointer (some ea))) f line n := by
  have e0 := hP.e0
  go_enter Ybaf.func8, Ybaf.ntmps8
  go_wp2_with fail
  refine (byte_end ea f hP hn).mono ?_
  rintro e w5 ⟨rfl, h5⟩
  have g5 : w5.cell? ⟨0, 0, none⟩ = some (.iface 44 (.pointer (some ea))) := (h5.bel.cell (p := ⟨0, 0, none⟩) hB).trans hg
  go_wp2_with fail
  refine (readError_eof ea _ g5).mono ?_
  rintro e w6 ⟨rfl, hw⟩
  have hw := hw.symm
  subst hw
  go_wp2
  go_ret2
  exact ⟨rfl, h5⟩
end
end Go.Proofs.YbulkcpiuFmt
