/-
  The walks of zzs4557bdrain and zzs4557bnewlines.
-/
import Derived.Test.YbulkcpiuFmtEdn
namespace Go.Proofs.YbulkcpiuFmt
open Go.RowKit Go.Deep
set_option linter.unusedVariables false

/-- The line behind p bytes. -/
def lineTo (f : Nat → Int) (line : Int) : Nat → Int
  | 0 => line
  | p + 1 => lineAfter (lineTo f line p) (f p)

section
variable {w0 w : World} {B : Nat} {ao : Option Addr} {n cap k : Nat} {ev : Value} {line : Int} {f : Nat → Int}

set_option maxRecDepth 100000 in
set_option maxHeartbeats 800000 in
theorem newlines_any (b off : Nat) (hT : Text w ao n b off f) (hn : n ≤ 10000) :
    Calls Ybaf.prog 7 #[.slice ao n cap, .int .i64 line] w fun e w' => e = .returned (.int .i64 (lineTo f line n)) ∧ w' = w := by
  go_enter Ybaf.func7, Ybaf.ntmps7
  go_wp2
  go_loop [1, 5] (fun t i => ∃ p : Nat, p ≤ n ∧ i = .int .i64 p ∧ t = .int .i64 (lineTo f line p)) (fun _ i => n - (intOf i).toNat)
  case atStart => exact ⟨0, Nat.zero_le _, rfl, rfl⟩
  case round =>
    obtain ⟨p, hp, rfl, rfl⟩ := hrel
    by_cases hlt : p < n
    · have hlt' : (p : Int) < (n : Int) := by omega
      obtain rfl := hT.at' (by omega)
      have hc := hT.cell p hlt
      have HE : Hid (lineTo f line (p + 1) = lineAfter (lineTo f line p) (f p)) := show _ = _ from rfl
      generalize lineTo f line p = l at HE ⊢
      by_cases h10 : f p = 10
      · rw [h10] at hc
        have HE2 : Hid (lineTo f line (p + 1) = wrap64 (l + 1)) := by
          show _ = _; rw [HE.out, h10]; rfl
        clear HE h10
        go_wp2
        exact ⟨⟨p + 1, by omega, by go_num, by rw [HE2.out]⟩, by simp [intOf]; omega⟩
      · have HE2 : Hid (lineTo f line (p + 1) = l) := by
          show _ = _; rw [HE.out]; unfold lineAfter; rw [if_neg h10]
        clear HE
        generalize f p = c at hc h10
        have h10' : (c == 10) = false := by simpa using h10
        go_wp2
        exact ⟨⟨p + 1, by omega, by go_num, by rw [HE2.out]⟩, by simp [intOf]; omega⟩
    · obtain rfl : p = n := by omega
      go_wp2
      go_ret
      exact ⟨rfl, rfl⟩

set_option maxRecDepth 100000 in
set_option maxHeartbeats 800000 in
theorem drain_any (b off : Nat) (hP : Pos w0 w B ao n cap k ev f line 0) (hB : Hid (B = w0.heap.size)) (hT : Text w0 ao n b off f) (hn : n ≤ 10000) (hk1 : 1 ≤ k) (hk : k ≤ 256) (hcap : n ≤ cap) :
    Calls Ybaf.prog 6 #[.pointer (some ⟨B + 3, 0, none⟩), .slice ao n cap, .int .i64 line] w fun e w' => e = .returned (.bool true) ∧ Pos w0 w' B ao n cap k ev f (lineTo f line n) n := by
  go_enter Ybaf.func6, Ybaf.ntmps6
  go_wp2
  go_loopw [7, 8] (fun t i wr => ∃ p : Nat, p ≤ n ∧ i = .int .i64 p ∧ t = .int .i64 (lineTo f line p) ∧ Hid (Pos w0 wr B ao n cap k ev f (lineTo f line p) p)) (fun _ i _ => n - (intOf i).toNat)
  case atStart => exact ⟨0, Nat.zero_le _, rfl, rfl, hP⟩
  case round =>
    obtain ⟨p, hp, rfl, rfl, hQ⟩ := hrel
    clear hP
    by_cases hlt : p < n
    · have hlt' : (p : Int) < (n : Int) := by omega
      obtain rfl := hT.at' (by omega)
      have HE : Hid (lineTo f line (p + 1) = lineAfter (lineTo f line p) (f p)) := show _ = _ from rfl
      generalize lineTo f line p = l at HE hQ ⊢
      obtain ⟨c, hc⟩ : ∃ c, c = f p := ⟨_, rfl⟩
      go_wp2_with fail
      refine (read_byte b off hQ.out hB hT hlt hn hk1 hk hcap c hc).mono ?_
      rintro e w5 ⟨rfl, h5⟩
      have hcell := (hT.keep hB.out h5.bel).cell p hlt
      have e1 := h5.e1
      rw [← hc] at hcell
      have HC : Hid (c = f p) := hc
      clear hc hQ
      by_cases h10 : c = 10
      · subst h10
        have HE2 : Hid (lineTo f line (p + 1) = wrap64 (l + 1)) := by
          show _ = _; rw [HE.out, ← HC.out]; rfl
        rw [show lineAfter l 10 = wrap64 (l + 1) from rfl] at e1 h5
        have H5 : Hid (Pos w0 w5 B (some ⟨b, off, none⟩) n cap k ev f (wrap64 (l + 1)) (p + 1)) := h5
        clear HE h5
        go_wp2
        exact ⟨⟨p + 1, by omega, by go_num, by rw [HE2.out], by rw [HE2.out]; exact H5.out⟩, by simp [intOf]; omega⟩
      · have HL : lineAfter l c = l := by unfold lineAfter; rw [if_neg h10]
        rw [HL] at e1 h5
        have HE2 : Hid (lineTo f line (p + 1) = l) := by
          show _ = _; rw [HE.out, ← HC.out, HL]
        have H5 : Hid (Pos w0 w5 B (some ⟨b, off, none⟩) n cap k ev f l (p + 1)) := h5
        have h10' : (c == 10) = false := by simpa using h10
        clear HE h5 HL
        go_wp2
        exact ⟨⟨p + 1, by omega, by go_num, by rw [HE2.out], by rw [HE2.out]; exact H5.out⟩, by simp [intOf]; omega⟩
    · obtain rfl : p = n := by omega
      go_wp2
      go_ret
      exact ⟨rfl, hQ.out⟩
end
end Go.Proofs.YbulkcpiuFmt
