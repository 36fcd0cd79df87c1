/-
  The walk of the source's Read.
-/
import Derived.Test.YbulkcpiuFmtState
import Derived.Deep.RegionHeld3
namespace Go.Proofs.YbulkcpiuFmt
open Go.RowKit Go.Deep
set_option linter.unusedVariables false

section
variable {w0 w : World} {B : Nat} {ao : Option Addr} {n cap k : Nat} {ev : Value} {i r wd : Nat} {er : Value} {X : Nat → Value} {line : Int}

/-- The source is at its end: nothing, and its error. -/
theorem read_end (hS : St w0 w B ao n cap k ev n r wd er X line) (hn : n ≤ 10000) (hev : ev.oneCell' = true) :
    Calls Ybaf.prog 36 #[.pointer (some ⟨B, 0, none⟩), .slice (some ⟨B + 2, 0, none⟩) 4096 4096] w fun e w' => e = .returned (.tuple #[.int .i64 0, ev]) ∧ ∃ q, w' = w.drewN q := by
  have c0 := hS.c0
  have c1 := hS.c1
  have c3 := hS.c3
  go_enter Ybaf.func36, Ybaf.ntmps36
  go_wp2
  go_quiet (fail)
  go_wp2
  go_quiet (fail)
  go_wp2
  go_ret2
  exact ⟨rfl, _, (World.drewN_drewN _ _ _)⟩

/-- The copy of a part of the data over the buffer's head, as one step of a region that draws. -/
theorem step_copy {ops : Array Oper} {o : Oper} {a : Act} {K : Act → World → Prop} {Q : Exit → Act → World → Prop} {E : Prop} (hgd : o.guard = none) (d s : Operand)
    (ho : o.op = .call { callee := .builtin .copy, args := #[d, s], argTypes := #[22, 22] }) (hS : St w0 w B ao n cap k ev i r wd er X line)
    {b off : Nat} {f : Nat → Int} (hT : Text w ao n b off f) (m : Nat) (hm1 : i + m ≤ n) (hm : m ≤ 4096)
    (hd : a.eval d = .slice (some ⟨B + 2, 0, none⟩) 4096 4096) (hs : ∃ L C A, a.eval s = .slice (some A) L C ∧ A = ⟨b, off + i, none⟩ ∧ L = m)
    (h : ∀ w', St w0 w' B ao n cap k ev i r wd er (overF f i m X) line → K (a.put o.dst (.int .i64 m)) w') :
    if Region.wanted o (yielded ops a.tmps) = true then Oper.wp Ybaf.prog o a w K Q else E := by
  obtain ⟨L, C, O, hs, hO, hL⟩ := hs
  subst hO hL
  have hw : Region.wanted o (yielded ops a.tmps) = true := by simp [Region.wanted, hgd]
  rw [if_pos hw]
  obtain ⟨cur, hg, hsz, _⟩ := hS.buf
  have hrun := run_copy_row (P := Ybaf.prog) w 22 22 o.type 5 (B + 2) 0 4096 4096 ⟨b, off + i, none⟩ L C cur 5 ((List.range L).map fun j => Value.int .u8 (f (i + j)))
    Ybaf.underlying22 (by kernel_rfl) hg (by simpa using (Nat.min_eq_left hm).symm) (fun j v hj => by
      have hjL : j < L := by
        rcases Nat.lt_or_ge j L with h | h
        · exact h
        · rw [List.getElem?_eq_none (by simpa using h)] at hj; cases hj
      have hv : v = .int .u8 (f (i + j)) := by simpa [hjL] using hj.symm
      subst hv
      rw [show (⟨b, off + i, none⟩ : Addr).add j = ⟨b, off + (i + j), none⟩ by rw [WideShapes.add_plain, Nat.add_assoc]]
      exact hT.cell _ (by omega)) (by simp; omega) (by simp [Value.oneCell'])
  have hc := hS.copied f L hm cur hg
  unfold Oper.wp
  simp [execOp, ho, resolve, invoke, builtin, hd, hs, hrun, Result.andThen]
  simp at hc
  exact h _ hc


set_option maxRecDepth 100000 in
theorem read_some (b off : Nat) (f : Nat → Int) (hS : St w0 w B ao n cap k ev i r wd er X line) (hT : Text w ao n b off f) (hi : i < n) (hn : n ≤ 10000) (hk1 : 1 ≤ k) (hk : k ≤ 256) (hcap : n ≤ cap) (m : Nat) (hm : m = Nat.min (n - i) k) :
    Calls Ybaf.prog 36 #[.pointer (some ⟨B, 0, none⟩), .slice (some ⟨B + 2, 0, none⟩) 4096 4096] w fun e w' => e = .returned (.tuple #[.int .i64 m, .nilIface]) ∧ St w0 w' B ao n cap k ev (i + m) r wd er (overF f i m X) line := by
  obtain rfl := hT.at' (by omega)
  have c0 := hS.c0
  have c1 := hS.c1
  have c2 := hS.c2
  have hi' : (i : Int) < (n : Int) := by omega
  have hi2 : (0 : Int) ≤ (i : Int) := by omega
  by_cases hd : n - i ≤ k
  · obtain rfl : n = i + m := by rw [show Nat.min (n - i) k = n - i from Nat.min_eq_left hd] at hm; omega
    clear hm
    have hd' : ((i + m : Nat) : Int) - (i : Int) ≤ (k : Int) := by omega
    have hd2 : ((i + m : Nat) : Int) - (i : Int) ≤ 4096 := by omega
    have HD : Hid ((i : Int) + (m : Int) - (i : Int) = (m : Int)) := by show _ = _; omega
    have hcap' : (i : Int) + (m : Int) ≤ (cap : Int) := by omega
    have hm0 : (i : Int) ≤ (i : Int) + (m : Int) := by omega
    have hci : ¬ cap = i := by omega
    have hwr : IntKind.i64.wrap ((i : Int) + (m : Int)) = (i : Int) + (m : Int) := by rw [IntKind.wrap_i64]; omega
    go_enter Ybaf.func36, Ybaf.ntmps36
    go_wp2
    go_quiet (fail)
    go_wp2
    go_quiet (fail)
    go_wp2
    rw [HD.out]
    go_region_held3 (fun W => W.cell? ⟨B, 0, none⟩ = some (.slice (some ⟨b, off, none⟩) (i + m) cap) ∧ W.cell? ⟨B, 1, none⟩ = some (.int .i64 i)) ((go_split_ands; first | exact ⟨by assumption, by assumption⟩ | exact ⟨h4.c0, h4.c1⟩))
      (first | (refine step_copy rfl (.tmp 47) (.tmp 62) rfl (hS.alike rfl rfl rfl rfl) (f := f) (b := b) (off := off) (hT.alike rfl) m (by omega) (by omega) rfl ?hs ?_; (case hs => exact ⟨((i : Int) + (m : Int)).toNat - i, cap - i, ⟨b, off + i, none⟩, by simp [Act.eval], rfl, by omega⟩); intro w4 h4))
    have d0 := h4.c0
    have d1 := h4.c1
    have d2 := h4.f1
    go_wp2
    go_ret2
    exact ⟨rfl, by simpa using h4.setI (i + m)⟩
  · obtain rfl : m = k := by rw [show Nat.min (n - i) k = k from Nat.min_eq_right (by omega)] at hm; omega
    clear hm
    have hd' : (m : Int) < (n : Int) - (i : Int) := by omega
    have hd2 : (m : Int) ≤ 4096 := by omega
    have hcap' : (i : Int) + (m : Int) ≤ (cap : Int) := by omega
    have hm0 : (i : Int) ≤ (i : Int) + (m : Int) := by omega
    have hci : ¬ cap = i := by omega
    have hwr : IntKind.i64.wrap ((i : Int) + (m : Int)) = (i : Int) + (m : Int) := by rw [IntKind.wrap_i64]; omega
    go_enter Ybaf.func36, Ybaf.ntmps36
    go_wp2
    go_quiet (fail)
    go_wp2
    go_quiet (fail)
    go_wp2
    go_region_held3 (fun W => W.cell? ⟨B, 0, none⟩ = some (.slice (some ⟨b, off, none⟩) n cap) ∧ W.cell? ⟨B, 1, none⟩ = some (.int .i64 i)) ((go_split_ands; first | exact ⟨by assumption, by assumption⟩ | exact ⟨h4.c0, h4.c1⟩))
      (first | (refine step_copy rfl (.tmp 47) (.tmp 62) rfl (hS.alike rfl rfl rfl rfl) (f := f) (b := b) (off := off) (hT.alike rfl) m (by omega) (by omega) rfl ?hs ?_; (case hs => exact ⟨((i : Int) + (m : Int)).toNat - i, cap - i, ⟨b, off + i, none⟩, by simp [Act.eval], rfl, by omega⟩); intro w4 h4))
    have d0 := h4.c0
    have d1 := h4.c1
    have d2 := h4.f1
    go_wp2
    go_ret2
    exact ⟨rfl, by simpa using h4.setI (i + m)⟩
end
end Go.Proofs.YbulkcpiuFmt
