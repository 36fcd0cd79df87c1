/-
  fmt.Errorf at "reading line %d: %w" over an int and an error of errors.New's make: the closed facts (after the guide's GuardFmt), and the walk of readError at an error that is not io.EOF.
-/
import Derived.Test.YbulkcpiuFmtEof
import Derived.Stop.CallBack
import Derived.Stop.IfaceNil
import Derived.RowKitTokens
import Derived.Tactics
import Derived.Tactics2
namespace Go.Proofs.YbulkcpiuFmt
open Go.RowKit Go.Deep Go.Extern.Stop Go.Stop Go.Extern
set_option linter.unusedVariables false

theorem fCall20 (args : Array Value) (w : World) : (callFunc 20 args).run Ybaf.prog w = ((FmtStop.errorf #[9, 70] #[25] args).run Ybaf.prog w).andThen fun v w' => .ok (.value v) w' :=
  run_callFunc_extern Ybaf.func20 (by kernel_rfl) (by kernel_rfl) (by kernel_rfl) (by kernel_rfl) args w
theorem fGuard (name : String) (w : World) : (FmtStop.guard name).run Ybaf.prog w = .ok () w := by kernel_rfl
/-- "reading line %d: %w" -/
def fmtL : List UInt8 := [114, 101, 97, 100, 105, 110, 103, 32, 108, 105, 110, 101, 32, 37, 100, 58, 32, 37, 119]
theorem fFmt : FmtStop.printed? ⟨#[114, 101, 97, 100, 105, 110, 103, 32, 108, 105, 110, 101, 32, 37, 100, 58, 32, 37, 119]⟩ 2 = some [(0, 100, false), (1, 119, false)] := by kernel_rfl
theorem fFmtr (w : World) : (FmtDoors.printed ⟨#[114, 101, 97, 100, 105, 110, 103, 32, 108, 105, 110, 101, 32, 37, 100, 58, 32, 37, 119]⟩ 2).run Ybaf.prog w = .ok [(0, 100, false), (1, 119, false)] w := by kernel_rfl
def shape3 : List UInt8 := [5, 3, 0, 0, 0, 0, 0, 0, 0, 105, 110, 116]
theorem fOp3 (name : String) (x : Int) (w : World) : (FmtStop.operand name true 100 false (.iface 3 (.int .i64 x))).run Ybaf.prog w = .ok (shape3, Go.Extern.Stop.digits 8 (x % 2 ^ 64).toNat) w := by kernel_rfl
def plain44 : List UInt8 := 14 :: FmtStop.pack "*errors.errorString".toUTF8.data.toList
theorem fOpPlain (name : String) (a : Addr) (s : ByteArray) (w : World) (hc : w.cell? a = some (.string s)) :
    (FmtStop.operand name true 119 false (.iface 44 (.pointer (some a)))).run Ybaf.prog w = .ok (plain44, s.data.toList) w := by
  have h1 : (typeStr 44).run Ybaf.prog w = .ok "*errors.errorString" w := by kernel_rfl
  have d2 : Ybaf.t44.desc = .pointer 46 := rfl
  have d3 : Ybaf.t46.desc = .named "errors.errorString" 45 := rfl
  simp [FmtStop.operand, h1, d2, d3, run_load, hc, plain44]
theorem fIsError44 (w : World) : (FmtDoors.textMethod 44 "Error").run Ybaf.prog w = .ok true w := by kernel_rfl
theorem fPtr71 (w : World) : (FmtStop.ptrTo "fmt.wrapError").run Ybaf.prog w = .ok 71 w := by kernel_rfl
theorem fElem71 (w : World) : (elemOf 71).run Ybaf.prog w = .ok 98 w := by kernel_rfl
theorem fIsError71 (w : World) : (FmtDoors.textMethod 71 "Error").run Ybaf.prog w = .ok true w := by kernel_rfl
theorem fNeq71 (a : Addr) (w : World) : (binOp .neq 25 (.iface 71 (.pointer (some a))) .nilIface).run Ybaf.prog w = .ok (.bool true) w := by kernel_rfl

theorem eql_other (a b : Addr) (ca cb : Array Value) (ta tb : TypeId) (w : World) (hne : a ≠ b) (ha : w.heap[a.block]? = some (.cells ca ta (0, 0))) (hb : w.heap[b.block]? = some (.cells cb tb (0, 0))) :
    (binOp .eql 25 (.iface 44 (.pointer (some a))) (.iface 44 (.pointer (some b)))).run Ybaf.prog w = .ok (.bool false) w := by
  obtain ⟨i, hi, hc⟩ := info44
  obtain ⟨j, hj, hs⟩ := info46
  exact run_eql_iface_ptr_other w Ybaf.underlying25 Ybaf.underlying44 hi hc hj hs hne ha hb

set_option maxRecDepth 100000 in
set_option maxHeartbeats 1600000 in
/-- readError at an error that is not io.EOF: a new *fmt.wrapError around it. -/
theorem readError_wrap (F : Interp) (w : World) (rb : Nat) (line : Int) (fa ea : Addr) (s : ByteArray) (hF : F.answers w.tape)
    (hl : w.cell? ⟨rb, 1, none⟩ = some (.int .i64 line)) (hg : w.cell? ⟨0, 0, none⟩ = some (.iface 44 (.pointer (some ea))))
    (hq : (binOp .eql 25 (.iface 44 (.pointer (some fa))) (.iface 44 (.pointer (some ea)))).run Ybaf.prog w = .ok (.bool false) w)
    (hs : (w.alloc (.cells #[.iface 3 (.int .i64 line), .iface 44 (.pointer (some fa))] 20)).cell? fa = some (.string s)) :
    Calls Ybaf.prog 13 #[.pointer (some ⟨rb, 0, none⟩), .iface 44 (.pointer (some fa))] w fun e w' => e = .returned (.iface 71 (.pointer (some ⟨w.heap.size + 1, 0, none⟩))) ∧
      ∃ t, w' = ((w.alloc (.cells #[.iface 3 (.int .i64 line), .iface 44 (.pointer (some fa))] 20)).alloc (.cells #[.string t, .iface 44 (.pointer (some fa))] 98)).drew := by
  have hF' : ∀ i name reading k range, w.tape i (.extern (word name reading k) range) = F name reading k := hF
  have hop := fOpPlain "fmt.errorf" fa s _ hs
  have k1 := fCall20
  have k2 := fGuard
  have k3 := fFmt
  have k4 := fFmtr
  have k5 := fOp3
  have k6 := fIsError44
  have k7 := fPtr71
  have k8 := fElem71
  have k9 := fIsError71
  go_enter Ybaf.func13, Ybaf.ntmps13
  go_wp2
  go_ret
  exact ⟨rfl, _, rfl⟩

section
variable {w0 w : World} {B : Nat} {ao : Option Addr} {n cap k : Nat} {ev : Value} {line : Int} {f : Nat → Int} {p : Nat}
theorem Pos.alloc (h : Pos w0 w B ao n cap k ev f line p) (o : Obj) : Pos w0 (w.alloc o) B ao n cap k ev f line p := by
  obtain ⟨i, r, wd, X, ⟨h1, ⟨l5, l6, h2⟩, h3, h4, h5⟩, rest⟩ := h
  exact ⟨i, r, wd, X, ⟨h1.alloc o, ⟨l5, l6, h2.alloc o⟩, h3.alloc o, h4.alloc o, h5.alloc (Nat.le_of_lt h1.lt) o⟩, rest⟩
theorem Pos.lt (h : Pos w0 w B ao n cap k ev f line p) : B < w.heap.size := by
  obtain ⟨i, r, wd, X, h, _⟩ := h
  exact h.src.lt

set_option maxRecDepth 100000 in
set_option maxHeartbeats 1600000 in
/-- read where the source has failed. -/
theorem read_fail (F : Interp) (fa ea : Addr) (s : ByteArray) (cf ce : Array Value) (tf te : TypeId) (hF : F.answers w0.tape) (hP : Pos w0 w B ao n cap k (.iface 44 (.pointer (some fa))) f line n) (hn : n ≤ 10000) (hB : 0 < B)
    (hg : w0.cell? ⟨0, 0, none⟩ = some (.iface 44 (.pointer (some ea)))) (hne : fa ≠ ea) (hfB : fa.block < B) (heB : ea.block < B)
    (hf : w0.heap[fa.block]? = some (.cells cf tf (0, 0))) (he : w0.heap[ea.block]? = some (.cells ce te (0, 0))) (hs : w0.cell? fa = some (.string s)) :
    Calls Ybaf.prog 8 #[.pointer (some ⟨B + 3, 0, none⟩)] w fun e w' => ∃ w5 t, e = .returned (.tuple #[.int .u8 0, .iface 71 (.pointer (some ⟨w5.heap.size + 1, 0, none⟩))]) ∧ Pos w0 w5 B ao n cap k (.iface 44 (.pointer (some fa))) f line n ∧
      w' = ((w5.alloc (.cells #[.iface 3 (.int .i64 line), .iface 44 (.pointer (some fa))] 20)).alloc (.cells #[.string t, .iface 44 (.pointer (some fa))] 98)).drew := by
  have e0 := hP.e0
  go_enter Ybaf.func8, Ybaf.ntmps8
  go_wp2_with fail
  refine (byte_end fa f hP hn).mono ?_
  rintro e w5 ⟨rfl, h5⟩
  have g5 : w5.cell? ⟨0, 0, none⟩ = some (.iface 44 (.pointer (some ea))) := (h5.bel.cell (p := ⟨0, 0, none⟩) hB).trans hg
  have hq := eql_other fa ea cf ce tf te w5 hne ((h5.bel.block _ hfB).trans hf) ((h5.bel.block _ heB).trans he)
  have hlt := h5.lt
  have hs5 : ∀ o, (w5.alloc o).cell? fa = some (.string s) := fun o => ((Below.refl _ w5).alloc (Nat.le_refl _) o).cell (p := fa) (by omega) |>.trans ((h5.bel.cell (p := fa) hfB).trans hs)
  go_wp2_with fail
  refine (readError_wrap F w5 (B + 3) line fa ea s (by rw [h5.bel.tape]; exact hF) h5.e1 g5 hq (hs5 _)).mono ?_
  rintro e w6 ⟨rfl, t, hw⟩
  go_wp2
  go_ret2
  exact ⟨w5, t, rfl, h5, rfl⟩
end
end Go.Proofs.YbulkcpiuFmt
