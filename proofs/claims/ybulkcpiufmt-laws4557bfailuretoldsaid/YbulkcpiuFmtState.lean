/-
  What the walks over the source, the buffered reader and the ednReader are told of the memory: four blocks of the call's own.
-/
import Derived.Test.YbulkcpiuFmtRows
import Derived.WalkKit
import Derived.WalkSpells
import Derived.WalkLawsBesides
import Derived.BigQuiet
import Derived.Deep.OwnRows
import Derived.Laws.CopyOwn
import Derived.Laws.IdiomCopy
import Derived.Deep.RegionLaw
import Derived.LaidEql
namespace Go.Proofs.YbulkcpiuFmt
open Go.RowKit Go.Deep
set_option linter.unusedVariables false

theorem wp_name {P : Program} {c : Code} {Q : Exit → Act → World → Prop} {a : Act} {w : World} (F : World → Prop) (h0 : F w) (h : ∀ W, F W → Code.wp P c Q a W) : Code.wp P c Q a w := h w h0

/-- n bytes that came in: byte j is f j. -/
structure Text (w : World) (ao : Option Addr) (n b off : Nat) (f : Nat → Int) : Prop where
  at' : 0 < n → ao = some ⟨b, off, none⟩
  cell : ∀ j, j < n → w.cell? ⟨b, off + j, none⟩ = some (.int .u8 (f j))
  lo : ∀ j, j < n → 0 ≤ f j
  hi : ∀ j, j < n → f j ≤ 255
theorem Text.keep {w0 w : World} {B : Nat} {ao : Option Addr} {n b off : Nat} {f : Nat → Int} (h : Text w0 ao n b off f) (hB : B = w0.heap.size) (hb : Below B w0 w) : Text w ao n b off f :=
  ⟨h.at', fun j hj => (hb.cell (p := ⟨b, off + j, none⟩) (by subst hB; exact World.block_lt_of_cell? w0 _ (h.cell j hj))).trans (h.cell j hj), h.lo, h.hi⟩

def srcF (ao : Option Addr) (n cap k i : Nat) (ev : Value) : Nat → Value
  | 0 => .slice ao n cap
  | 1 => .int .i64 i
  | 2 => .int .i64 k
  | _ => ev
def rdF (B r wd : Nat) (er l5 l6 : Value) : Nat → Value
  | 0 => .slice (some ⟨B + 2, 0, none⟩) 4096 4096
  | 1 => .iface 23 (.pointer (some ⟨B, 0, none⟩))
  | 2 => .int .i64 r
  | 3 => .int .i64 wd
  | 4 => er
  | 5 => l5
  | _ => l6
def ednF (B : Nat) (line : Int) : Nat → Value
  | 0 => .pointer (some ⟨B + 1, 0, none⟩)
  | 1 => .int .i64 line
  | _ => .slice none 0 0

/-- Block B the source, B + 1 the buffered reader, B + 2 its 4096 bytes, B + 3 the ednReader; what lay below B is as in w0. -/
structure St (w0 w : World) (B : Nat) (ao : Option Addr) (n cap k : Nat) (ev : Value) (i r wd : Nat) (er : Value) (X : Nat → Value) (line : Int) : Prop where
  src : w.rowIs B 27 4 (srcF ao n cap k i ev)
  rd : ∃ l5 l6, w.rowIs (B + 1) 54 7 (rdF B r wd er l5 l6)
  buf : w.rowIs (B + 2) 5 4096 X
  edn : w.rowIs (B + 3) 32 4 (ednF B line)
  bel : Below B w0 w

section
variable {w0 w : World} {B : Nat} {ao : Option Addr} {n cap k : Nat} {ev : Value} {i r wd : Nat} {er : Value} {X : Nat → Value} {line : Int}
theorem St.drewN (h : St w0 w B ao n cap k ev i r wd er X line) (q : Nat) : St w0 (w.drewN q) B ao n cap k ev i r wd er X line := by
  obtain ⟨h1, ⟨l5, l6, h2⟩, h3, h4, h5⟩ := h
  exact ⟨h1, ⟨l5, l6, h2⟩, h3, h4, ⟨h5.os, h5.tape, h5.output, h5.size, h5.block⟩⟩
theorem St.alike {w' : World} (h : St w0 w B ao n cap k ev i r wd er X line) (e1 : w'.heap = w.heap) (e2 : w'.os = w.os) (e3 : w'.tape = w.tape) (e4 : w'.output = w.output) : St w0 w' B ao n cap k ev i r wd er X line := by
  obtain ⟨h1, ⟨l5, l6, h2⟩, h3, h4, h5⟩ := h
  exact ⟨h1.of_block (by rw [e1]), ⟨l5, l6, h2.of_block (by rw [e1])⟩, h3.of_block (by rw [e1]), h4.of_block (by rw [e1]), ⟨e2.trans h5.os, e3.trans h5.tape, e4.trans h5.output, by rw [e1]; exact h5.size, fun j hj => by rw [e1]; exact h5.block j hj⟩⟩
theorem Text.alike {w' : World} {f : Nat → Int} {b off : Nat} (h : Text w ao n b off f) (e1 : w'.heap = w.heap) : Text w' ao n b off f := ⟨h.at', fun j hj => by simpa [World.cell?, e1] using h.cell j hj, h.lo, h.hi⟩
theorem Text.drewN {f : Nat → Int} {b off : Nat} (h : Text w ao n b off f) (q : Nat) : Text (w.drewN q) ao n b off f := h.alike rfl
theorem St.c0 (h : St w0 w B ao n cap k ev i r wd er X line) : w.cell? ⟨B, 0, none⟩ = some (.slice ao n cap) := h.src.cell (i := 0) (by decide)
theorem St.c1 (h : St w0 w B ao n cap k ev i r wd er X line) : w.cell? ⟨B, 1, none⟩ = some (.int .i64 i) := h.src.cell (i := 1) (by decide)
theorem St.c2 (h : St w0 w B ao n cap k ev i r wd er X line) : w.cell? ⟨B, 2, none⟩ = some (.int .i64 k) := h.src.cell (i := 2) (by decide)
theorem St.c3 (h : St w0 w B ao n cap k ev i r wd er X line) : w.cell? ⟨B, 3, none⟩ = some ev := h.src.cell (i := 3) (by decide)
theorem St.f1 (h : St w0 w B ao n cap k ev i r wd er X line) : w.frozen? ⟨B, 1, none⟩ = false := h.src.frozen 1
theorem St.r0 (h : St w0 w B ao n cap k ev i r wd er X line) : w.cell? ⟨B + 1, 0, none⟩ = some (.slice (some ⟨B + 2, 0, none⟩) 4096 4096) := by
  obtain ⟨_, _, h2⟩ := h.rd; exact h2.cell (i := 0) (by decide)
theorem St.r1 (h : St w0 w B ao n cap k ev i r wd er X line) : w.cell? ⟨B + 1, 1, none⟩ = some (.iface 23 (.pointer (some ⟨B, 0, none⟩))) := by
  obtain ⟨_, _, h2⟩ := h.rd; exact h2.cell (i := 1) (by decide)
theorem St.r2 (h : St w0 w B ao n cap k ev i r wd er X line) : w.cell? ⟨B + 1, 2, none⟩ = some (.int .i64 r) := by
  obtain ⟨_, _, h2⟩ := h.rd; exact h2.cell (i := 2) (by decide)
theorem St.r3 (h : St w0 w B ao n cap k ev i r wd er X line) : w.cell? ⟨B + 1, 3, none⟩ = some (.int .i64 wd) := by
  obtain ⟨_, _, h2⟩ := h.rd; exact h2.cell (i := 3) (by decide)
theorem St.r4 (h : St w0 w B ao n cap k ev i r wd er X line) : w.cell? ⟨B + 1, 4, none⟩ = some er := by
  obtain ⟨_, _, h2⟩ := h.rd; exact h2.cell (i := 4) (by decide)
theorem St.r5 (h : St w0 w B ao n cap k ev i r wd er X line) : ∃ v, w.cell? ⟨B + 1, 5, none⟩ = some v := by
  obtain ⟨l5, _, h2⟩ := h.rd; exact ⟨l5, h2.cell (i := 5) (by decide)⟩
theorem St.r6 (h : St w0 w B ao n cap k ev i r wd er X line) : ∃ v, w.cell? ⟨B + 1, 6, none⟩ = some v := by
  obtain ⟨_, l6, h2⟩ := h.rd; exact ⟨l6, h2.cell (i := 6) (by decide)⟩
theorem St.fr (h : St w0 w B ao n cap k ev i r wd er X line) (j : Nat) : w.frozen? ⟨B + 1, j, none⟩ = false := by
  obtain ⟨_, _, h2⟩ := h.rd; exact h2.frozen j
theorem St.e0 (h : St w0 w B ao n cap k ev i r wd er X line) : w.cell? ⟨B + 3, 0, none⟩ = some (.pointer (some ⟨B + 1, 0, none⟩)) := h.edn.cell (i := 0) (by decide)
theorem St.e1 (h : St w0 w B ao n cap k ev i r wd er X line) : w.cell? ⟨B + 3, 1, none⟩ = some (.int .i64 line) := h.edn.cell (i := 1) (by decide)
theorem St.fe (h : St w0 w B ao n cap k ev i r wd er X line) : w.frozen? ⟨B + 3, 1, none⟩ = false := h.edn.frozen 1

theorem lt4 {F G : Nat → Value} (h0 : F 0 = G 0) (h1 : F 1 = G 1) (h2 : F 2 = G 2) (h3 : F 3 = G 3) : ∀ j, j < 4 → F j = G j
  | 0, _ => h0 | 1, _ => h1 | 2, _ => h2 | 3, _ => h3 | j + 4, h => by omega
theorem lt7 {F G : Nat → Value} (h0 : F 0 = G 0) (h1 : F 1 = G 1) (h2 : F 2 = G 2) (h3 : F 3 = G 3) (h4 : F 4 = G 4) (h5 : F 5 = G 5) (h6 : F 6 = G 6) : ∀ j, j < 7 → F j = G j
  | 0, _ => h0 | 1, _ => h1 | 2, _ => h2 | 3, _ => h3 | 4, _ => h4 | 5, _ => h5 | 6, _ => h6 | j + 7, h => by omega

/-- The source's count is turned. -/
theorem St.setI (h : St w0 w B ao n cap k ev i r wd er X line) (i' : Nat) : St w0 (w.setCell ⟨B, 1, none⟩ (.int .i64 i')) B ao n cap k ev i' r wd er X line := by
  obtain ⟨h1, ⟨l5, l6, h2⟩, h3, h4, h5⟩ := h
  exact ⟨(h1.set 1 _).congr (lt4 rfl rfl rfl rfl), ⟨l5, l6, h2.setOther (by simp) _⟩, h3.setOther (by simp) _, h4.setOther (by simp) _, h5.setCell (Nat.le_refl _) _⟩
theorem St.setR (h : St w0 w B ao n cap k ev i r wd er X line) (r' : Nat) : St w0 (w.setCell ⟨B + 1, 2, none⟩ (.int .i64 r')) B ao n cap k ev i r' wd er X line := by
  obtain ⟨h1, ⟨l5, l6, h2⟩, h3, h4, h5⟩ := h
  exact ⟨h1.setOther (by simp) _, ⟨l5, l6, (h2.set 2 _).congr (lt7 rfl rfl rfl rfl rfl rfl rfl)⟩, h3.setOther (by simp) _, h4.setOther (by simp) _, h5.setCell (by simp) _⟩
theorem St.setW (h : St w0 w B ao n cap k ev i r wd er X line) (wd' : Nat) : St w0 (w.setCell ⟨B + 1, 3, none⟩ (.int .i64 wd')) B ao n cap k ev i r wd' er X line := by
  obtain ⟨h1, ⟨l5, l6, h2⟩, h3, h4, h5⟩ := h
  exact ⟨h1.setOther (by simp) _, ⟨l5, l6, (h2.set 3 _).congr (lt7 rfl rfl rfl rfl rfl rfl rfl)⟩, h3.setOther (by simp) _, h4.setOther (by simp) _, h5.setCell (by simp) _⟩
theorem St.setErr (h : St w0 w B ao n cap k ev i r wd er X line) (v : Value) : St w0 (w.setCell ⟨B + 1, 4, none⟩ v) B ao n cap k ev i r wd v X line := by
  obtain ⟨h1, ⟨l5, l6, h2⟩, h3, h4, h5⟩ := h
  exact ⟨h1.setOther (by simp) _, ⟨l5, l6, (h2.set 4 _).congr (lt7 rfl rfl rfl rfl rfl rfl rfl)⟩, h3.setOther (by simp) _, h4.setOther (by simp) _, h5.setCell (by simp) _⟩
theorem St.set5 (h : St w0 w B ao n cap k ev i r wd er X line) (v : Value) : St w0 (w.setCell ⟨B + 1, 5, none⟩ v) B ao n cap k ev i r wd er X line := by
  obtain ⟨h1, ⟨l5, l6, h2⟩, h3, h4, h5⟩ := h
  exact ⟨h1.setOther (by simp) _, ⟨v, l6, (h2.set 5 _).congr (lt7 rfl rfl rfl rfl rfl rfl rfl)⟩, h3.setOther (by simp) _, h4.setOther (by simp) _, h5.setCell (by simp) _⟩
theorem St.set6 (h : St w0 w B ao n cap k ev i r wd er X line) (v : Value) : St w0 (w.setCell ⟨B + 1, 6, none⟩ v) B ao n cap k ev i r wd er X line := by
  obtain ⟨h1, ⟨l5, l6, h2⟩, h3, h4, h5⟩ := h
  exact ⟨h1.setOther (by simp) _, ⟨l5, v, (h2.set 6 _).congr (lt7 rfl rfl rfl rfl rfl rfl rfl)⟩, h3.setOther (by simp) _, h4.setOther (by simp) _, h5.setCell (by simp) _⟩
theorem St.setLine (h : St w0 w B ao n cap k ev i r wd er X line) (l' : Int) : St w0 (w.setCell ⟨B + 3, 1, none⟩ (.int .i64 l')) B ao n cap k ev i r wd er X l' := by
  obtain ⟨h1, ⟨l5, l6, h2⟩, h3, h4, h5⟩ := h
  exact ⟨h1.setOther (by simp) _, ⟨l5, l6, h2.setOther (by simp) _⟩, h3.setOther (by simp) _, (h4.set 1 _).congr (lt4 rfl rfl rfl rfl), h5.setCell (by simp) _⟩

/-- m bytes laid over the buffer's head. -/
def overF (f : Nat → Int) (i m : Nat) (X : Nat → Value) (j : Nat) : Value := if j < m then .int .u8 (f (i + j)) else X j
theorem St.copied (h : St w0 w B ao n cap k ev i r wd er X line) (f : Nat → Int) (m : Nat) (hm : m ≤ 4096) (cur : Array Value) (hcur : w.heap[B + 2]? = some (.cells cur 5 (0, 0))) :
    St w0 (w.setRow (B + 2) (cur.toList.take 0 ++ ((List.range m).map fun j => Value.int .u8 (f (i + j))) ++ cur.toList.drop (0 + ((List.range m).map fun j => Value.int .u8 (f (i + j))).length)).toArray) B ao n cap k ev i r wd er (overF f i m X) line := by
  obtain ⟨h1, ⟨l5, l6, h2⟩, h3, h4, h5⟩ := h
  refine ⟨h1.of_block (setRow_other _ _ _ _ (by omega)), ⟨l5, l6, h2.of_block (setRow_other _ _ _ _ (by omega))⟩, ?_, h4.of_block (setRow_other _ _ _ _ (by omega)), below_setRow h5 (by omega) _⟩
  obtain ⟨c, hb, hn, hc⟩ := h3
  obtain rfl : cur = c := by rw [hcur] at hb; simpa using hb
  refine ⟨_, setRow_heap w (B + 2) cur _ 5 (0, 0) hcur, ?_, fun j hj => ?_⟩
  · simp; omega
  · have := hc j hj
    unfold overF
    by_cases e : j < m
    · rw [if_pos e]; simp [List.getElem?_append, e]
    · rw [if_neg e]
      simp only [List.take_zero, List.nil_append, List.length_map, List.length_range, Nat.zero_add, List.getElem?_toArray]
      rw [List.getElem?_append_right (by simp; omega)]
      simp only [List.length_map, List.length_range, List.getElem?_drop]
      rw [show m + (j - m) = j by omega]
      simpa using this
end
end Go.Proofs.YbulkcpiuFmt
