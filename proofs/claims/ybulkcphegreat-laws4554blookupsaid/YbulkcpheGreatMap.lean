/-
  The catalogue as a map from names to the blocks of its listings: what the loop of zzs4554bnode keeps.
-/
import Derived.Test.YbulkcpheGreatEntry
import Derived.Maps.OwnSet
namespace Go.Proofs.YbulkcpheGreat
open Go.RowKit Go.Maps

/-- How an element of the catalogue reads here: as the number of the block that it leads to. -/
def ptrE (v : Value) : Option (DataW Unit × List MemPlace) := match v with
  | .pointer none => some (.nil, [])
  | .pointer (some ⟨b, 0, none⟩) => some (.lit (.int .i64 b), [])
  | _ => none
theorem ptrE_nil : ptrE (.pointer none) = some (.nil, []) := rfl
theorem ptrE_mk (b : Nat) : ptrE (.pointer (some ⟨b, 0, none⟩)) = some (.lit (.int .i64 b), []) := rfl
theorem ptrE_inv {v : Value} {b : Nat} {ps : List MemPlace} (h : ptrE v = some (.lit (.int .i64 b), ps)) : v = .pointer (some ⟨b, 0, none⟩) := by
  unfold ptrE at h
  split at h
  · simp at h
  · rename_i b'
    simp only [Option.some.injEq, Prod.mk.injEq, DataW.lit.injEq, Lit.int.injEq, true_and, Int.natCast_inj] at h
    rw [h.1]
  · simp at h
theorem ptrE_nil_inv {v : Value} {ps : List MemPlace} (h : ptrE v = some (.nil, ps)) : v = .pointer none := by
  unfold ptrE at h
  split at h
  · rfl
  · simp at h
  · simp at h

def klit (s : ByteArray) : Lit := .string s.data.toList
theorem klit_ne {a b : ByteArray} (h : (a.toList == b.toList) = false) : klit b ≠ klit a := fun e => by
  simp only [klit, Lit.string.injEq] at e
  rw [ByteArray.toList_eq, ByteArray.toList_eq] at h
  simp [e] at h
theorem klit_eq {a b : ByteArray} (h : (a.toList == b.toList) = true) : klit a = klit b := by
  rw [ByteArray.toList_eq, ByteArray.toList_eq] at h
  simp only [klit, Lit.string.injEq]
  simpa using h

/-- The 42 cells of a listing. -/
def listing (x : Lk.It) : Array Value := x.entry ++ #[.int .u64 0, .map none, .map none, .bool false, .int .u64 0]

/-- What the catalogue D of the world w holds at the name. -/
def Holds (w : World) (B : Nat) (D : DataW Unit) (nm : ByteArray) : Option Lk.It → Prop
  | none => Maps.has D (klit nm) = false
  | some x => Maps.has D (klit nm) = true ∧ ∃ L : Nat, B < L ∧ D.atKey (klit nm) .nil = .lit (.int .i64 L) ∧ w.heap[L]? = some (.cells (listing x) 77 (0, 0))

theorem Holds.kept {w w' : World} {B : Nat} {D : DataW Unit} {nm : ByteArray} {o : Option Lk.It} (h : Holds w B D nm o) (hw : ∀ i, B < i → i < w.heap.size → w'.heap[i]? = w.heap[i]?) : Holds w' B D nm o := by
  cases o with
  | none => exact h
  | some x =>
    obtain ⟨h1, L, h2, h3, h4⟩ := h
    exact ⟨h1, L, h2, h3, (hw L h2 (Array.getElem?_eq_some_iff.1 h4).1).trans h4⟩

theorem Holds.step {w3 w4 : World} {B L : Nat} {D : DataW Unit} {nm : ByteArray} {x : Lk.It} {o : Option Lk.It} (hD : IsMap D) (h : Holds w3 B D nm o) (hL : w3.heap[L]? = some (.cells (listing x) 77 (0, 0))) (hBL : B < L)
    (hg : w3.grownBy w4 (some B)) : Holds w4 B (D.put (klit (Lk.nameOf x.k)) (.lit (.int .i64 L))) nm (if x.has nm = true then some x else o) := by
  have hL4 : w4.heap[L]? = some (.cells (listing x) 77 (0, 0)) := (hg.block L (Array.getElem?_eq_some_iff.1 hL).1 (fun e => by simp at e; omega)).trans hL
  cases hh : x.has nm with
  | true =>
    rw [if_pos rfl]
    have e : klit (Lk.nameOf x.k) = klit nm := klit_eq hh
    rw [e]
    have hkl : WideAt.IsKeyLit (klit nm) := trivial
    exact ⟨has_put_same hD hkl _, L, hBL, atKey_put_same hD hkl _ _, hL4⟩
  | false =>
    rw [if_neg Bool.false_ne_true]
    have hne := klit_ne (a := Lk.nameOf x.k) (b := nm) hh
    have h' := h.kept (w' := w4) (fun i hi hlt => hg.block i hlt (fun e => by simp at e; omega))
    cases o with
    | none => exact (has_put_other hne _).trans h'
    | some y =>
      obtain ⟨h1, L', h2, h3, h4⟩ := h'
      exact ⟨(has_put_other hne _).trans h1, L', h2, (atKey_put_other hne _ _).trans h3, h4⟩

theorem ownsMap_below {H : Type} {P : Program} {k : TypeId} {R : Value → Option (DataW H × List MemPlace)} {w w' : World} {b n C : Nat} {D : DataW H} (h : w.ownsMap P k R b n D) (hb : Below C w w') (hlt : b < C) : w'.ownsMap P k R b n D := by
  obtain ⟨es, clock, h1, r⟩ := h
  exact ⟨es, clock, (hb.block b hlt).trans h1, r⟩

theorem law9 : Keyed Ybaz.prog 9 := string_keyed Ybaz.underlying9
theorem zero74 (w : World) : (zeroValue 74).run Ybaz.prog w = .ok (.pointer none) w := by kernel_rfl
theorem key_of (s : ByteArray) (h : s.size ≤ 2) : keyOf Ybaz.prog 9 (.string s) = some (klit s) := WideMaps.keyOf_string_mk Ybaz.underlying9 (by unfold maxLen; omega)
theorem built77 (x : Lk.It) : Ybaz.prog.built 77 [(0, .agg x.entry)] = some (listing x) := by kernel_rfl
theorem wpl_build77 {ops : Array Oper} {rest : List Oper} {o : Oper} {a : Act} {w : World} {Q : Exit → Act → World → Prop} (hg : o.guard = none) (y : Operand) (ho : o.op = .build 77 #[(0, y)]) (x : Lk.It) (hy : a.eval y = .agg x.entry)
    (h : wpList Ybaz.prog ops Q rest (a.put o.dst (.agg (listing x))) w) : wpList Ybaz.prog ops Q (o :: rest) a w :=
  wpList_build hg 77 #[(0, y)] ho (by simp [hy, built77]) (by simpa [hy, built77] using h)
theorem entry_lit (x : Lk.It) (w : World) (h0 : 0 ≤ x.k) (h1 : x.k ≤ 255) :
    Calls Ybaz.prog 11 #[.agg #[.int .u8 x.k, .int .u64 x.n, .bool x.r, .int .u8 x.s, .int .i64 x.c, .string x.h]] w fun e w' => e = .returned (.agg x.entry) ∧ Below w.heap.size w w' :=
  entry_any x.k x.n x.r x.s x.c x.h w h0 h1
/-- What one round does to the world, ahead of the store into the map. -/
theorem round_below {wr w1 w2 : World} {o1 o2 o3 : Obj} (hb1 : Below (wr.heap.size + 1) (wr.alloc o1) w1) (hg2 : (w1.alloc o2).grownBy w2 (some w1.heap.size)) : Below wr.heap.size wr (w2.alloc o3) ∧ wr.heap.size < w2.heap.size := by
  have h1 := hb1.size
  have h2 := hg2.size
  simp at h1 h2
  refine ⟨Below.alloc ?_ (by omega) _, by omega⟩
  refine Below.grown (w := w1.alloc o2) ?_ hg2 (by simp; omega) (fun k hk => by cases hk; omega)
  exact Below.alloc (((Below.refl _ _).alloc (Nat.le_refl _) _).trans (hb1.mono (by omega))) (by omega) _
end Go.Proofs.YbulkcpheGreat
