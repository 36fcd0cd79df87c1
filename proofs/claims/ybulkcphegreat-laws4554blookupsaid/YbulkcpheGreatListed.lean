/-
  The walk of (*Node).listed.
-/
import Derived.Test.YbulkcpheGreatNode
import Derived.Defers
namespace Go.Proofs.YbulkcpheGreat
open Go.RowKit Go.Maps Go.MuLone

def optE : Option Lk.It → Array Value
  | some x => x.entry
  | none => Lk.zeroA
theorem optE_expect (nm : ByteArray) (items : List Lk.It) : optE (Lk.lastW nm items) = Lk.expect nm items := by
  unfold Lk.expect optE; cases Lk.lastW nm items <;> rfl

section
variable {ops : Array Oper} {rest : List Oper} {o : Oper} {a : Act} {w : World} {Q : Exit → Act → World → Prop}
theorem wpl_look_hit (hg : o.guard = none) (m y : Operand) (hop : o.op = Op.lookup 58 m y true) {B n L : Nat} {D : DataW Unit} (hm : a.eval m = .map (some B)) (hown : w.ownsMap Ybaz.prog 9 ptrE B n D) (nm : ByteArray) (hnm : nm.size ≤ 2) (hy : a.eval y = .string nm)
    (hhas : Maps.has D (klit nm) = true) (hat : D.atKey (klit nm) .nil = .lit (.int .i64 L)) (hK : wpList Ybaz.prog ops Q rest (a.put o.dst (.tuple #[.pointer (some ⟨L, 0, none⟩), .bool true])) w) : wpList Ybaz.prog ops Q (o :: rest) a w :=
  wpList_lookup_own_ok w hg m y 58 hop 9 74 law9 Ybaz.underlying58 ptrE (zero74 w) .nil [] ptrE_nil B n D hm hown _ (klit nm) hy (key_of nm hnm) (fun v ps hv => by
    rw [hat] at hv
    rw [ptrE_inv hv, hhas]; exact hK)
theorem wpl_look_miss (hg : o.guard = none) (m y : Operand) (hop : o.op = Op.lookup 58 m y true) {B n : Nat} {D : DataW Unit} (hm : a.eval m = .map (some B)) (hown : w.ownsMap Ybaz.prog 9 ptrE B n D) (nm : ByteArray) (hnm : nm.size ≤ 2) (hy : a.eval y = .string nm)
    (hhas : Maps.has D (klit nm) = false) (hK : wpList Ybaz.prog ops Q rest (a.put o.dst (.tuple #[.pointer none, .bool false])) w) : wpList Ybaz.prog ops Q (o :: rest) a w :=
  wpList_lookup_own_ok w hg m y 58 hop 9 74 law9 Ybaz.underlying58 ptrE (zero74 w) .nil [] ptrE_nil B n D hm hown _ (klit nm) hy (key_of nm hnm) (fun v ps hv => by
    rw [atKey_of_not_has hhas] at hv
    rw [ptrE_nil_inv hv, hhas]; exact hK)
theorem range_listing {x : Lk.It} {L : Nat} (hL : w.heap[L]? = some (.cells (listing x) 77 (0, 0))) : w.rangeAt L 0 x.entry.toList := fun j v hv => by
  rw [Nat.zero_add, cell_of_row w L j _ _ _ hL]
  have hj : j < x.entry.size := by
    have := (List.getElem?_eq_some_iff.1 hv).1
    simpa using this
  unfold listing
  rw [Array.getElem?_append_left hj]
  simpa using hv
theorem wpl_load_listing (hgd : o.guard = none) (y : Operand) (ho : o.op = .load 32 y) (L : Nat) (hx : a.eval y = .pointer (some ⟨L, 0, none⟩)) (x : Lk.It) (hL : w.heap[L]? = some (.cells (listing x) 77 (0, 0)))
    (h : wpList Ybaz.prog ops Q rest (a.put o.dst (.agg x.entry)) w) : wpList Ybaz.prog ops Q (o :: rest) a w :=
  wpList_load_mid hgd 32 y ho L 0 hx x.entry.toList _ (range_listing hL) Ybaz.underlying32 rfl (by rw [size32]; rfl) h
end

section
variable {w w2 : World} {N B : Nat} {o : Obj}
theorem lock_heap (hN : w.heap[N]? = some (.cells (nodeA B) 72 (0, 0))) : ((w.alloc o).setCell ⟨N, 14, none⟩ (.int .i32 1)).heap[N]? = some (.cells ((nodeA B).setIfInBounds 14 (.int .i32 1)) 72 (0, 0)) :=
  heap_setCell_same _ _ _ _ _ _ ((Below.heap_alloc _ _ _ (Array.getElem?_eq_some_iff.1 hN).1).trans hN)
theorem lock_cell (hN : w.heap[N]? = some (.cells (nodeA B) 72 (0, 0))) (hg : ((w.alloc o).setCell ⟨N, 14, none⟩ (.int .i32 1)).grownBy w2 (some w.heap.size)) :
    w2.heap[N]? = some (.cells ((nodeA B).setIfInBounds 14 (.int .i32 1)) 72 (0, 0)) := by
  have hlt := (Array.getElem?_eq_some_iff.1 hN).1
  have h := lock_heap (o := o) hN
  exact (hg.block N (Array.getElem?_eq_some_iff.1 h).1 (fun e => by simp at e; omega)).trans h
theorem unlock_below (hN : w.heap[N]? = some (.cells (nodeA B) 72 (0, 0))) (hg : ((w.alloc o).setCell ⟨N, 14, none⟩ (.int .i32 1)).grownBy w2 (some w.heap.size)) :
    Below w.heap.size w (w2.setCell ⟨N, 14, none⟩ (.int .i32 0)) := by
  have hlt := (Array.getElem?_eq_some_iff.1 hN).1
  have hs := hg.size
  simp [World.setCell] at hs
  refine ⟨hg.os, hg.tape, hg.output, by simp [World.setCell]; omega, fun i hi => ?_⟩
  by_cases e : i = N
  · subst e
    rw [heap_setCell_same _ _ _ _ _ _ (lock_cell hN hg), hN]
    rfl
  · rw [heap_setCell_other _ _ _ _ e, hg.block i (by simp [World.setCell]; omega) (fun h => by simp at h; omega), heap_setCell_other _ _ _ _ e, Below.heap_alloc _ _ _ hi]
end

/-- The world behind the lock, under a name. -/
def Lkd (w w1 : World) (N : Nat) : Prop := w1 = (w.alloc (.cells Lk.zeroA 32)).setCell ⟨N, 14, none⟩ (.int .i32 1)

set_option maxRecDepth 100000 in
set_option maxHeartbeats 800000 in
theorem listed_any (N B n : Nat) (D : DataW Unit) (nm : ByteArray) (hnm : nm.size ≤ 2) (o : Option Lk.It) (w : World) (hBN : B ≠ N) (hN : w.heap[N]? = some (.cells (nodeA B) 72 (0, 0))) (hown : w.ownsMap Ybaz.prog 9 ptrE B n D) (hH : Holds w B D nm o) :
    Calls Ybaz.prog 7 #[.pointer (some ⟨N, 0, none⟩), .string nm] w fun e w' => e = .returned (.agg (optE o)) ∧ Below w.heap.size w w' := by
  have hlt : N < w.heap.size := (Array.getElem?_eq_some_iff.1 hN).1
  have hNA : ∀ ob, (w.alloc ob).heap[N]? = some (.cells (nodeA B) 72 (0, 0)) := fun ob => (Below.heap_alloc _ _ _ hlt).trans hN
  have c14 : ∀ ob, (w.alloc ob).cell? ⟨N, 14, none⟩ = some (.int .i32 0) := fun ob => cell_of_row _ _ 14 _ _ _ (hNA ob)
  have f14 : ∀ ob, (w.alloc ob).frozen? ⟨N, 14, none⟩ = false := fun ob => frozen_of_row _ _ 14 _ _ (hNA ob)
  have c16 : ∀ w1, Lkd w w1 N → w1.cell? ⟨N, 16, none⟩ = some (.map (some B)) := fun w1 h => by
    rw [h]; exact cell_of_row _ _ 16 _ _ _ (lock_heap hN)
  have hown1 : ∀ w1, Lkd w w1 N → w1.ownsMap Ybaz.prog 9 ptrE B n D := fun w1 h => by
    rw [h]; exact (hown.alloc _).setCell (a := ⟨N, 14, none⟩) hBN _
  have hzR : ∀ w1, Lkd w w1 N → w1.heap[w.heap.size]? = some (.cells Lk.zeroA 32 (0, 0)) := fun w1 h => by
    rw [h]; exact (heap_setCell_other _ _ _ _ (by show w.heap.size ≠ N; omega)).trans (heap_alloc_new _ _)
  have fin : ∀ (w2 : World) (cs : Array Value), cs.size = 37 → w2.heap[w.heap.size]? = some (.cells cs 32 (0, 0)) → (w2.setCell ⟨N, 14, none⟩ (.int .i32 0)).heap[w.heap.size]? = some (.cells cs 32 (0, 0)) := fun w2 cs _ h =>
    (heap_setCell_other _ _ _ _ (by show w.heap.size ≠ N; omega)).trans h
  cases o with
  | none =>
    have hhas : Maps.has D (klit nm) = false := hH
    clear hH hNA hown
    go_enter_defers Ybaz.func7, Ybaz.ntmps7
    go_wp2_with (first
      | (go_at_call 12; refine (lock_free muLib ⟨N, 14, none⟩ _ (c14 _) (f14 _)).mono ?_; rintro e w1 ⟨rfl, hw1⟩; have HW : Lkd w w1 N := hw1; clear hw1; have d16 := c16 w1 HW)
      | (at_lookup; refine wpl_look_miss rfl _ _ rfl rfl (hown1 _ HW) nm hnm rfl hhas ?_)
      | (refine wpl_store32 rfl (.tmp 4) (.tmp 28) rfl w.heap.size Lk.zeroA rfl rfl Lk.zeroA (hzR _ HW) rfl rfl zeroA_one ?_; intro w2 hz2 hg2))
    rw [HW] at hg2
    refine leaves_cons (f := 9) (args := #[.pointer (some ⟨N, 14, none⟩)]) (by simp) (by simp [go_sem]) ?_
    refine (unlock_deferred muLib ⟨N, 14, none⟩ .returning _ ?_ ?_).mono ?_
    · exact cell_of_row _ _ 14 _ _ _ (lock_cell hN hg2)
    · exact frozen_of_row _ _ 14 _ _ (lock_cell hN hg2)
    rintro e u' w'' ⟨rfl, rfl, rfl⟩
    exact ⟨_, res32_row _ _ w.heap.size _ rfl rfl rfl (fin _ _ rfl hz2), rfl, unlock_below hN hg2⟩
  | some x =>
    obtain ⟨hhas, L, hBL, hat, hL⟩ := hH
    have hLN : L ≠ N := fun e => by
      rw [e, hN] at hL; simp at hL
    have hL1 : ∀ w1, Lkd w w1 N → w1.heap[L]? = some (.cells (listing x) 77 (0, 0)) := fun w1 h => by
      rw [h]; exact (heap_setCell_other _ _ _ _ hLN).trans ((Below.heap_alloc _ _ _ (Array.getElem?_eq_some_iff.1 hL).1).trans hL)
    have Hat : Hid (D.atKey (klit nm) .nil = .lit (.int .i64 L)) := hat
    clear hNA hown hat
    go_enter_defers Ybaz.func7, Ybaz.ntmps7
    go_wp2_with (first
      | (go_at_call 12; refine (lock_free muLib ⟨N, 14, none⟩ _ (c14 _) (f14 _)).mono ?_; rintro e w1 ⟨rfl, hw1⟩; have HW : Lkd w w1 N := hw1; clear hw1; have d16 := c16 w1 HW)
      | (at_lookup; refine wpl_look_hit rfl _ _ rfl rfl (hown1 _ HW) nm hnm rfl hhas Hat.out ?_)
      | (refine wpl_load_listing rfl (.tmp 26) rfl L rfl x (hL1 _ HW) ?_)
      | (refine wpl_store32 rfl (.tmp 4) (.tmp 27) rfl w.heap.size x.entry rfl rfl Lk.zeroA (hzR _ HW) rfl rfl (entry_one x) ?_; intro w2 hz2 hg2))
    rw [HW] at hg2
    refine leaves_cons (f := 9) (args := #[.pointer (some ⟨N, 14, none⟩)]) (by simp) (by simp [go_sem]) ?_
    refine (unlock_deferred muLib ⟨N, 14, none⟩ .returning _ ?_ ?_).mono ?_
    · exact cell_of_row _ _ 14 _ _ _ (lock_cell hN hg2)
    · exact frozen_of_row _ _ 14 _ _ (lock_cell hN hg2)
    rintro e u' w'' ⟨rfl, rfl, rfl⟩
    exact ⟨_, res32_row _ _ w.heap.size _ rfl rfl rfl (fin _ _ rfl hz2), rfl, unlock_below hN hg2⟩
end Go.Proofs.YbulkcpheGreat
