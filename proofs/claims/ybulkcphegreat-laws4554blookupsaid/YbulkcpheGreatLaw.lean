/-
  The walk of LawS4554BLookup.
-/
import Derived.Test.YbulkcpheGreatEq
import Derived.Test.YbulkcpheGreatExpect
import Derived.BigQuiet
namespace Go.Proofs.YbulkcpheGreat
open Go.RowKit Go.Maps Go.MuLone

theorem eg32 : Ybaz.prog.eqGuardType Ybaz.prog.depth 32 = false := by kernel_rfl
theorem exec_neq (a : Act) (o : Oper) (w : World) (x y : Operand) (ho : o.op = .binOp .neq 32 x y 32) (e : Option Lk.It) (hx : a.eval x = .agg (optE e)) (hy : a.eval y = .agg (optE e)) :
    (execOp a.eval o).run Ybaz.prog w = .ok (.value (.bool false)) w := by
  unfold execOp
  simp only [ho, hx, hy]
  simp [run_eqGuard_agg w .neq 32 x y _ _ eg32, neq_opt]
theorem exec_load_row (a : Act) (o : Oper) (w : World) (x : Operand) (ho : o.op = .load 32 x) (g : Nat) (cs : Array Value) (hx : a.eval x = .pointer (some ⟨g, 0, none⟩)) (hg : w.heap[g]? = some (.cells cs 32 (0, 0))) (hs : cs.size = 37) :
    (execOp a.eval o).run Ybaz.prog w = .ok (.value (.agg cs)) w := by
  unfold execOp
  simp only [ho, hx, Instr.loadAt, Instr.sureAddr, Sem.run_bind, Sem.run_pure, Result.andThen_ok, run_loadVar_row w g 32 32 cs (0, 0) _ hg Ybaz.underlying32 rfl (by rw [hs]; exact size32)]
theorem exec_load_listing (a : Act) (o : Oper) (w : World) (y : Operand) (ho : o.op = .load 32 y) (L : Nat) (x : Lk.It) (hx : a.eval y = .pointer (some ⟨L, 0, none⟩)) (hL : w.heap[L]? = some (.cells (listing x) 77 (0, 0))) :
    (execOp a.eval o).run Ybaz.prog w = .ok (.value (.agg x.entry)) w := by
  unfold execOp
  simp only [ho, hx, Instr.loadAt, Instr.sureAddr, Sem.run_bind, Sem.run_pure, Result.andThen_ok, run_loadVar_mid w L 0 32 x.entry.toList _ (range_listing hL) Ybaz.underlying32 rfl (by rw [size32]; rfl)]
theorem q_step {P : Program} {ops : Array Oper} {C : World → Prop} {Q : Act → Prop} {a : Act} {o : Oper} {rest : List Oper} (v : Value) (hw : Region.wanted o (yielded ops a.tmps) = true) (hv : ∀ w, C w → (execOp a.eval o).run P w = .ok (.value v) w)
    (h : wpQuiet P ops C Q rest (a.put o.dst v)) : wpQuiet P ops C Q (o :: rest) a :=
  wpQuiet_step fun K hK => by
    rw [if_pos hw]
    exact ⟨v, fun w hC => by unfold Oper.quietAt; rw [hv w hC]; exact ⟨rfl, rfl⟩, hK _ h⟩
theorem wpl_neq32 {ops : Array Oper} {rest : List Oper} {o : Oper} {a : Act} {w : World} {Q : Exit → Act → World → Prop} (hg : o.guard = none) (x y : Operand) (ho : o.op = .binOp .neq 32 x y 32) (e : Option Lk.It) (hx : a.eval x = .agg (optE e)) (hy : a.eval y = .agg (optE e))
    (h : wpList Ybaz.prog ops Q rest (a.put o.dst (.bool false)) w) : wpList Ybaz.prog ops Q (o :: rest) a w :=
  wpList_plain hg fun K hK => by
    unfold Oper.wp
    rw [exec_neq a o w x y ho e hx hy]
    exact hK _ _ h
theorem optE_size (e : Option Lk.It) : (optE e).size = 37 := by cases e <;> rfl
theorem optE_one (e : Option Lk.It) : (optE e).all (·.oneCell') = true := by cases e <;> first | exact zeroA_one | exact entry_one _

theorem store_below {w2 w3 : World} {o : Obj} (h : (w2.alloc o).grownBy w3 (some w2.heap.size)) : Below w2.heap.size w2 w3 :=
  ((Below.refl _ _).alloc (Nat.le_refl _) o).grown h (by simp) (fun k hk => by cases hk; exact Nat.le_refl _)
theorem store_size {w2 w3 : World} {o : Obj} (h : (w2.alloc o).grownBy w3 (some w2.heap.size)) : w2.heap.size < w3.heap.size := by
  have := h.size; simp at this; omega
theorem relock_below {w : World} {N B : Nat} (hN : w.heap[N]? = some (.cells (nodeA B) 72 (0, 0))) : Below w.heap.size w ((w.setCell ⟨N, 14, none⟩ (.int .i32 1)).setCell ⟨N, 14, none⟩ (.int .i32 0)) := by
  refine ⟨rfl, rfl, rfl, by simp [World.setCell], fun i hi => ?_⟩
  by_cases e : i = N
  · subst e
    rw [heap_setCell_same _ _ _ _ _ _ (heap_setCell_same _ _ _ _ _ _ hN), hN]
    rfl
  · rw [heap_setCell_other _ _ _ _ e, heap_setCell_other _ _ _ _ e]
theorem below_drewN {B : Nat} {w w' : World} (h : Below B w w') (n : Nat) : Below B w (w'.drewN n) := ⟨h.os, h.tape, h.output, h.size, h.block⟩

set_option maxRecDepth 100000 in
set_option maxHeartbeats 800000 in
theorem law_big (items : List Lk.It) (cap : Nat) (ao : Option Addr) (q : Int) (w : World) (hlen : 1024 < items.length) (hm : items.length ≤ maxLen) :
    Calls Ybaz.prog 3 #[.slice ao items.length cap, .int .u8 q] w fun e w' => e = .returned (.bool true) ∧ Below w.heap.size w w' := by
  unfold maxLen at hm
  go_enter Ybaz.func3, Ybaz.ntmps3
  go_wp2
  go_ret
  exact ⟨rfl, Below.refl _ _⟩

set_option maxRecDepth 100000 in
set_option maxHeartbeats 800000 in
theorem law_small (items : List Lk.It) (b off cap : Nat) (ao : Option Addr) (hao : 0 < items.length → ao = some ⟨b, off, none⟩) (q : Int) (q0 : 0 ≤ q) (q1 : q ≤ 255) (w : World) (hlen : items.length ≤ 1024)
    (hc : ∀ i, (h : i < items.length) → w.rangeAt b (off + i * 6) items[i].cells) (hk : ∀ i, (h : i < items.length) → 0 ≤ items[i].k ∧ items[i].k ≤ 255) :
    Calls Ybaz.prog 3 #[.slice ao items.length cap, .int .u8 q] w fun e w' => e = .returned (.bool true) ∧ Below w.heap.size w w' := by
  have hnm := Lk.query_size q
  go_enter Ybaz.func3, Ybaz.ntmps3
  go_wp2_with (go_at_call 4; refine (query_any _ _ q0 q1).mono ?_; rintro e w' ⟨rfl, hw⟩; have hw := hw.symm; subst hw)
  generalize Lk.queryOf q = nm at hnm
  refine (node_any items b off cap nm _ hlen ao hao hc hk).mono ?_
  rintro e w1 ⟨N, D, n, rfl, hb1, hN0, hN, hown, hH⟩
  have hc1 : ∀ i, (h : i < items.length) → w1.rangeAt b (off + i * 6) items[i].cells := fun i h j v hv =>
    (hb1.cell (p := ⟨b, off + i * 6 + j, none⟩) (World.block_lt_of_cell? w _ (hc i h j v hv))).trans (hc i h j v hv)
  go_wp2_with fail
  refine (expect_any items b off cap nm _ hlen ao hao hc1 hk).mono ?_
  rintro e w2 ⟨rfl, hb2⟩
  rw [← optE_expect]
  have hN2 := (hb2.block N (Array.getElem?_eq_some_iff.1 hN).1).trans hN
  have hsz1 : w.heap.size < w1.heap.size := Nat.lt_trans hN0 (Array.getElem?_eq_some_iff.1 hN).1
  have hown2 := ownsMap_below hown hb2 hsz1
  have hH2 := hH.kept (w' := w2) (fun i _ hi => hb2.block i hi)
  have hb12 : Below w.heap.size w w2 := hb1.trans (hb2.mono (by omega))
  have hsz2 := hb2.size
  generalize Lk.lastW nm items = o at hH2
  clear hN hown hH hc1 hc hk hao hb1 hb2
  go_wp2_with (refine wpl_store32 rfl (.tmp 7) (.tmp 20) rfl _ (optE o) rfl rfl Lk.zeroA (heap_alloc_new _ _) rfl (optE_size o) (optE_one o) ?_; intro w3 hz3 hg3)
  have hb3 := store_below hg3
  have hs3 := store_size hg3
  clear hg3
  have hN3 := (hb3.block N (Array.getElem?_eq_some_iff.1 hN2).1).trans hN2
  have hown3 := ownsMap_below hown2 hb3 (by omega)
  have hH3 := hH2.kept (w' := w3) (fun i _ hi => hb3.block i hi)
  refine (listed_any N w.heap.size n D nm hnm o w3 (by omega) hN3 hown3 hH3).mono ?_
  rintro e w4 ⟨rfl, hb4⟩
  go_wp2_with (first
    | (refine wpl_store32 rfl (.tmp 8) (.tmp 23) rfl _ (optE o) rfl rfl Lk.zeroA (heap_alloc_new _ _) rfl (optE_size o) (optE_one o) ?_; intro w5 hz5 hg5; have hz53 := ((store_below hg5).block w2.heap.size (by have := hb4.size; omega)).trans ((hb4.block w2.heap.size hs3).trans hz3))
    | (refine wpList_load_row rfl 32 (.tmp 8) rfl _ rfl 32 (optE o) (0, 0) _ hz5 Ybaz.underlying32 rfl (by rw [optE_size]; exact size32) ?_)
    | (refine wpList_load_row rfl 32 (.tmp 7) rfl _ rfl 32 (optE o) (0, 0) _ hz53 Ybaz.underlying32 rfl (by rw [optE_size]; exact size32) ?_)
    | (refine wpl_neq32 rfl (.tmp 24) (.tmp 25) rfl o rfl rfl ?_))
  have hb5 := store_below hg5
  have hs5 := store_size hg5
  clear hg5
  have hb35 : Below w3.heap.size w3 w5 := hb4.trans (hb5.mono hb4.size)
  have hN5 := (hb35.block N (Array.getElem?_eq_some_iff.1 hN3).1).trans hN3
  have hown5 := ownsMap_below hown3 hb35 (by have := hb3.size; omega)
  have hH5 := hH3.kept (w' := w5) (fun i _ hi => hb35.block i hi)
  have hb05 : Below w.heap.size w w5 := (hb12.trans (hb3.mono (by omega))).trans (hb35.mono (by have := hb3.size; omega))
  have hs05 : w1.heap.size ≤ w5.heap.size := by have := hb3.size; have := hb35.size; omega
  refine (trylock_free ⟨N, 14, none⟩ _ (cell_of_row _ _ 14 _ _ _ hN5) (frozen_of_row _ _ 14 _ _ hN5)).mono ?_
  rintro e w6 ⟨rfl, hw6⟩
  have HW6 : Hid (w6 = w5.setCell ⟨N, 14, none⟩ (.int .i32 1)) := hw6
  have hN6 : w6.heap[N]? = some (.cells ((nodeA w.heap.size).setIfInBounds 14 (.int .i32 1)) 72 (0, 0)) := by rw [hw6]; exact heap_setCell_same _ _ _ _ _ _ hN5
  clear hw6
  go_wp2_with fail
  refine (unlock_held muLib ⟨N, 14, none⟩ _ (cell_of_row _ _ 14 _ _ _ hN6) (frozen_of_row _ _ 14 _ _ hN6)).mono ?_
  rintro e w7 ⟨rfl, hw7⟩
  have hb7 : Below w5.heap.size w5 w7 := by rw [hw7, HW6.out]; exact relock_below hN5
  clear hw7 HW6 hN6
  have hN7 := (hb7.block N (Array.getElem?_eq_some_iff.1 hN5).1).trans hN5
  have hown7 := ownsMap_below hown5 hb7 (by omega)
  have hH7 := hH5.kept (w' := w7) (fun i _ hi => hb7.block i hi)
  have hz7 := (hb7.block w2.heap.size (by have := hb3.size; have := hb4.size; omega)).trans hz53
  have hb07 : Below w.heap.size w w7 := hb05.trans (hb7.mono (by omega))
  have c16 : w7.cell? ⟨N, 16, none⟩ = some (.map (some w.heap.size)) := cell_of_row _ _ 16 _ _ _ hN7
  clear hN2 hN3 hN5 hN7 hown2 hown3 hown5 hH2 hH3 hH5 hz3 hz5 hz53 hb12 hb3 hb4 hb5 hb35 hb05 hb7
  cases o with
  | none =>
    have hhas : Maps.has D (klit nm) = false := hH7
    clear hH7
    go_wp2_with (at_lookup; refine wpl_look_miss rfl _ _ rfl rfl hown7 nm hnm rfl hhas ?_)
    refine wp_region_quiet_lit (by kernel_rfl) (by kernel_rfl) ?_
    repeat (go_big_quiet_step (fail))
    refine wpQuiet_nil ?_
    intro _ hw'
    obtain ⟨nq, hw''⟩ := hw'
    subst hw''
    go_wp2
    go_ret
    exact ⟨rfl, below_drewN hb07 _⟩
  | some x =>
    obtain ⟨hhas, L, hBL, hat, hL⟩ := hH7
    have Hat : Hid (D.atKey (klit nm) .nil = .lit (.int .i64 L)) := hat
    clear hat
    go_wp2_with (at_lookup; refine wpl_look_hit rfl _ _ rfl rfl hown7 nm hnm rfl hhas Hat.out ?_)
    refine wp_region_quiet_lit (by kernel_rfl) (by kernel_rfl) ?_
    repeat (go_big_quiet_step (fail))
    refine q_step (.agg (optE (some x))) rfl (fun w hC => by obtain ⟨n', rfl⟩ := hC; exact exec_load_listing _ _ _ (.tmp 49) rfl L x rfl hL) ?_
    refine q_step (.agg (optE (some x))) rfl (fun w hC => by obtain ⟨n', rfl⟩ := hC; exact exec_load_row _ _ _ (.tmp 7) rfl w2.heap.size _ rfl hz7 rfl) ?_
    refine q_step (.bool false) rfl (fun w hC => exec_neq _ _ _ (.tmp 50) (.tmp 51) rfl (some x) rfl rfl) ?_
    simp only [Act.put, List.setIfInBounds_toArray, List.set_cons_zero, List.set_cons_succ]
    repeat (go_big_quiet_step (fail))
    refine wpQuiet_nil ?_
    intro _ hw'
    obtain ⟨nq, hw''⟩ := hw'
    subst hw''
    go_wp2
    go_ret
    exact ⟨rfl, below_drewN hb07 _⟩
end Go.Proofs.YbulkcpheGreat
