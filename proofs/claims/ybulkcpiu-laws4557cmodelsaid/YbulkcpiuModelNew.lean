/-
  The walk of newBlocks.
-/
import Derived.Test.YbulkcpiuRows
import Derived.Test.YbulkcpiuModelPlain
import Derived.WalkKit
import Derived.WalkSpells
import Derived.WalkLawsBesides
import Derived.BigQuiet
import Derived.Deep.OwnRows
namespace Go.Proofs.Ybulkcpiu
open Go.RowKit Go.Deep

theorem wp_name {P : Program} {c : Code} {Q : Exit → Act → World → Prop} {a : Act} {w : World} (F : World → Prop) (h0 : F w) (h : ∀ W, F W → Code.wp P c Q a W) : Code.wp P c Q a w := h w h0

/-- The sets: block B holds the m slices, block B + 1 + r the elements of set r. -/
structure Sets (w : World) (B m : Nat) (L : Nat → Nat) (v : Nat → Nat → Int) : Prop where
  row : w.rowIs B 28 m (fun r => .slice (some ⟨B + 1 + r, 0, none⟩) (L r) (L r))
  each : ∀ r, r < m → w.rowIs (B + 1 + r) 21 (L r) (fun j => .int .i32 (v r j))
theorem Sets.below {w w' : World} {B m : Nat} {L : Nat → Nat} {v : Nat → Nat → Int} (h : Sets w B m L v) (hb : Below w.heap.size w w') : Sets w' B m L v :=
  ⟨h.row.of_block (hb.block _ h.row.lt), fun r hr => (h.each r hr).of_block (hb.block _ (h.each r hr).lt)⟩
theorem info21 : (Yba.prog.info? 21).map (fun i => (i.zero, i.size, i.bytes)) = some (some (.int .i32 0), 1, 4) := by kernel_rfl

/-- What the loops of newBlocks keep: block B1 the row, block B1 + 1 the struct. -/
structure Blk (w0 w : World) (B1 n B m : Nat) (F : Nat → Value) : Prop where
  row : w.rowIs B1 21 n F
  bel : Below B1 w0 w
  c0 : w.cell? ⟨B1 + 1, 0, none⟩ = some (.slice (some ⟨B1, 0, none⟩) n n)
  c1 : w.cell? ⟨B1 + 1, 1, none⟩ = some (.slice (some ⟨B, 0, none⟩) m m)
theorem Blk.set {w0 w : World} {B1 n B m : Nat} {F G : Nat → Value} (h : Blk w0 w B1 n B m F) (x : Nat) (u : Value) (hG : ∀ i, i < n → (if i = x then u else F i) = G i) : Blk w0 (w.setCell ⟨B1, x, none⟩ u) B1 n B m G :=
  ⟨(h.row.set x u).congr hG, h.bel.setCell (Nat.le_refl _) u, (World.cell?_setCell_other _ _ _ _ (by simp)).trans h.c0, (World.cell?_setCell_other _ _ _ _ (by simp)).trans h.c1⟩

set_option maxRecDepth 100000 in
set_option maxHeartbeats 800000 in
theorem new_any (B m n : Nat) (L : Nat → Nat) (v : Nat → Nat → Int) (w : World) (hS : Sets w B m L v) (hm : m ≤ 256) (hL : ∀ r, r < m → L r ≤ 256) (hn0 : 1 ≤ n) (hn : n ≤ 256) (hv : ∀ r j, r < m → j < L r → 0 ≤ v r j ∧ v r j < n) :
    Calls Yba.prog 6 #[.int .i64 n, .slice (some ⟨B, 0, none⟩) m m] w fun e w' => e = .returned (.pointer (some ⟨w.heap.size + 1, 0, none⟩)) ∧ Blk w w' w.heap.size n B m (fun x => .int .i32 (Md.lastTo L v m x)) := by
  have hmk := run_make_row' (P := Yba.prog) 28 21 (.int .i32 0) 4 Yba.underlying28 info21 rfl .i64 .i64 n (by omega) (by omega)
  go_enter Yba.func6, Yba.ntmps6
  go_wp2
  refine wp_name (fun W => Blk w W w.heap.size n B m (fun x => if x < 0 then .int .i32 (-1) else .int .i32 0)) ?_ ?_
  · refine ⟨((World.rowIs_made w (.int .i32 0) n 21).alloc _).congr (fun i _ => by simp), ((Below.refl _ _).alloc (Nat.le_refl _) _).alloc (by simp) _, ?_, ?_⟩
    · have := heap_alloc_new (w.alloc (.cells (madeCells #[.int .i32 0] n) 21)) (.cells #[.slice (some ⟨w.heap.size, 0, none⟩) n n, .slice (some ⟨B, 0, none⟩) m m] 33)
      rw [show (w.alloc (.cells (madeCells #[.int .i32 0] n) 21)).heap.size = w.heap.size + 1 from by simp] at this
      exact cell_of_row _ _ 0 _ _ _ this
    · have := heap_alloc_new (w.alloc (.cells (madeCells #[.int .i32 0] n) 21)) (.cells #[.slice (some ⟨w.heap.size, 0, none⟩) n n, .slice (some ⟨B, 0, none⟩) m m] 33)
      rw [show (w.alloc (.cells (madeCells #[.int .i32 0] n) 21)).heap.size = w.heap.size + 1 from by simp] at this
      exact cell_of_row _ _ 1 _ _ _ this
  intro W hW
  clear hmk
  have hBlt := hS.row.lt
  go_loopw [21] (fun i wr => ∃ k : Nat, k ≤ n ∧ i = .int .i64 k ∧ Hid (Blk w wr w.heap.size n B m (fun x => if x < k then .int .i32 (-1) else .int .i32 0))) (fun i _ => n - (intOf i).toNat)
  case atStart => exact ⟨0, Nat.zero_le _, rfl, hW⟩
  case round =>
    obtain ⟨k, hk, rfl, hB⟩ := hrel
    clear hW
    by_cases hlt : k < n
    · have hlt' : (k : Int) < (n : Int) := by omega
      have c0 := hB.out.c0
      have e0 := hB.out.row.cell hlt
      have f0 := hB.out.row.frozen k
      generalize (if k < k then Value.int .i32 (-1) else Value.int .i32 0) = old at e0
      go_wp2
      exact ⟨⟨k + 1, by omega, by go_num, hB.out.set k _ (fun i _ => by
        by_cases e : i = k
        · subst e; rw [if_pos rfl, if_pos (by omega)]
        · rw [if_neg e]; by_cases h2 : i < k
          · rw [if_pos h2, if_pos (by omega)]
          · rw [if_neg h2, if_neg (by omega)])⟩, by simp [intOf]; omega⟩
    · obtain rfl : k = n := by omega
      obtain ⟨wo, rfl⟩ : ∃ wo : World, wo = wr := ⟨_, rfl⟩
      have hB2 : Blk w wo w.heap.size k B m (fun x => .int .i32 (Md.lastTo L v 0 x)) := ⟨hB.out.row.congr (fun i hi => by rw [if_pos hi]; rfl), hB.out.bel, hB.out.c0, hB.out.c1⟩
      clear hB
      go_wp2
      go_loopw [33] (fun i wr => ∃ r : Nat, r ≤ m ∧ i = .int .i64 r ∧ Hid (Blk w wr w.heap.size k B m (fun x => .int .i32 (Md.lastTo L v r x)))) (fun i _ => m - (intOf i).toNat)
      case atStart => exact ⟨0, Nat.zero_le _, rfl, hB2⟩
      case round =>
        obtain ⟨r, hr, rfl, hB⟩ := hrel
        clear hB2
        by_cases hrm : r < m
        · have hrm' : (r : Int) < (m : Int) := by omega
          have cr : wr.cell? ⟨B, r, none⟩ = some (.slice (some ⟨B + 1 + r, 0, none⟩) (L r) (L r)) := (hB.out.bel.cell (p := ⟨B, r, none⟩) hBlt).trans (hS.row.cell hrm)
          have hLr := hL r hrm
          have hlte := (hS.each r hrm).lt
          have hB3 : Blk w wr w.heap.size k B m (fun x => .int .i32 (Md.lastIn L v r 0 x)) := ⟨hB.out.row.congr (fun i hi => by rw [Md.lastIn_zero]), hB.out.bel, hB.out.c0, hB.out.c1⟩
          clear hB
          obtain ⟨wp, rfl⟩ : ∃ wp : World, wp = wr := ⟨_, rfl⟩
          go_wp2
          go_loopw [40] (fun i wr => ∃ j : Nat, j ≤ L r ∧ i = .int .i64 j ∧ Hid (Blk w wr w.heap.size k B m (fun x => .int .i32 (Md.lastIn L v r j x)))) (fun i _ => L r - (intOf i).toNat)
          case atStart => exact ⟨0, Nat.zero_le _, rfl, hB3⟩
          case round =>
            obtain ⟨j, hj, rfl, hB⟩ := hrel
            clear hB3
            by_cases hjl : j < L r
            · have hjl' : (j : Int) < (L r : Int) := by omega
              have ce : wr.cell? ⟨B + 1 + r, j, none⟩ = some (.int .i32 (v r j)) := (hB.out.bel.cell (p := ⟨B + 1 + r, j, none⟩) hlte).trans ((hS.each r hrm).cell hjl)
              obtain ⟨v0, v1⟩ := hv r j hrm hjl
              obtain ⟨y, hy⟩ := Int.eq_ofNat_of_zero_le v0
              rw [hy] at ce v1
              have HY : Hid (v r j = (y : Int)) := hy
              clear hy v0
              have hyk : y < k := by omega
              have c0 := hB.out.c0
              have e0 := hB.out.row.cell hyk
              have f0 := hB.out.row.frozen y
              generalize Md.lastIn L v r j y = old at e0
              go_wp2
              exact ⟨⟨j + 1, by omega, by go_num, hB.out.set y _ (fun i _ => by
                by_cases e : i = y
                · subst e; rw [if_pos rfl, Md.lastIn_hit L v r j _ HY.out]
                · rw [if_neg e, Md.lastIn_miss L v r j _ (by rw [HY.out]; omega)])⟩, by simp [intOf]; omega⟩
            · obtain rfl : j = L r := by omega
              have hB4 : Hid (Blk w wr w.heap.size k B m (fun x => .int .i32 (Md.lastTo L v (r + 1) x))) := hB.out
              clear hB
              go_wp2
              exact ⟨⟨r + 1, by omega, by go_num, hB4⟩, by simp [intOf]; omega⟩
        · obtain rfl : r = m := by omega
          go_wp2
          go_ret
          exact ⟨rfl, hB.out⟩
end Go.Proofs.Ybulkcpiu
