/-
  The walk of LawS4557CModel.
-/
import Derived.Test.YbulkcpiuModelUnit
namespace Go.Proofs.Ybulkcpiu
open Go.RowKit Go.Deep
set_option linter.unusedVariables false

/-- What the walk is told of raw: m rows, row r of L r bytes g r 0, g r 1, .. -/
structure Raw (w : World) (ao : Option Addr) (m b off : Nat) (A : Nat → Option Addr) (L C : Nat → Nat) (g : Nat → Nat → Int) : Prop where
  at' : 0 < m → ao = some ⟨b, off, none⟩
  cell : ∀ r, r < m → w.cell? ⟨b, off + r, none⟩ = some (.slice (A r) (L r) (C r))
  row : ∀ r, r < m → 0 < L r → ∃ bb oo, A r = some ⟨bb, oo, none⟩ ∧ ∀ j, j < L r → w.cell? ⟨bb, oo + j, none⟩ = some (.int .u8 (g r j))
  lo : ∀ r j, r < m → j < L r → 0 ≤ g r j
  hi : ∀ r j, r < m → j < L r → g r j ≤ 255
  len : ∀ r, r < m → L r ≤ 9223372036854775807
theorem Raw.below {w w' : World} {ao : Option Addr} {m b off : Nat} {A : Nat → Option Addr} {L C : Nat → Nat} {g : Nat → Nat → Int} (h : Raw w ao m b off A L C g) (hb : Below w.heap.size w w') : Raw w' ao m b off A L C g :=
  ⟨h.at', fun r hr => (hb.cell (p := ⟨b, off + r, none⟩) (World.block_lt_of_cell? w _ (h.cell r hr))).trans (h.cell r hr),
   fun r hr hl => by
     obtain ⟨bb, oo, h1, h2⟩ := h.row r hr hl
     exact ⟨bb, oo, h1, fun j hj => (hb.cell (p := ⟨bb, oo + j, none⟩) (World.block_lt_of_cell? w _ (h2 j hj))).trans (h2 j hj)⟩, h.lo, h.hi, h.len⟩
theorem info28 : (Yba.prog.info? 28).map (fun i => (i.zero, i.size, i.bytes)) = some (some (.slice none 0 0), 1, 24) := by kernel_rfl

def setF (B k : Nat) (L : Nat → Nat) (r : Nat) : Value := if r < k then .slice (some ⟨B + 1 + r, 0, none⟩) (L r) (L r) else .slice none 0 0
def eltF (v : Nat → Nat → Int) (k j i : Nat) : Value := if i < j then .int .i32 (v k i) else .int .i32 0
/-- The sets after k rounds. -/
structure Built (w0 w : World) (B m k : Nat) (L : Nat → Nat) (v : Nat → Nat → Int) : Prop where
  row : w.rowIs B 28 m (setF B k L)
  each : ∀ r, r < k → w.rowIs (B + 1 + r) 21 (L r) (fun j => .int .i32 (v r j))
  bel : Below B w0 w
/-- .. and inside round k, after j elements. -/
structure Inner (w0 w : World) (B m k j : Nat) (L : Nat → Nat) (v : Nat → Nat → Int) : Prop where
  base : Built w0 w B m k L v
  row : w.rowIs (B + 1 + k) 21 (L k) (eltF v k j)
theorem Built.alloc {w0 w : World} {B m k : Nat} {L : Nat → Nat} {v : Nat → Nat → Int} (h : Built w0 w B m k L v) (o : Obj) : Built w0 (w.alloc o) B m k L v :=
  ⟨h.row.alloc o, fun r hr => (h.each r hr).alloc o, h.bel.alloc (by have := h.row.lt; omega) o⟩
theorem Inner.start {w0 w : World} {B m k : Nat} {L : Nat → Nat} {v : Nat → Nat → Int} (h : Built w0 w B m k L v) (hs : w.heap.size = B + 1 + k) : Inner w0 (w.alloc (.cells (madeCells #[.int .i32 0] (L k)) 21)) B m k 0 L v :=
  ⟨h.alloc _, by have := World.rowIs_made w (.int .i32 0) (L k) 21; rw [hs] at this; exact this.congr (fun i _ => by simp [eltF])⟩
theorem Inner.step {w0 w : World} {B m k j : Nat} {L : Nat → Nat} {v : Nat → Nat → Int} (h : Inner w0 w B m k j L v) (x : Int) (hx : x = v k j) : Inner w0 (w.setCell ⟨B + 1 + k, j, none⟩ (.int .i32 x)) B m k (j + 1) L v :=
  ⟨⟨h.base.row.setOther (by simp; omega) _, fun r hr => (h.base.each r hr).setOther (by simp; omega) _, h.base.bel.setCell (by simp; omega) _⟩,
   (h.row.set j _).congr (fun i _ => by
     unfold eltF
     by_cases e : i = j
     · subst e; rw [if_pos rfl, if_pos (by omega), hx]
     · rw [if_neg e]; by_cases h2 : i < j
       · rw [if_pos h2, if_pos (by omega)]
       · rw [if_neg h2, if_neg (by omega)])⟩
theorem Inner.done {w0 w : World} {B m k : Nat} {L : Nat → Nat} {v : Nat → Nat → Int} (h : Inner w0 w B m k (L k) L v) : Built w0 (w.setCell ⟨B, k, none⟩ (.slice (some ⟨B + 1 + k, 0, none⟩) (L k) (L k))) B m (k + 1) L v :=
  ⟨(h.base.row.set k _).congr (fun i _ => by
     unfold setF
     by_cases e : i = k
     · subst e; rw [if_pos rfl, if_pos (by omega)]
     · rw [if_neg e]; by_cases h2 : i < k
       · rw [if_pos h2, if_pos (by omega)]
       · rw [if_neg h2, if_neg (by omega)]),
   fun r hr => by
     by_cases e : r = k
     · subst e; exact (h.row.congr (fun i hi => by unfold eltF; rw [if_pos hi])).setOther (by simp; omega) _
     · exact (h.base.each r (by omega)).setOther (by simp; omega) _, h.base.bel.setCell (Nat.le_refl _) _⟩
theorem Built.sets {w0 w : World} {B m : Nat} {L : Nat → Nat} {v : Nat → Nat → Int} (h : Built w0 w B m m L v) : Sets w B m L v :=
  ⟨h.row.congr (fun i hi => by unfold setF; rw [if_pos hi]), h.each⟩

set_option maxRecDepth 100000 in
set_option maxHeartbeats 1600000 in
theorem model_any (p : Nat) (hp : p ≤ 255) (ao : Option Addr) (m cap b off : Nat) (A : Nat → Option Addr) (L C : Nat → Nat) (g : Nat → Nat → Int) (w : World) (hm : m ≤ maxLen) (hR : Raw w ao m b off A L C g) :
    Calls Yba.prog 4 #[.int .u8 p, .slice ao m cap] w fun e w' => e = .returned (.bool true) ∧ Below w.heap.size w w' := by
  unfold maxLen at hm
  by_cases hm6 : m ≤ 256
  · have hm6' : (m : Int) ≤ 256 := by omega
    go_enter Yba.func4, Yba.ntmps4
    go_wp2
    go_loop [5] (fun i => ∃ k : Nat, k ≤ m ∧ i = .int .i64 k ∧ Hid (∀ r, r < k → L r ≤ 256)) (fun i => m - (intOf i).toNat)
    case atStart => exact ⟨0, Nat.zero_le _, rfl, fun r h => absurd h (by simp)⟩
    case round =>
      obtain ⟨k, hk, rfl, hLk⟩ := hrel
      by_cases hlt : k < m
      · have hlt' : (k : Int) < (m : Int) := by omega
        obtain rfl := hR.at' (by omega)
        have hc := hR.cell k hlt
        have hln := hR.len k hlt
        by_cases hL6 : L k ≤ 256
        · have hL6' : (L k : Int) ≤ 256 := by omega
          go_wp2
          exact ⟨⟨k + 1, by omega, by go_num, fun r hr => by
            rcases Nat.lt_or_ge r k with h | h
            · exact hLk.out r h
            · obtain rfl : r = k := by omega
              exact hL6⟩, by simp [intOf]; omega⟩
        · have hL6' : 256 < (L k : Int) := by omega
          go_wp2
          go_ret
          exact ⟨rfl, Below.refl _ _⟩
      · obtain rfl : m = k := by omega
        have hmk := run_make_row' (P := Yba.prog) 27 28 (.slice none 0 0) 24 Yba.underlying27 info28 rfl .i64 .i64 m (by omega) (by omega)
        go_wp2
        rw [show ((p : Int) + 1) = ((p + 1 : Nat) : Int) from by omega]
        have hn1 : 1 ≤ p + 1 := by omega
        have hn2 : p + 1 ≤ 256 := by omega
        generalize p + 1 = n at hn1 hn2
        clear hmk
        have HL : Hid (∀ r, r < m → L r ≤ 256) := hLk
        clear hLk
        refine wp_name (fun W => Built w W w.heap.size m 0 L (fun r j => g r j % (n : Int)) ∧ W.heap.size = w.heap.size + 1) ?_ ?_
        · exact ⟨⟨(World.rowIs_made w (.slice none 0 0) m 28).congr (fun i _ => by simp [setF]), fun r h => absurd h (by simp), (Below.refl _ _).alloc (Nat.le_refl _) _⟩, by simp⟩
        intro W ⟨hW, hsW⟩
        go_loopw [8] (fun i wr => ∃ k : Nat, k ≤ m ∧ i = .int .i64 k ∧ Hid (Built w wr w.heap.size m k L (fun r j => g r j % (n : Int))) ∧ wr.heap.size = w.heap.size + 1 + k) (fun i _ => m - (intOf i).toNat)
        case atStart => exact ⟨0, Nat.zero_le _, rfl, hW, hsW⟩
        case round =>
          obtain ⟨k, hk, rfl, hB, hsz⟩ := hrel
          clear hW hsW
          by_cases hkm : k < m
          · have hkm' : (k : Int) < (m : Int) := by omega
            obtain rfl := hR.at' (by omega)
            have hRw := hR.below hB.out.bel
            have hc := hRw.cell k hkm
            have hLk := HL.out k hkm
            have hmk := run_make_row' (P := Yba.prog) 28 21 (.int .i32 0) 4 Yba.underlying28 info21 rfl .i64 .i64 (L k) (by omega) (by omega)
            have hI := Inner.start hB.out hsz
            clear hB
            obtain ⟨wo, rfl⟩ : ∃ wo : World, wo = wr := ⟨_, rfl⟩
            go_wp2
            clear hmk hRw hc
            refine wp_name (fun W => Inner w W w.heap.size m k 0 L (fun r j => g r j % (n : Int)) ∧ W.heap.size = w.heap.size + 1 + k + 1) ⟨hI, by simp [hsz]⟩ ?_
            intro W ⟨hW, hsW⟩
            clear hI hsz
            go_loopw [10] (fun i wr => ∃ j : Nat, j ≤ L k ∧ i = .int .i64 j ∧ Hid (Inner w wr w.heap.size m k j L (fun r j => g r j % (n : Int))) ∧ wr.heap.size = w.heap.size + 1 + k + 1) (fun i _ => L k - (intOf i).toNat)
            case atStart => exact ⟨0, Nat.zero_le _, rfl, hW, hsW⟩
            case round =>
              obtain ⟨j, hj, rfl, hI, hsz⟩ := hrel
              clear hW hsW
              have hRw := hR.below hI.out.base.bel
              have hc := hRw.cell k hkm
              by_cases hjl : j < L k
              · have hjl' : (j : Int) < (L k : Int) := by omega
                obtain ⟨bb, oo, hA, hrow⟩ := hRw.row k hkm (by omega)
                have hcj := hrow j hjl
                have g0 := hR.lo k j hkm hjl
                have g1 := hR.hi k j hkm hjl
                rw [hA] at hc
                have e0 := hI.out.row.cell hjl
                have f0 := hI.out.row.frozen j
                generalize eltF (fun r j => g r j % (n : Int)) k j j = old at e0
                obtain ⟨c, hcg⟩ : ∃ c, c = g k j := ⟨_, rfl⟩
                rw [← hcg] at hcj g0 g1
                have HC : Hid (c = g k j) := hcg
                have HA : Hid (A k = some ⟨bb, oo, none⟩) := hA
                clear hcg hA hrow hRw
                have hm0 : 0 ≤ c % (n : Int) := Int.emod_nonneg _ (by omega)
                have hm1 : c % (n : Int) < (n : Int) := Int.emod_lt_of_pos _ (by omega)
                go_wp2
                exact ⟨⟨j + 1, by omega, by go_num, hI.out.step _ (by rw [HC.out]), by simp [World.setCell, hsz]⟩, by simp [intOf]; omega⟩
              · obtain rfl : j = L k := by omega
                have hD := hI.out.done
                have e0 := hI.out.base.row.cell hkm
                have f0 := hI.out.base.row.frozen k
                generalize setF w.heap.size k L k = old at e0
                clear hRw
                go_wp2
                exact ⟨⟨k + 1, by omega, by go_num, hD, by simp [World.setCell, hsz]; omega⟩, by simp [intOf]; omega⟩
          · obtain rfl : m = k := by omega
            have hS := hB.out.sets
            have hbw := hB.out.bel
            clear hB
            have hvb : ∀ r j, r < m → j < L r → 0 ≤ g r j % (n : Int) ∧ g r j % (n : Int) < n := fun r j _ _ => ⟨Int.emod_nonneg _ (by omega), Int.emod_lt_of_pos _ (by omega)⟩
            have HV : Hid (∀ r j, r < m → j < L r → 0 ≤ g r j % (n : Int) ∧ g r j % (n : Int) < n) := hvb
            clear hvb
            obtain ⟨v, hv⟩ : ∃ v : Nat → Nat → Int, v = (fun r j => g r j % (n : Int)) := ⟨_, rfl⟩
            rw [← hv] at hS
            have HV2 : Hid (∀ r j, r < m → j < L r → 0 ≤ v r j ∧ v r j < n) := by rw [hv]; exact HV.out
            clear hv HV
            go_wp2_with fail
            refine (new_any w.heap.size m n L v wr hS hm6 HL.out hn1 hn2 HV2.out).mono ?_
            rintro e w1 ⟨rfl, hB⟩
            have hS1 := hS.below hB.bel
            have hb1 : Below w.heap.size w w1 := hbw.trans (hB.bel.mono (by omega))
            rw [hsz] at hB
            have hc0 := hB.c0
            have hc1 := hB.c1
            have hrw := hB.row
            clear hB hS hbw hR
            go_wp2
            clear hsz
            generalize w.heap.size + 1 + m = B1 at hc0 hc1 hrw
            have HS : Hid (Sets w1 w.heap.size m L v) := hS1
            have HW : Hid (w1.rowIs B1 21 n (fun x => .int .i32 (Md.lastTo L v m x))) := hrw
            have HB : Hid (Below w.heap.size w w1) := hb1
            clear hS1 hrw hb1
            go_loopw [12] (fun i wr => ∃ x q : Nat, x ≤ n ∧ i = .int .i64 x ∧ wr = w1.drewN q) (fun i _ => n - (intOf i).toNat)
            case atStart => exact ⟨0, 0, Nat.zero_le _, rfl, rfl⟩
            case round =>
              obtain ⟨x, q, hx, rfl, rfl⟩ := hrel
              by_cases hxn : x < n
              · have hxn' : (x : Int) < (n : Int) := by omega
                go_wp2
                go_loop [14, 15] (fun t i => ∃ r : Nat, r ≤ m ∧ i = .int .i64 r ∧ t = .int .i64 (Md.lastTo L v r x)) (fun _ i => m - (intOf i).toNat)
                case atStart => exact ⟨0, Nat.zero_le _, rfl, rfl⟩
                case round =>
                  obtain ⟨r, hr, rfl, rfl⟩ := hrel
                  by_cases hrm : r < m
                  · have hrm' : (r : Int) < (m : Int) := by omega
                    have er := HS.out.row.cell hrm
                    have hLr := HL.out r hrm
                    go_wp2
                    go_loop [14, 16] (fun t i => ∃ j : Nat, j ≤ L r ∧ i = .int .i64 j ∧ t = .int .i64 (Md.lastIn L v r j x)) (fun _ i => L r - (intOf i).toNat)
                    case atStart => exact ⟨0, Nat.zero_le _, rfl, by rw [Md.lastIn_zero]⟩
                    case round =>
                      obtain ⟨j, hj, rfl, rfl⟩ := hrel
                      by_cases hjl : j < L r
                      · have hjl' : (j : Int) < (L r : Int) := by omega
                        have ej := (HS.out.each r hrm).cell hjl
                        by_cases hvx : v r j = (x : Int)
                        · have E := Md.lastIn_hit L v r j x hvx
                          rw [hvx] at ej
                          have HE : Hid (Md.lastIn L v r (j + 1) x = (r : Int)) := E
                          clear E hvx
                          go_wp2
                          exact ⟨⟨j + 1, by omega, by go_num, by rw [HE.out]⟩, by simp [intOf]; omega⟩
                        · have E := Md.lastIn_miss L v r j x hvx
                          have HE : Hid (Md.lastIn L v r (j + 1) x = Md.lastIn L v r j x) := E
                          have hne : (v r j == (x : Int)) = false := by simpa using hvx
                          clear E hvx
                          generalize v r j = c at ej hne
                          go_wp2
                          exact ⟨⟨j + 1, by omega, by go_num, by rw [HE.out]⟩, by simp [intOf]; omega⟩
                      · obtain rfl : j = L r := by omega
                        go_wp2
                        exact ⟨⟨r + 1, by omega, by go_num, rfl⟩, by simp [intOf]; omega⟩
                  · obtain rfl : m = r := by omega
                    have hbd := Md.lastTo_bd L v x m
                    have hps := Md.lastTo_pos L v x m
                    have e0 := HW.out.cell hxn
                    generalize Md.lastTo L v m (x : Int) = l at hbd hps e0
                    have hq1 := fun (wx : World) (a : Option Addr) (n c : Nat) => Lib.run_eql_slice_nil (P := Yba.prog) wx 28 21 a n c 0 0 Yba.underlying28
                    have hq2 := fun (wx : World) (a : Option Addr) (n c : Nat) => run_neq_slice_nil_any (P := Yba.prog) wx 28 21 a n c 0 0 Yba.underlying28
                    by_cases hl0 : l < 0
                    · clear hps
                      go_wp2_with fail
                      refine (unit_neg (B1 + 1) B1 n x _ hxn hn2 l hl0 (by simpa using hc0) (by simpa using e0)).mono ?_
                      rintro e w2 ⟨rfl, q2, hw2⟩
                      subst hw2
                      go_wp2_with fail
                      refine (members_neg (B1 + 1) B1 n x _ hxn hn2 l hl0 (by simpa using hc0) (by simpa using e0)).mono ?_
                      rintro e w3 ⟨rfl, q3, hw3⟩
                      subst hw3
                      go_wp2
                      exact ⟨⟨x + 1, q + q2 + q3, by omega, by go_num, rfl⟩, by simp [intOf]; omega⟩
                    · obtain ⟨r, rfl⟩ := Int.eq_ofNat_of_zero_le (show 0 ≤ l by omega)
                      have hrm2 : r < m := by omega
                      have hLp : 0 < L r := by simpa using hps (by omega)
                      have hLr := HL.out r hrm2
                      have er := HS.out.row.cell hrm2
                      have ej := (HS.out.each r hrm2).cell hLp
                      have hLp' : (0 : Int) < (L r : Int) := by omega
                      have hrm2' : (r : Int) < (m : Int) := by omega
                      generalize v r 0 = u at ej
                      clear hps hbd
                      go_wp2_with fail
                      refine (unit_pos (B1 + 1) B1 w.heap.size n m x _ hxn hn2 r (L r) _ u hrm2 hm6 hLp hLr (by simpa using hc0) (by simpa using hc1) (by simpa using e0) (by simpa using er) (by simpa using ej)).mono ?_
                      rintro e w2 ⟨rfl, q2, hw2⟩
                      subst hw2
                      go_wp2_with fail
                      refine (members_pos (B1 + 1) B1 w.heap.size n m x _ hxn hn2 r (L r) _ hrm2 hm6 (by simpa using hc0) (by simpa using hc1) (by simpa using e0) (by simpa using er)).mono ?_
                      rintro e w3 ⟨rfl, q3, hw3⟩
                      subst hw3
                      go_wp2
                      exact ⟨⟨x + 1, q + q2 + q3, by omega, by go_num, rfl⟩, by simp [intOf]; omega⟩
              · go_wp2
                go_ret
                exact ⟨rfl, HB.out.os, HB.out.tape, HB.out.output, HB.out.size, HB.out.block⟩
  · have hm6' : 256 < (m : Int) := by omega
    go_enter Yba.func4, Yba.ntmps4
    go_wp2
    go_ret
    exact ⟨rfl, Below.refl _ _⟩
end Go.Proofs.Ybulkcpiu
