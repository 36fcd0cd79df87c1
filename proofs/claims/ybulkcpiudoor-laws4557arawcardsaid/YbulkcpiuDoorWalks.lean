/-
  The walks of skipSpace, zzs4557asp and zzs4557acheck.
-/
import Derived.Test.YbulkcpiuDoorRows
import Derived.WalkKit
import Derived.WalkSpells
import Derived.WalkLawsBesides
import Derived.BigQuiet
import Derived.Laws.CopyOwn
import Derived.Deep.OwnRows
namespace Go.Proofs.YbulkcpiuDoor
open Go.RowKit

def isSp (c : Int) : Bool := c == 32 || c == 9 || c == 10 || c == 13
theorem sp_yes {c : Int} (h : c = 32 ∨ c = 9 ∨ c = 10 ∨ c = 13) : isSp c = true := by
  unfold isSp; rcases h with rfl | rfl | rfl | rfl <;> rfl
theorem sp_no {c : Int} (h1 : c ≠ 32) (h2 : c ≠ 9) (h3 : c ≠ 10) (h4 : c ≠ 13) : isSp c = false := by
  unfold isSp; simp [h1, h2, h3, h4]

/-- r is where skipSpace comes to from i on, over the n bytes f 0, f 1, .. -/
def SkipOk (f : Nat → Int) (n i r : Nat) : Prop := i ≤ r ∧ (∀ k, i ≤ k → k < r → k < n ∧ isSp (f k) = true) ∧ (r < n → isSp (f r) = false)
theorem SkipOk.past {f : Nat → Int} {n i r : Nat} (h : SkipOk f n i r) (hi : n ≤ i) : r = i := by
  rcases Nat.lt_or_ge i r with hlt | hge
  · have := (h.2.1 i (Nat.le_refl _) hlt).1; omega
  · have := h.1; omega
theorem SkipOk.within {f : Nat → Int} {n i r : Nat} (h : SkipOk f n i r) (hi : i < n) : r ≤ n := by
  rcases Nat.lt_or_ge n r with hlt | hge
  · have := (h.2.1 n (by omega) hlt).1; omega
  · omega

/-- What the walks are told of a text: n bytes f 0, f 1, .. at the slice's address. -/
structure Text (w : World) (ao : Option Addr) (n : Nat) (b off : Nat) (f : Nat → Int) : Prop where
  at' : 0 < n → ao = some ⟨b, off, none⟩
  cell : ∀ j, j < n → w.cell? ⟨b, off + j, none⟩ = some (.int .u8 (f j))
  lo : ∀ j, j < n → 0 ≤ f j
  hi : ∀ j, j < n → f j ≤ 255
def Table (w : World) : Prop := ∀ c : Nat, c < 256 → w.cell? ⟨0, c, none⟩ = some (.bool (isSp c))

set_option maxHeartbeats 400000 in
theorem asp_any (c : Int) (w : World) (h0 : 0 ≤ c) (h1 : c ≤ 255) :
    Calls Ybad.prog 7 #[.int .u8 c] w fun e w' => e = .returned (.bool (isSp c)) ∧ w' = w := by
  by_cases a1 : c = 32
  · subst a1
    go_enter Ybad.func7, Ybad.ntmps7
    go_wp2
    go_ret
    exact ⟨rfl, rfl⟩
  by_cases a2 : c = 9
  · subst a2
    go_enter Ybad.func7, Ybad.ntmps7
    go_wp2
    go_ret
    exact ⟨rfl, rfl⟩
  by_cases a3 : c = 10
  · subst a3
    go_enter Ybad.func7, Ybad.ntmps7
    go_wp2
    go_ret
    exact ⟨rfl, rfl⟩
  by_cases a4 : c = 13
  · subst a4
    go_enter Ybad.func7, Ybad.ntmps7
    go_wp2
    go_ret
    exact ⟨rfl, rfl⟩
  have E : Hid (isSp c = false) := sp_no a1 a2 a3 a4
  go_enter Ybad.func7, Ybad.ntmps7
  go_wp2
  go_ret
  exact ⟨by rw [E.out]; rfl, rfl⟩

set_option maxRecDepth 100000 in
set_option maxHeartbeats 400000 in
theorem skip_any (ao : Option Addr) (n cap b off i : Nat) (f : Nat → Int) (w : World) (hn : n ≤ 1024) (hi : i ≤ 9223372036854775807) (ht : Text w ao n b off f) (htab : Table w) :
    Calls Ybad.prog 6 #[.slice ao n cap, .int .i64 i] w fun e w' => (∃ r : Nat, e = .returned (.int .i64 r) ∧ SkipOk f n i r) ∧ w' = w := by
  go_enter Ybad.func6, Ybad.ntmps6
  go_wp2
  go_loop [1] (fun v => ∃ j : Nat, v = .int .i64 j ∧ j ≤ 9223372036854775807 ∧ Hid (i ≤ j ∧ ∀ k, i ≤ k → k < j → k < n ∧ isSp (f k) = true)) (fun v => n - (intOf v).toNat)
  case atStart => exact ⟨i, rfl, hi, ⟨Nat.le_refl _, fun k h1 h2 => absurd h1 (by omega)⟩⟩
  case round =>
    obtain ⟨j, rfl, hj, hk⟩ := hrel
    by_cases hlt : j < n
    · obtain rfl := ht.at' (by omega)
      have hc := ht.cell j hlt
      have c0 := ht.lo j hlt
      have c1 := ht.hi j hlt
      obtain ⟨m, hm⟩ := Int.eq_ofNat_of_zero_le c0
      have htm := htab m (by omega)
      have hm2 : m < 256 := by omega
      have HM : Hid (f j = (m : Int)) := hm
      rw [hm] at hc
      clear hm c0 c1
      cases hs : isSp (m : Int) with
      | true =>
        rw [hs] at htm
        go_wp2
        go_round
        case rel => exact ⟨j + 1, by go_num, by omega, ⟨by have := hk.out.1; omega, fun k h1 h2 => by
          rcases Nat.lt_or_ge k j with h | h
          · exact hk.out.2 k h1 h
          · obtain rfl : k = j := by omega
            exact ⟨hlt, by rw [HM.out]; exact hs⟩⟩⟩
        case measure => simp [intOf]; omega
      | false =>
        rw [hs] at htm
        go_wp2
        go_ret
        exact ⟨⟨j, rfl, hk.out.1, hk.out.2, fun _ => by rw [HM.out]; exact hs⟩, rfl⟩
    · go_wp2
      go_ret
      exact ⟨⟨j, rfl, hk.out.1, hk.out.2, fun h => absurd h hlt⟩, rfl⟩

theorem info5 : (Ybad.prog.info? 5).map (fun i => (i.zero, i.size, i.bytes)) = some (some (.int .u8 0), 1, 1) := by kernel_rfl
theorem size5 : (Ybad.prog.info? 5).map (·.size) = some 1 := by kernel_rfl
/-- The bytes as cells. -/
def bytesOf (f : Nat → Int) (n : Nat) : List Value := (List.range n).map fun j => .int .u8 (f j)
theorem bytesOf_len (f : Nat → Int) (n : Nat) : (bytesOf f n).length = n := by simp [bytesOf]
theorem bytesOf_get {f : Nat → Int} {n j : Nat} {v : Value} (h : (bytesOf f n)[j]? = some v) : j < n ∧ v = .int .u8 (f j) := by
  have hj : j < n := by have := (List.getElem?_eq_some_iff.1 h).1; simpa [bytesOf] using this
  refine ⟨hj, ?_⟩
  simp [bytesOf, hj] at h
  exact h.symm
theorem bytesOf_at {f : Nat → Int} {n j : Nat} (h : j < n) : (bytesOf f n)[j]? = some (.int .u8 (f j)) := by simp [bytesOf, h]
theorem bytesOf_one (f : Nat → Int) (n : Nat) : ∀ v ∈ bytesOf f n, v.oneCell' = true := by
  intro v hv; simp [bytesOf] at hv; obtain ⟨j, _, rfl⟩ := hv; rfl
theorem splice_all {α : Type} (L cs : List α) (h : cs.length = L.length) : splice L 0 cs = cs := by
  simp [splice, h]
theorem Text.below {w w' : World} {ao : Option Addr} {n b off : Nat} {f : Nat → Int} (h : Text w ao n b off f) (hb : Below w.heap.size w w') : Text w' ao n b off f :=
  ⟨h.at', fun j hj => (hb.cell (p := ⟨b, off + j, none⟩) (World.block_lt_of_cell? w _ (h.cell j hj))).trans (h.cell j hj), h.lo, h.hi⟩
theorem Table.below {w w' : World} (h : Table w) (hb : Below w.heap.size w w') : Table w' := fun c hc => (hb.cell (p := ⟨0, c, none⟩) (World.block_lt_of_cell? w _ (h c hc))).trans (h c hc)
theorem below_drewN {B : Nat} {w w' : World} (h : Below B w w') (n : Nat) : Below B w (w'.drewN n) := ⟨h.os, h.tape, h.output, h.size, h.block⟩

theorem wpl_copyall {ops : Array Oper} {rest : List Oper} {o : Oper} {a : Act} {w : World} {Q : Exit → Act → World → Prop} (hgd : o.guard = none) (d s : Operand) (ho : o.op = .call { callee := .builtin .copy, args := #[d, s], argTypes := #[22, 22] })
    (ao : Option Addr) (n cap b off : Nat) (f : Nat → Int) (g : Nat) (hd : a.eval d = .slice (some ⟨g, 0, none⟩) n n) (hs : a.eval s = .slice ao n cap) (ht : Text w ao n b off f) (hg : w.heap[g]? = some (.cells (madeCells #[.int .u8 0] n) 5 (0, 0)))
    (B : Nat) (w0 : World) (hb : Below B w0 w) (hBg : B ≤ g) (h : ∀ w', Hid (w'.heap[g]? = some (.cells (bytesOf f n).toArray 5 (0, 0))) → Below B w0 w' → wpList Ybad.prog ops Q rest (a.put o.dst (goInt n)) w') : wpList Ybad.prog ops Q (o :: rest) a w := by
  refine wpList_copy_splice hgd d s 22 22 ho 5 Ybad.underlying22 size5 _ _ _ _ _ _ hd hs g 0 (madeCells #[.int .u8 0] n).toList 5 (by simpa using hg) (bytesOf f n) (by simp [bytesOf_len]) ?_ (by simp [bytesOf_len, size_madeCells]) (bytesOf_one f n) B w0 hb hBg ?_
  · intro hp
    rw [bytesOf_len] at hp
    refine ⟨rfl, ⟨b, off, none⟩, ht.at' hp, fun j v hv => ?_⟩
    rw [WideShapes.add_plain, (bytesOf_get hv).2]
    exact ht.cell j (bytesOf_get hv).1
  · intro w' HG hB
    rw [bytesOf_len]
    refine h w' ?_ hB
    have := HG.out
    rw [splice_all _ _ (by simp [bytesOf_len, size_madeCells])] at this
    exact this

set_option maxRecDepth 100000 in
set_option maxHeartbeats 800000 in
theorem check_any (ao : Option Addr) (n cap b off i : Nat) (f : Nat → Int) (w : World) (hn : n ≤ 1024) (hi : i ≤ 9223372036854775807) (ht : Text w ao n b off f) (htab : Table w) :
    Calls Ybad.prog 5 #[.slice ao n cap, .int .i64 i] w fun e w' => e = .returned (.bool true) ∧ Below w.heap.size w w' := by
  have hmk := run_make_row' (P := Ybad.prog) 22 5 (.int .u8 0) 1 Ybad.underlying22 info5 rfl .i64 .i64 n (by omega) (by omega)
  have htA : ∀ ob, Text (w.alloc ob) ao n b off f := fun ob => ht.below ((Below.refl _ _).alloc (Nat.le_refl _) _)
  go_enter Ybad.func5, Ybad.ntmps5
  go_wp2_with (refine wpl_copyall rfl (.tmp 14) (.tmp 15) rfl ao n cap b off f w.heap.size rfl rfl (htA _) (heap_alloc_new w _) w.heap.size w ((Below.refl _ _).alloc (Nat.le_refl _) _) (Nat.le_refl _) ?_; intro w2 HG2 hB2)
  have ht2 := ht.below hB2
  have htab2 := htab.below hB2
  have hcp : Hid (∀ k, k < n → w2.cell? ⟨w.heap.size, k, none⟩ = some (.int .u8 (f k))) := fun k hk => by
    rw [cell_of_row _ _ k _ _ _ HG2.out]
    simpa using bytesOf_at (f := f) hk
  clear HG2 ht htA htab hmk
  refine (skip_any ao n cap b off i f w2 hn hi ht2 htab2).mono ?_
  rintro e w3 ⟨⟨r, rfl, hr⟩, hw⟩
  have hw := hw.symm
  subst hw
  clear htab2
  rcases Nat.lt_or_ge i n with hin | hin
  · have hrn := hr.within hin
    have hir := hr.1
    have hin' : (i : Int) < (n : Int) := by omega
    have hir' : (i : Int) ≤ (r : Int) := by omega
    have hrn' : (r : Int) ≤ (n : Int) := by omega
    have HR : Hid (SkipOk f n i r) := hr
    clear hr
    go_wp2
    go_loopw [8] (fun v wr => ∃ k m : Nat, k ≤ n ∧ v = .int .i64 k ∧ wr = w2.drewN m) (fun v _ => n - (intOf v).toNat)
    case atStart => exact ⟨0, 0, Nat.zero_le _, rfl, rfl⟩
    case round =>
      obtain ⟨k, m, hk, rfl, rfl⟩ := hrel
      by_cases hlt : k < n
      · obtain rfl := ht2.at' (by omega)
        have hc := ht2.cell k hlt
        have hc' := hcp.out k hlt
        generalize f k = c at hc hc'
        have hcc : (c != c) = false := by simp
        have hlt' : (k : Int) < (n : Int) := by omega
        go_wp2
        go_quiet (fail)
        go_wp2
        exact ⟨⟨k + 1, m + nq, by omega, by go_num, rfl⟩, by simp [intOf]; omega⟩
      · have hnlt : ¬ (k : Int) < (n : Int) := by omega
        go_wp2
        go_loop [9] (fun v => ∃ k : Nat, i ≤ k ∧ k ≤ r ∧ v = .int .i64 k) (fun v => r - (intOf v).toNat)
        case atStart => exact ⟨i, Nat.le_refl _, hir, rfl⟩
        case round =>
          obtain ⟨j, hj1, hj2, rfl⟩ := hrel
          by_cases hjr : j < r
          · obtain ⟨hjn, hsj⟩ := HR.out.2.1 j hj1 hjr
            obtain rfl := ht2.at' (by omega)
            have hc := ht2.cell j hjn
            have c0 := ht2.lo j hjn
            have c1 := ht2.hi j hjn
            generalize f j = c at hc c0 c1 hsj
            have hjn' : (j : Int) < (n : Int) := by omega
            go_wp2_with (go_at_call 7; refine (asp_any _ _ c0 c1).mono ?_; rintro e w' ⟨rfl, rfl⟩)
            go_round
            case rel => exact ⟨j + 1, by omega, by omega, by go_num⟩
            case measure => simp [intOf]; omega
          · obtain rfl : j = r := by omega
            by_cases hrn2 : j < n
            · have hsj := HR.out.2.2 hrn2
              obtain rfl := ht2.at' (by omega)
              have hc := ht2.cell j hrn2
              have c0 := ht2.lo j hrn2
              have c1 := ht2.hi j hrn2
              generalize f j = c at hc c0 c1 hsj
              have hjn' : (j : Int) < (n : Int) := by omega
              go_wp2_with (go_at_call 7; refine (asp_any _ _ c0 c1).mono ?_; rintro e w' ⟨rfl, rfl⟩)
              go_ret
              exact ⟨rfl, below_drewN hB2 _⟩
            · have hjn' : ¬ (j : Int) < (n : Int) := by omega
              go_wp2
              go_ret
              exact ⟨rfl, below_drewN hB2 _⟩
  · obtain rfl := hr.past hin
    have hin' : (n : Int) ≤ (r : Int) := by omega
    clear hr
    go_wp2
    go_loopw [8] (fun v wr => ∃ k m : Nat, k ≤ n ∧ v = .int .i64 k ∧ wr = w2.drewN m) (fun v _ => n - (intOf v).toNat)
    case atStart => exact ⟨0, 0, Nat.zero_le _, rfl, rfl⟩
    case round =>
      obtain ⟨k, m, hk, rfl, rfl⟩ := hrel
      by_cases hlt : k < n
      · obtain rfl := ht2.at' (by omega)
        have hc := ht2.cell k hlt
        have hc' := hcp.out k hlt
        generalize f k = c at hc hc'
        have hcc : (c != c) = false := by simp
        have hlt' : (k : Int) < (n : Int) := by omega
        go_wp2
        go_quiet (fail)
        go_wp2
        exact ⟨⟨k + 1, m + nq, by omega, by go_num, rfl⟩, by simp [intOf]; omega⟩
      · have hnlt : ¬ (k : Int) < (n : Int) := by omega
        go_wp2
        go_ret
        exact ⟨by simp, below_drewN hB2 _⟩
end Go.Proofs.YbulkcpiuDoor
