/-
  The walks of LawS4557ARaw and LawS4557ABuilt.
-/
import Derived.Test.YbulkcpiuDoorWalks
namespace Go.Proofs.YbulkcpiuDoor
open Go.RowKit Go.Deep

set_option maxRecDepth 100000 in
set_option maxHeartbeats 800000 in
theorem raw_any (ao : Option Addr) (n cap b off : Nat) (i : Int) (f : Nat → Int) (w : World) (hm : n ≤ maxLen) (h0 : -9223372036854775808 ≤ i) (h1 : i ≤ 9223372036854775807) (ht : Text w ao n b off f) (htab : Table w) :
    Calls Ybad.prog 3 #[.slice ao n cap, .int .i64 i] w fun e w' => e = .returned (.bool true) ∧ Below w.heap.size w w' := by
  unfold maxLen at hm
  by_cases hn : n ≤ 1024
  · have hn' : (n : Int) ≤ 1024 := by omega
    by_cases hi : i < 0
    · clear h0 h1
      go_enter Ybad.func3, Ybad.ntmps3
      go_wp2
      go_ret
      exact ⟨rfl, Below.refl _ _⟩
    · obtain ⟨j, rfl⟩ := Int.eq_ofNat_of_zero_le (show 0 ≤ i by omega)
      have hj : j ≤ 9223372036854775807 := by omega
      clear h0 h1
      go_enter Ybad.func3, Ybad.ntmps3
      go_wp2_with (go_at_call 5; refine (check_any ao n cap b off j f _ hn hj ht htab).mono ?_; rintro e w' ⟨rfl, hb⟩)
      go_ret
      exact ⟨rfl, hb⟩
  · have hn' : 1024 < (n : Int) := by omega
    clear h0 h1
    go_enter Ybad.func3, Ybad.ntmps3
    go_wp2
    go_ret
    exact ⟨rfl, Below.refl _ _⟩

/-- The law's table of bytes. -/
def tb (c : Int) : Int := [32, 32, 9, 10, 13, 120, 44, 93, 11, 12].getD (c % 10).toNat 0
theorem tb_of {c : Int} {k : Nat} (h : c % 10 = (k : Int)) : tb c = [32, 32, 9, 10, 13, 120, 44, 93, 11, 12].getD k 0 := by
  unfold tb; rw [h]; rfl
theorem tb_bd (c : Int) : 0 ≤ tb c ∧ tb c ≤ 255 := by
  have h0 : 0 ≤ c % 10 := by omega
  obtain ⟨k, hk⟩ := Int.eq_ofNat_of_zero_le h0
  have hk10 : k < 10 := by omega
  rw [tb_of hk]
  match k, hk10 with
  | 0, _ | 1, _ | 2, _ | 3, _ | 4, _ | 5, _ | 6, _ | 7, _ | 8, _ | 9, _ => decide
def rowF (f : Nat → Int) (k j : Nat) : Value := if j < k then .int .u8 (tb (f j)) else .int .u8 0

theorem tab_at (d : Nat) (hd : d < 10) : ((((⟨#[32, 32, 9, 10, 13, 120, 44, 93, 11, 12]⟩ : ByteArray)[d]'hd).toNat : Nat) : Int) = [32, 32, 9, 10, 13, 120, 44, 93, 11, 12].getD d 0 := by
  match d, hd with
  | 0, _ | 1, _ | 2, _ | 3, _ | 4, _ | 5, _ | 6, _ | 7, _ | 8, _ | 9, _ => rfl
theorem row_step {f : Nat → Int} {k : Nat} {x : Int} (h : x = tb (f k)) (i : Nat) : (if i = k then Value.int .u8 x else rowF f k i) = rowF f (k + 1) i := by
  unfold rowF
  by_cases e : i = k
  · subst e; rw [if_pos rfl, if_pos (by omega), h]
  · rw [if_neg e]
    by_cases h2 : i < k
    · rw [if_pos h2, if_pos (by omega)]
    · rw [if_neg h2, if_neg (by omega)]

set_option maxRecDepth 100000 in
set_option maxHeartbeats 1600000 in
theorem built_any (ao : Option Addr) (n cap b off : Nat) (s : Int) (f : Nat → Int) (w : World) (hm : n ≤ maxLen) (h0 : 0 ≤ s) (h1 : s ≤ 255) (ht : Text w ao n b off f) (htab : Table w) :
    Calls Ybad.prog 4 #[.slice ao n cap, .int .u8 s] w fun e w' => e = .returned (.bool true) ∧ Below w.heap.size w w' := by
  unfold maxLen at hm
  by_cases hn : n ≤ 1024
  · have hn' : (n : Int) ≤ 1024 := by omega
    have hmk := run_make_row' (P := Ybad.prog) 22 5 (.int .u8 0) 1 Ybad.underlying22 info5 rfl .i64 .i64 n (by omega) (by omega)
    go_enter Ybad.func4, Ybad.ntmps4
    go_wp2
    go_loopw [6] (fun v wr => ∃ k : Nat, k ≤ n ∧ v = .int .i64 k ∧ Hid (wr.rowIs w.heap.size 5 n (rowF f k)) ∧ Below w.heap.size w wr) (fun v _ => n - (intOf v).toNat)
    case atStart => exact ⟨0, Nat.zero_le _, rfl, (World.rowIs_made w (.int .u8 0) n 5).congr (fun i _ => by simp [rowF]), (Below.refl _ _).alloc (Nat.le_refl _) _⟩
    case round =>
      obtain ⟨k, hk, rfl, hrow, hb⟩ := hrel
      by_cases hlt : k < n
      · obtain rfl := ht.at' (by omega)
        have hkn : (k : Int) < (n : Int) := by omega
        have hc := (ht.below hb).cell k hlt
        have c0 := ht.lo k hlt
        have c1 := ht.hi k hlt
        have hw0 := hrow.out.cell hlt
        have hw1 := hrow.out.frozen k
        generalize rowF f k k = old at hw0
        obtain ⟨c, hcf⟩ : ∃ c, c = f k := ⟨_, rfl⟩
        rw [← hcf] at hc c0 c1
        have HC : Hid (c = f k) := hcf
        clear hcf
        obtain ⟨d, hd⟩ := Int.eq_ofNat_of_zero_le (show 0 ≤ c % 10 by omega)
        have hd10 : d < 10 := by omega
        have HT := tb_of hd
        have HT' : Hid (tb c = [32, 32, 9, 10, 13, 120, 44, 93, 11, 12].getD d 0) := HT
        clear HT
        go_wp2
        exact ⟨⟨k + 1, by omega, by go_num, (hrow.out.set k _).congr (fun i _ => row_step (by rw [← HC.out, HT'.out]; exact tab_at d hd10) i), hb.setCell (Nat.le_refl _) _⟩, by simp [intOf]; omega⟩
      · obtain rfl : k = n := by omega
        have htx : Text wr (some ⟨w.heap.size, 0, none⟩) k w.heap.size 0 (fun j => tb (f j)) := ⟨fun _ => rfl, fun j hj => by rw [Nat.zero_add, hrow.out.cell hj]; simp [rowF, hj], fun j _ => (tb_bd _).1, fun j _ => (tb_bd _).2⟩
        have htw := htab.below hb
        obtain ⟨q, hq⟩ := Int.eq_ofNat_of_zero_le (show 0 ≤ s % ((k : Int) + 2) from Int.emod_nonneg _ (by omega))
        have hq2 : q ≤ 9223372036854775807 := by have := Int.emod_lt_of_pos s (show 0 < (k : Int) + 2 by omega); omega
        go_wp2_with (go_at_call 5; refine (check_any _ k k w.heap.size 0 q _ _ hn hq2 htx htw).mono ?_; rintro e w' ⟨rfl, hb'⟩)
        go_ret
        exact ⟨rfl, hb.trans (hb'.mono hb.size)⟩
  · have hn' : 1024 < (n : Int) := by omega
    go_enter Ybad.func4, Ybad.ntmps4
    go_wp2
    go_ret
    exact ⟨rfl, Below.refl _ _⟩
end Go.Proofs.YbulkcpiuDoor
