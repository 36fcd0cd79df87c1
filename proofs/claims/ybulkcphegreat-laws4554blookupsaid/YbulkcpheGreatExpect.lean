/-
  The walk of zzs4554bexpect.
-/
import Derived.Test.YbulkcpheGreatEntry
namespace Go.Proofs.YbulkcpheGreat
open Go.RowKit Go.MuLone

set_option maxRecDepth 100000 in
set_option maxHeartbeats 400000 in
theorem expect_any (items : List Lk.It) (b off cap : Nat) (nm : ByteArray) (w : World) (hlen : items.length ≤ 1024) (ao : Option Addr) (hao : 0 < items.length → ao = some ⟨b, off, none⟩)
    (hc : ∀ i, (h : i < items.length) → w.rangeAt b (off + i * 6) items[i].cells) (hk : ∀ i, (h : i < items.length) → 0 ≤ items[i].k ∧ items[i].k ≤ 255) :
    Calls Ybaz.prog 6 #[.slice ao items.length cap, .string nm] w fun e w' => e = .returned (.agg (Lk.expect nm items)) ∧ Below w.heap.size w w' := by
  go_enter Ybaz.func6, Ybaz.ntmps6
  go_wp2_with fail
  refine wp_name (fun W => W.heap[w.heap.size]? = some (.cells Lk.zeroA 32 (0, 0)) ∧ Below w.heap.size w W ∧ w.heap.size < W.heap.size) ⟨heap_alloc_new _ _, (Below.refl _ _).alloc (Nat.le_refl _) _, by simp⟩ ?_
  intro W ⟨hz, hb, hsz⟩
  go_loop [5] (fun i => ∃ j : Nat, j ≤ items.length ∧ i = .int .i64 ((j : Int) - 1) ∧ Hid (Lk.lastW nm items = Lk.lastW nm (items.take j))) (fun i => (intOf i + 1).toNat)
  case atStart => exact ⟨items.length, Nat.le_refl _, rfl, by unfold Hid; rw [List.take_length]⟩
  case round =>
    obtain ⟨j, hj, rfl, hl⟩ := hrel
    cases j with
    | zero =>
      have He : Hid (Lk.expect nm items = Lk.zeroA) := by unfold Hid Lk.expect; rw [hl.out]; rfl
      clear hl
      go_wp2_with (refine wpl_store32 rfl (.tmp 4) (.tmp 26) rfl w.heap.size Lk.zeroA rfl rfl Lk.zeroA hz rfl rfl zeroA_one ?_; intro w' hz' hg')
      exact bodyPost_ret (res32_row _ _ w.heap.size _ rfl rfl rfl hz') rfl ⟨by rw [He.out], hb.grown hg' (by omega) (fun k hk => by cases hk; exact Nat.le_refl _)⟩
    | succ i =>
      have hi : i < items.length := by omega
      obtain rfl := hao (by omega)
      have hx := hc i hi
      have hki := hk i hi
      rw [show (((i + 1 : Nat) : Int) - 1) = (i : Int) from by omega]
      have hlt := Lk.lastW_take nm items i hi
      generalize items[i] = x at hx hki hlt
      obtain ⟨hk0, hk1⟩ := hki
      have hbl : b < w.heap.size := World.block_lt_of_cell? w _ (hx 0 _ rfl)
      have hxW : W.rangeAt b (off + i * 6) x.cells := fun j v hv => (hb.cell (p := ⟨b, off + i * 6 + j, none⟩) hbl).trans (hx j v hv)
      have c0 : W.cell? ⟨b, off + i * 6, none⟩ = some (.int .u8 x.k) := hxW 0 _ rfl
      cases hh : x.has nm with
      | true =>
        have He : Hid (Lk.expect nm items = x.entry) := by unfold Hid Lk.expect; rw [hl.out, hlt, if_pos hh]
        have hb1 : ((Lk.nameOf x.k).toList == nm.toList) = true := hh
        clear hl hlt hh
        go_wp2_with (first | (go_at_call 10; refine (name_any _ _ hk0 hk1).mono ?_; rintro e w' ⟨rfl, rfl⟩) | (go_at_call 11; refine (entry_it x _ hk0 hk1).mono ?_; rintro e w1 ⟨rfl, hb2⟩; have hz2 := (hb2.block _ hsz).trans hz) | (refine wpl_store32 rfl (.tmp 4) (.tmp 25) rfl w.heap.size x.entry rfl rfl Lk.zeroA hz2 rfl rfl (entry_one x) ?_; intro w2 hz3 hg3) | (refine wpList_load_mid rfl 80 (.tmp 23) rfl b (off + i * 6) rfl x.cells _ hxW Ybaz.underlying80 rfl size80 ?_))
        exact bodyPost_ret (res32_row _ _ w.heap.size _ rfl rfl rfl hz3) rfl ⟨by rw [He.out], (hb.trans (hb2.mono (by omega))).grown hg3 (by have := hb2.size; omega) (fun k hk => by cases hk; exact Nat.le_refl _)⟩
      | false =>
        have He : Hid (Lk.lastW nm items = Lk.lastW nm (items.take i)) := by unfold Hid; rw [hl.out, hlt, if_neg (by rw [hh]; exact Bool.false_ne_true)]
        have hb1 : ((Lk.nameOf x.k).toList == nm.toList) = false := hh
        clear hl hlt hh
        go_wp2_with (go_at_call 10; refine (name_any _ _ hk0 hk1).mono ?_; rintro e w' ⟨rfl, rfl⟩)
        go_round
        case rel => exact ⟨i, by omega, rfl, He⟩
        case measure => simp [intOf]
end Go.Proofs.YbulkcpheGreat
