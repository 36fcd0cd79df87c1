/-
  The walk of zzs4554bnode.
-/
import Derived.Test.YbulkcpheGreatMap
namespace Go.Proofs.YbulkcpheGreat
open Go.RowKit Go.Maps

/-- The 27 cells of the Node: the lock is free, the catalogue lies at cell 16. -/
def nodeA (B : Nat) : Array Value :=
  #[.int .u64 0, .string ⟨#[]⟩, .int .u64 0, .int .u64 0, .pointer none, .pointer none, .nilFunc, .nilFunc, .nilFunc, .pointer none, .int .i64 0, .int .i64 0, .int .i64 0, .int .i64 0, .int .i32 0, .int .u32 0, .map (some B), .int .i64 0, .int .u64 0, .slice none 0 0, .slice none 0 0, .map none, .pointer none, .map none, .map none, .map none, .map none]

set_option maxRecDepth 100000 in
set_option maxHeartbeats 400000 in
theorem node_any (items : List Lk.It) (b off cap : Nat) (nm : ByteArray) (w : World) (hlen : items.length ≤ 1024) (ao : Option Addr) (hao : 0 < items.length → ao = some ⟨b, off, none⟩)
    (hc : ∀ i, (h : i < items.length) → w.rangeAt b (off + i * 6) items[i].cells) (hk : ∀ i, (h : i < items.length) → 0 ≤ items[i].k ∧ items[i].k ≤ 255) :
    Calls Ybaz.prog 5 #[.slice ao items.length cap] w fun e w' => ∃ N D n, e = .returned (.pointer (some ⟨N, 0, none⟩)) ∧ Below w.heap.size w w' ∧ w.heap.size < N ∧ w'.heap[N]? = some (.cells (nodeA w.heap.size) 72 (0, 0)) ∧
      w'.ownsMap Ybaz.prog 9 ptrE w.heap.size n D ∧ Holds w' w.heap.size D nm (Lk.lastW nm items) := by
  have hmm := @run_makeMap Ybaz.prog
  go_enter Ybaz.func5, Ybaz.ntmps5
  go_wp2_with fail
  refine wp_name (fun W => ∃ D, W.ownsMap Ybaz.prog 9 ptrE w.heap.size 0 D ∧ Below w.heap.size w W ∧ w.heap.size < W.heap.size ∧ Holds W w.heap.size D nm none) ⟨.map [], World.ownsMap_made _ _ _ _, (Below.refl _ _).alloc (Nat.le_refl _) _, by simp, rfl⟩ ?_
  intro W ⟨D0, hown0, hb0, hs0, hH0⟩
  go_loopw [10] (fun i wr => ∃ k : Nat, k ≤ items.length ∧ i = .int .i64 k ∧ ∃ D, wr.ownsMap Ybaz.prog 9 ptrE w.heap.size k D ∧ Below w.heap.size w wr ∧ w.heap.size < wr.heap.size ∧ Holds wr w.heap.size D nm (Lk.lastW nm (items.take k))) (fun i _ => items.length - (intOf i).toNat)
  case atStart => exact ⟨0, Nat.zero_le _, rfl, D0, hown0, hb0, hs0, hH0⟩
  case round =>
    obtain ⟨k, hkl, rfl, D, hown, hb, hs, hH⟩ := hrel
    clear hown0 hb0 hs0 hH0
    by_cases hi : k < items.length
    · obtain rfl := hao (by omega)
      have hx := hc k hi
      have hki := hk k hi
      have hlt := Lk.lastW_take nm items k hi
      generalize items[k] = x at hx hki hlt
      obtain ⟨hk0, hk1⟩ := hki
      have hbl : b < w.heap.size := World.block_lt_of_cell? w _ (hx 0 _ rfl)
      have hxW : wr.rangeAt b (off + k * 6) [.int .u8 x.k, .int .u64 x.n, .bool x.r, .int .u8 x.s, .int .i64 x.c, .string x.h] := fun j v hv => (hb.cell (p := ⟨b, off + k * 6 + j, none⟩) hbl).trans (hx j v hv)
      have HL : Hid (Lk.lastW nm (items.take (k + 1)) = if x.has nm = true then some x else Lk.lastW nm (items.take k)) := hlt
      have hkey := key_of (Lk.nameOf x.k) (Lk.name_size _)
      clear hlt hx hc hk
      go_wp2_with (first
        | (refine wpList_load_mid rfl 80 (.tmp 12) rfl b (off + k * 6) rfl [.int .u8 x.k, .int .u64 x.n, .bool x.r, .int .u8 x.s, .int .i64 x.c, .string x.h] _ hxW Ybaz.underlying80 rfl size80 ?_)
        | (go_at_call 11; refine (entry_lit x _ hk0 hk1).mono ?_; rintro e w1 ⟨rfl, hb1⟩)
        | (refine wpl_store32 rfl (.tmp 6) (.tmp 15) rfl _ x.entry rfl rfl Lk.zeroA (heap_alloc_new _ _) rfl rfl (entry_one x) ?_; intro w2 hz2 hg2; have hc0 := (cell_of_row _ _ 0 _ _ _ hz2).trans (show x.entry[0]? = some (.string (Lk.nameOf x.k)) from rfl); have hR := round_below (o3 := .cells (listing x) 77) (by simpa using hb1) hg2; have hown3 := ownsMap_below hown hR.1 hs)
        | (refine wpList_load_row rfl 32 (.tmp 6) rfl _ rfl 32 x.entry (0, 0) _ hz2 Ybaz.underlying32 rfl size32 ?_)
        | (refine wpl_build77 rfl (.tmp 19) rfl x rfl ?_)
        | (at_mapUpdate; refine wpList_mapUpdate_own _ rfl _ _ _ 58 rfl 9 74 law9 Ybaz.underlying58 ptrE w.heap.size k D rfl hown3 (by unfold maxLen; omega) _ _ (klit (Lk.nameOf x.k)) rfl rfl hkey (.lit (.int .i64 w2.heap.size)) [] (ptrE_mk _) ?_; intro w4 hown4 hg4))
      have hsz4 := hg4.size
      have hsz3 : (w2.alloc (.cells (listing x) 77)).heap.size = w2.heap.size + 1 := by simp
      have hR2 := hR.2
      go_roundw
      case rel =>
        exact ⟨k + 1, by omega, by go_num, _, hown4, (hb.trans (hR.1.mono (by omega))).grown hg4 (by omega) (fun j hj => by cases hj; exact Nat.le_refl _), by omega, by
          rw [HL.out]
          exact Holds.step hown.isMap (hH.kept (fun i _ h2 => hR.1.block i h2)) (heap_alloc_new w2 _) (by omega) hg4⟩
      case measure => simp [intOf]; omega
    · have HH : Hid (Holds wr w.heap.size D nm (Lk.lastW nm items)) := by
        rw [List.take_of_length_le (by omega)] at hH; exact hH
      clear hH
      go_wp2_with fail
      go_ret
      exact ⟨wr.heap.size, D, k, rfl, hb.alloc (by omega) _, hs, heap_alloc_new _ _, hown.alloc _, HH.out.kept (fun i _ h2 => Below.heap_alloc _ _ _ h2)⟩
end Go.Proofs.YbulkcpheGreat
