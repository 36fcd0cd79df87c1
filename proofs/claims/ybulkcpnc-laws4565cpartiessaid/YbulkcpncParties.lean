/-
  The walk of (*screening).parties over a zero Day.
-/
import Derived.Test.YbulkcpncDay
namespace Go.Proofs.Ybulkcpnc
open Go.RowKit Go.Deep
set_option linter.unusedVariables false

theorem wp_name {P : Program} {c : Code} {Q : Exit → Act → World → Prop} {a : Act} {w : World} (F : World → Prop) (h0 : F w) (h : ∀ W, F W → Code.wp P c Q a W) : Code.wp P c Q a w := h w h0

def insA (fund kind sec cp : ByteArray) : Array Value := #[.string ⟨#[]⟩, .string fund, .int .i64 0, .string kind, .string ⟨#[]⟩, .pointer none, .string ⟨#[]⟩, .string sec, .pointer none, .pointer none, .int .u64 0, .int .i64 0, .pointer none, .string cp]
def notL : ByteArray := ⟨#[99, 111, 117, 110, 116, 101, 114, 112, 97, 114, 116, 121, 45, 110, 111, 116, 45, 108, 105, 115, 116, 101, 100]⟩

/-- A zero Day at block d, a screening at block s that holds it. -/
structure Env (w0 w : World) (d s : Nat) : Prop where
  d7 : w.cell? ⟨d, 7, none⟩ = some (.map none)
  d10 : w.cell? ⟨d, 10, none⟩ = some (.map none)
  d14 : w.cell? ⟨d, 14, none⟩ = some (.map none)
  d15 : w.cell? ⟨d, 15, none⟩ = some (.map none)
  d16 : w.cell? ⟨d, 16, none⟩ = some (.map none)
  s0 : w.cell? ⟨s, 0, none⟩ = some (.pointer (some ⟨d, 0, none⟩))
  bel : Below w0.heap.size w0 w
/-- An instruction at block N. -/
structure Ins (w : World) (N : Nat) (fund kind sec cp : ByteArray) : Prop where
  n1 : w.cell? ⟨N, 1, none⟩ = some (.string fund)
  n3 : w.cell? ⟨N, 3, none⟩ = some (.string kind)
  n7 : w.cell? ⟨N, 7, none⟩ = some (.string sec)
  n13 : w.cell? ⟨N, 13, none⟩ = some (.string cp)
theorem keepc {w w' : World} {p : Addr} {v : Value} (hb : Below w.heap.size w w') (h : w.cell? p = some v) : w'.cell? p = some v := (hb.cell (World.block_lt_of_cell? w _ h)).trans h
theorem Env.below {w0 w w' : World} {d s : Nat} (h : Env w0 w d s) (hb : Below w.heap.size w w') : Env w0 w' d s :=
  ⟨keepc hb h.d7, keepc hb h.d10, keepc hb h.d14, keepc hb h.d15, keepc hb h.d16, keepc hb h.s0, h.bel.trans (hb.mono h.bel.size)⟩
theorem Ins.below {w w' : World} {N : Nat} {fund kind sec cp : ByteArray} (h : Ins w N fund kind sec cp) (hb : Below w.heap.size w w') : Ins w' N fund kind sec cp :=
  ⟨keepc hb h.n1, keepc hb h.n3, keepc hb h.n7, keepc hb h.n13⟩
theorem Env.drewN {w0 w : World} {d s : Nat} (h : Env w0 w d s) (q : Nat) : Env w0 (w.drewN q) d s := h.below ⟨rfl, rfl, rfl, Nat.le_refl _, fun _ _ => rfl⟩
theorem Ins.drewN {w : World} {N : Nat} {fund kind sec cp : ByteArray} (h : Ins w N fund kind sec cp) (q : Nat) : Ins (w.drewN q) N fund kind sec cp := h.below ⟨rfl, rfl, rfl, Nat.le_refl _, fun _ _ => rfl⟩
theorem ins_new (w : World) (fund kind sec cp : ByteArray) : Ins (w.alloc (.cells (insA fund kind sec cp) 48)) w.heap.size fund kind sec cp :=
  have h := heap_alloc_new w (.cells (insA fund kind sec cp) 48)
  ⟨cell_of_row _ _ 1 _ _ _ h, cell_of_row _ _ 3 _ _ _ h, cell_of_row _ _ 7 _ _ _ h, cell_of_row _ _ 13 _ _ _ h⟩

/-- What parties answers: nil, or the one reason. -/
def Ans (w0 w' : World) (kind cp : ByteArray) (v : Value) : Prop :=
  ((kind.toList == [112, 97, 121, 109, 101, 110, 116]) = true ∨ cp.toList.isEmpty = true) ∧ v = .slice none 0 0 ∨ (kind.toList == [112, 97, 121, 109, 101, 110, 116]) = false ∧ cp.toList.isEmpty = false ∧ ∃ g c, v = .slice (some ⟨g, 0, none⟩) 1 c ∧ w'.cell? ⟨g, 0, none⟩ = some (.string notL)

theorem field62 (w : World) : (Instr.field 62 (.agg secZ) 6).run Yba.prog w = .ok (.string ⟨#[]⟩) w := by kernel_rfl
theorem info9' : (Yba.prog.info? 9).map (fun i => (i.zero, i.size, i.bytes)) = some (some (.string ⟨#[]⟩), 1, 16) := by kernel_rfl
theorem info9 : ∃ i, Yba.prog.info? 9 = some i ∧ i.zero = some (.string ⟨#[]⟩) ∧ i.size = 1 ∧ i.bytes = 16 := by
  obtain ⟨i, hi, e⟩ := Option.map_eq_some_iff.1 info9'
  simp only [Prod.mk.injEq] at e
  exact ⟨i, hi, e.1, e.2.1, e.2.2⟩
theorem one_cell (w : World) (v : Value) (t : TypeId) (N : Nat) (hN : N = w.heap.size := by rfl) : ∀ j u, [v][j]? = some u → (w.alloc (.cells #[v] t)).cell? ((⟨N, 0, none⟩ : Addr).add j) = some u := by
  subst hN
  intro j u hj
  rcases j with _ | j
  · obtain rfl : v = u := by simpa using hj
    exact cell_of_row _ _ 0 _ _ _ (heap_alloc_new w (.cells #[v] t))
  · simp at hj
theorem own_one {w : World} {B : Nat} {v x : Value} (h : w.ownsRow B 9 1 v 1 [x]) : ∃ g c, v = .slice (some ⟨g, 0, none⟩) 1 c ∧ w.cell? ⟨g, 0, none⟩ = some x ∧ B ≤ g := by
  have h0 := h
  rcases h.2 with ⟨_, h1⟩ | ⟨g, cap, cur, rfl, hb, _⟩
  · cases h1
  · exact ⟨g, cap, rfl, by rw [h0.cellAt 0 (by decide)]; rfl, hb⟩
set_option maxRecDepth 100000 in
set_option maxHeartbeats 1600000 in
theorem parties_any (w0 w : World) (d s : Nat) (fund kind sec cp : ByteArray) (hE : Env w0 w d s) :
    Calls Yba.prog 4 #[.pointer (some ⟨s, 0, none⟩), .agg (insA fund kind sec cp)] w fun e w' => ∃ v, e = .returned (.tuple #[v, .nilIface]) ∧ Ans w0 w' kind cp v ∧ Env w0 w' d s := by
  have hI := ins_new w fund kind sec cp
  have hE1 := hE.below ((Below.refl _ _).alloc (Nat.le_refl _) (.cells (insA fund kind sec cp) 48))
  have k9 := field62
  have n3 := hI.n3
  have n13 := hI.n13
  have n1 := hI.n1
  have n7 := hI.n7
  have g0 := hE1.s0
  have e1 : (insA fund kind sec cp)[1]? = some (.string fund) := rfl
  have e3 : (insA fund kind sec cp)[3]? = some (.string kind) := rfl
  have e7 : (insA fund kind sec cp)[7]? = some (.string sec) := rfl
  have e13 : (insA fund kind sec cp)[13]? = some (.string cp) := rfl
  cases hp : (kind.toList == [112, 97, 121, 109, 101, 110, 116])
  · cases hc : cp.toList.isEmpty
    · cases hy : (kind.toList == [98, 117, 121])
      · go_enter Yba.func4, Yba.ntmps4
        go_wp2_with fail
        refine wp_name (fun W => Ins W w.heap.size fund kind sec cp ∧ Env w0 W d s) ⟨hI, hE1⟩ ?_
        clear hI hE1 n1 n3 n7 n13 g0 e1 e3 e7 e13 hE
        rintro W ⟨hI, hE⟩
        have t0 := hE.s0
        have m1 := hI.n1
        have m13 := hI.n13
        go_region_held3 (fun W => W.cell? ⟨s, 0, none⟩ = some (.pointer (some ⟨d, 0, none⟩)) ∧ W.cell? ⟨w.heap.size, 1, none⟩ = some (.string fund) ∧ W.cell? ⟨w.heap.size, 13, none⟩ = some (.string cp)) ((go_split_ands; first | exact ⟨by assumption, by assumption, by assumption⟩ | exact ⟨hE5.s0, hI5.n1, hI5.n13⟩))
          (first | (go_at_call 5; refine (cp_any d fund cp _ ?_ ?_).mono ?_; exact hE.d10; exact hE.d14; rintro e w5 ⟨rfl, hw5⟩; have hE5 : Env w0 w5 d s := (by rw [hw5]; exact hE.drewN 1); have hI5 : Ins w5 w.heap.size fund kind sec cp := (by rw [hw5]; exact hI.drewN 1); clear hw5))
        clear t0 m1 m13 hE hI
        obtain ⟨i, hi, hz, hsz, hby⟩ := info9
        go_wp2_with (refine wpList_append_grows _ rfl (.tmp 35) (.tmp 36) 49 rfl 9 i (.string ⟨#[]⟩) 1 16 Yba.underlying49 hi hz hsz hby rfl (by decide) none 0 0 [] rfl (fun _ => ⟨rfl, rfl⟩) rfl (fun b hb => by cases hb) ⟨w5.heap.size, 0, none⟩ 1 1 [.string notL] rfl rfl (one_cell _ _ _ _) (by simp [Value.oneCell']) (by decide) (by decide) (by decide) ?_; intro v6 w6 hown hg6; obtain ⟨g, c, hv6, hcell, hbg⟩ := own_one hown; subst hv6; have hb6 : Below w5.heap.size w5 w6 := ((Below.refl _ _).alloc (Nat.le_refl _) _).grown hg6 (by simp) (fun k hk => by cases hk); have m3 := (hI5.below hb6).n3; clear hown hg6 hi hz hsz hby)
        go_ret2
        exact ⟨_, rfl, Or.inr ⟨hp, hc, g, c, rfl, hcell⟩, hE5.below hb6⟩
      · go_enter Yba.func4, Yba.ntmps4
        go_wp2_with fail
        refine wp_name (fun W => Ins W w.heap.size fund kind sec cp ∧ Env w0 W d s) ⟨hI, hE1⟩ ?_
        clear hI hE1 n1 n3 n7 n13 g0 e1 e3 e7 e13 hE
        rintro W ⟨hI, hE⟩
        have t0 := hE.s0
        have m1 := hI.n1
        have m13 := hI.n13
        go_region_held3 (fun W => W.cell? ⟨s, 0, none⟩ = some (.pointer (some ⟨d, 0, none⟩)) ∧ W.cell? ⟨w.heap.size, 1, none⟩ = some (.string fund) ∧ W.cell? ⟨w.heap.size, 13, none⟩ = some (.string cp)) ((go_split_ands; first | exact ⟨by assumption, by assumption, by assumption⟩ | exact ⟨hE5.s0, hI5.n1, hI5.n13⟩))
          (first | (go_at_call 5; refine (cp_any d fund cp _ ?_ ?_).mono ?_; exact hE.d10; exact hE.d14; rintro e w5 ⟨rfl, hw5⟩; have hE5 : Env w0 w5 d s := (by rw [hw5]; exact hE.drewN 1); have hI5 : Ins w5 w.heap.size fund kind sec cp := (by rw [hw5]; exact hI.drewN 1); clear hw5))
        clear t0 m1 m13 hE hI
        obtain ⟨i, hi, hz, hsz, hby⟩ := info9
        go_wp2_with (refine wpList_append_grows _ rfl (.tmp 35) (.tmp 36) 49 rfl 9 i (.string ⟨#[]⟩) 1 16 Yba.underlying49 hi hz hsz hby rfl (by decide) none 0 0 [] rfl (fun _ => ⟨rfl, rfl⟩) rfl (fun b hb => by cases hb) ⟨w5.heap.size, 0, none⟩ 1 1 [.string notL] rfl rfl (one_cell _ _ _ _) (by simp [Value.oneCell']) (by decide) (by decide) (by decide) ?_; intro v6 w6 hown hg6; obtain ⟨g, c, hv6, hcell, hbg⟩ := own_one hown; subst hv6; have hb6 : Below w5.heap.size w5 w6 := ((Below.refl _ _).alloc (Nat.le_refl _) _).grown hg6 (by simp) (fun k hk => by cases hk); have m3 := (hI5.below hb6).n3; clear hown hg6 hi hz hsz hby)
        have hE6 := hE5.below hb6
        have hI6 := hI5.below hb6
        have HR : Hid (∀ W, Below w6.heap.size w6 W → Ans w0 W kind cp (.slice (some ⟨g, 0, none⟩) 1 c)) := fun W hW => Or.inr ⟨hp, hc, g, c, rfl, keepc hW hcell⟩
        have t0 := hE6.s0
        have m7 := hI6.n7
        clear hE5 hI5 hb6 hbg hcell
        go_region_held3 (fun W => W.cell? ⟨s, 0, none⟩ = some (.pointer (some ⟨d, 0, none⟩)) ∧ W.cell? ⟨w.heap.size, 7, none⟩ = some (.string sec)) ((go_split_ands; first | exact ⟨by assumption, by assumption⟩ | exact ⟨hE8.s0, hI8.n7⟩ | exact ⟨hE7.s0, hI7.n7⟩))
          (first | (go_at_call 7; refine (security_any d sec _ ?_).mono ?_; exact hE6.d7; rintro e w7 ⟨rfl, hb7⟩; have hE7 := (hE6.drewN 1).below hb7; have hI7 := (hI6.drewN 1).below hb7) | (go_at_call 6; refine (related_any d _ _ ?_ ?_).mono ?_; exact hE7.d10; exact hE7.d15; rintro e w8 ⟨rfl, hw8⟩; have hE8 : Env w0 w8 d s := (by rw [hw8]; exact hE7); have hI8 : Ins w8 w.heap.size fund kind sec cp := (by rw [hw8]; exact hI7); have hb8 : Below w6.heap.size w6 w8 := (by rw [hw8]; exact ⟨hb7.os, hb7.tape, hb7.output, hb7.size, hb7.block⟩); clear hw8))
        clear m3 m7 t0
        have t0 := hE8.s0
        have m1 := hI8.n1
        have m7 := hI8.n7
        go_wp2
        go_region_held3 (fun W => W.cell? ⟨s, 0, none⟩ = some (.pointer (some ⟨d, 0, none⟩)) ∧ W.cell? ⟨w.heap.size, 1, none⟩ = some (.string fund) ∧ W.cell? ⟨w.heap.size, 7, none⟩ = some (.string sec)) ((go_split_ands; first | exact ⟨by assumption, by assumption, by assumption⟩ | exact ⟨hE9.s0, hI9.n1, hI9.n7⟩))
          (first | (go_at_call 8; refine (consented_any d fund sec _ ?_ ?_).mono ?_; exact hE8.d10; exact hE8.d16; rintro e w9 ⟨rfl, hw9⟩; have hE9 : Env w0 w9 d s := (by rw [hw9]; exact hE8.drewN 1); have hI9 : Ins w9 w.heap.size fund kind sec cp := (by rw [hw9]; exact hI8.drewN 1); have hb9 : Below w6.heap.size w6 w9 := (by rw [hw9]; exact ⟨hb8.os, hb8.tape, hb8.output, hb8.size, hb8.block⟩); clear hw9))
        go_wp2
        go_ret2
        exact ⟨_, rfl, HR.out _ hb9, hE9⟩
    · cases hy : (kind.toList == [98, 117, 121])
      · go_enter Yba.func4, Yba.ntmps4
        go_wp2
        go_ret2
        exact ⟨_, rfl, Or.inl ⟨Or.inr hc, rfl⟩, hE1⟩
      · go_enter Yba.func4, Yba.ntmps4
        go_wp2_with fail
        refine wp_name (fun W => Ins W w.heap.size fund kind sec cp ∧ Env w0 W d s) ⟨hI, hE1⟩ ?_
        clear hI hE1 n1 n3 n7 n13 g0 e1 e3 e7 e13 hE
        rintro w6 ⟨hI6, hE6⟩
        have HR : Hid (∀ W, Below w6.heap.size w6 W → Ans w0 W kind cp (.slice none 0 0)) := fun W _ => Or.inl ⟨Or.inr hc, rfl⟩
        have t0 := hE6.s0
        have m3 := hI6.n3
        have m7 := hI6.n7
        go_region_held3 (fun W => W.cell? ⟨s, 0, none⟩ = some (.pointer (some ⟨d, 0, none⟩)) ∧ W.cell? ⟨w.heap.size, 7, none⟩ = some (.string sec)) ((go_split_ands; first | exact ⟨by assumption, by assumption⟩ | exact ⟨hE8.s0, hI8.n7⟩ | exact ⟨hE7.s0, hI7.n7⟩))
          (first | (go_at_call 7; refine (security_any d sec _ ?_).mono ?_; exact hE6.d7; rintro e w7 ⟨rfl, hb7⟩; have hE7 := (hE6.drewN 1).below hb7; have hI7 := (hI6.drewN 1).below hb7) | (go_at_call 6; refine (related_any d _ _ ?_ ?_).mono ?_; exact hE7.d10; exact hE7.d15; rintro e w8 ⟨rfl, hw8⟩; have hE8 : Env w0 w8 d s := (by rw [hw8]; exact hE7); have hI8 : Ins w8 w.heap.size fund kind sec cp := (by rw [hw8]; exact hI7); have hb8 : Below w6.heap.size w6 w8 := (by rw [hw8]; exact ⟨hb7.os, hb7.tape, hb7.output, hb7.size, hb7.block⟩); clear hw8))
        clear m3 m7 t0
        have t0 := hE8.s0
        have m1 := hI8.n1
        have m7 := hI8.n7
        go_wp2
        go_region_held3 (fun W => W.cell? ⟨s, 0, none⟩ = some (.pointer (some ⟨d, 0, none⟩)) ∧ W.cell? ⟨w.heap.size, 1, none⟩ = some (.string fund) ∧ W.cell? ⟨w.heap.size, 7, none⟩ = some (.string sec)) ((go_split_ands; first | exact ⟨by assumption, by assumption, by assumption⟩ | exact ⟨hE9.s0, hI9.n1, hI9.n7⟩))
          (first | (go_at_call 8; refine (consented_any d fund sec _ ?_ ?_).mono ?_; exact hE8.d10; exact hE8.d16; rintro e w9 ⟨rfl, hw9⟩; have hE9 : Env w0 w9 d s := (by rw [hw9]; exact hE8.drewN 1); have hI9 : Ins w9 w.heap.size fund kind sec cp := (by rw [hw9]; exact hI8.drewN 1); have hb9 : Below w6.heap.size w6 w9 := (by rw [hw9]; exact ⟨hb8.os, hb8.tape, hb8.output, hb8.size, hb8.block⟩); clear hw9))
        go_wp2
        go_ret2
        exact ⟨_, rfl, HR.out _ hb9, hE9⟩
  · go_enter Yba.func4, Yba.ntmps4
    go_wp2
    go_ret2
    exact ⟨_, rfl, Or.inl ⟨Or.inl hp, rfl⟩, hE1⟩
end Go.Proofs.Ybulkcpnc
