/-
  THE PROOF OF 'Rows.LawS4557ARawCardSaid': the row proved (the frame after the guide's Mapy texts and proof-skeleton.mjs), then the tied card by the builder's one call.
-/
import Derived.Test.YbulkcpiuDoorTab
import Derived.Test.YbulkcpiuDoorTie
import Derived.Test.YbulkcpiuDoorCards
import Derived.SevenTiedAt
namespace Go.Proofs.YbulkcpiuDoor.lawS4557ARaw
open Go.ChangeShapes Go.WideShapes Go.ChangeAt Go.RowKit
set_option linter.unusedVariables false

set_option maxRecDepth 100000 in
theorem lifted (os : Os) (started : os.Started) (H : Type) (enc : TypeId × Value → H) :
    ReturnsInHanded {} Ybad.checked os 3 .any (fun w args => (Rows.lawS4557ARawSpec.pre enc Ybad.prog Ybad.f3 [] false w args ∧ laidMetH Ybad.prog Rows.lawS4557ARawRow.laid w) ∧ sizedMet enc Ybad.prog Ybad.f3 (OpenSpec.ofChange Rows.lawS4557ARawSpec) false w args)
      (Rows.lawS4557ARawSpec.post enc Ybad.prog Ybad.f3 false true false false) := by
  refine returnsInHanded_of_change_and (C := Ybad.checked) (X := fun w _ => laidMetH Ybad.prog Rows.lawS4557ARawRow.laid w) (fun _ _ _ hh h => h.of_heap hh) own started (by kernel_rfl) Ybad.func3
    (ChangeSpec.witness_shaped (enc := enc) (C := Ybad.checked) (os := os) (X := fun w _ => laidMetH Ybad.prog Rows.lawS4557ARawRow.laid w) false (World.doorLaid Ybad.prog 14 os) #[.slice none 0 0, .int .i64 0] 8 rfl (World.shaped_of_RefB (by kernel_rfl) (by kernel_rfl)) (by kernel_rfl) (by kernel_rfl) (by kernel_rfl) (door_met os _)) ?_
  intro W base args ds gs before hval0 hW _ _ hL _
  have hval : ∀ (j : Nat) t v, Ybad.f3.params[j]? = some t → args[j]? = some v → Value.okWide Ybad.prog W .any base t v := hval0
  have hW' := hW
  obtain ⟨p, q, hA0, hV0, rfl, hfz, hnd⟩ := hW
  have hA : DataW.TrodAll enc Ybad.prog W 0 (fun _ => true) true Ybad.f3.params.toList args.toList ds p := hA0
  have hV : DataW.TrodVars enc Ybad.prog W (fun _ => true) [vname] gs q := hV0
  rw [Ybad.params3] at hA hval
  obtain ⟨v0, vs0, d0, ds0, p0, q0, hargs, rfl, rfl, h0, r0⟩ := trodAll_cons hA
  obtain ⟨v1, vs1, d1, ds1, p1, q1, rfl, rfl, rfl, h1, r1⟩ := trodAll_cons r0
  obtain ⟨rfl, rfl, rfl⟩ := trodAll_nil r1
  obtain rfl : args = #[v0, v1] := by cases args; simp_all
  obtain ⟨g, t, cs, fuel, d, p', rfl, hg, ht, hvar, hd, rfl⟩ := trodVars_one hV
  obtain rfl := Option.some.inj (gTab.symm.trans hg)
  obtain rfl := Option.some.inj (tTab.symm.trans ht)
  have hvl := var_of_laid hL
  obtain rfl : cs = tabC := Option.some.inj (hvar.symm.trans hvl)
  obtain ⟨rfl, rfl⟩ := DataW.Trod.unique (v := .agg tabC) ⟨fuel, hd⟩ ⟨3, reads_tab enc W _ _⟩
  obtain ⟨a0, len0, cap0, rfl⟩ := okWide_slice Ybad.underlying22 (hval 0 22 v0 rfl rfl)
  have k0 := h0
  have lt0 : ∀ x ∈ p0, x.block < W.heap.size := by obtain ⟨m, hm⟩ := k0; exact DataW.trod_lt m _ _ _ hm
  obtain ⟨b, off, f, htx, hmx⟩ : ∃ (b off : Nat) (f : Nat → Int), Text W a0 len0 b off f ∧ len0 ≤ maxLen := by
    obtain ⟨fuel, hf⟩ := h0
    exact open_text (by simpa [Value.cells] using hf)
  obtain ⟨i, rfl, rfl, rfl, wi⟩ := open_int Ybad.underlying3 (hval 1 3 v1 rfl rfl) h1
  have hbi := bounds_i64 wi
  have htab := table_of hvl
  have hlt0 : 0 < W.heap.size := World.block_lt_of_cell? W _ (htab 0 (by decide))
  clear hA0 hV0 hval0
  refine (raw_any a0 len0 cap0 b off i f W hmx (by omega) (by omega) htx htab).mono fun e W' ⟨he, bel⟩ => ?_
  subst he
  exact ⟨_, rfl, _, _, _, [], _, _, hW', trodAll_mk1 (shut_bool Ybad.underlying4 _), (trodAll_cons_mk (Below.trod laidOut (by kernel_rfl) (of_decide_eq_true (by kernel_rfl)) k0 bel lt0) (trodAll_cons_mk (shut_int Ybad.underlying3 wi) trodAll_mk0)),
    trodVars_mk1 gTab tTab (var?_below bel gTab hlt0 hvl) (reads_tab enc W' _ _), bel.frame _, fun h => by cases h⟩

theorem over : Rows.lawS4557ARawRow.holds Ybad.pinned (OpenSpec.ofChange Rows.lawS4557ARawSpec) :=
  OpenClaim.holds_of_wide 3 Ybad.f3 rfl rfl rfl rfl rfl rfl rfl ⟨rfl, rfl, rfl, rfl, rfl⟩ rfl rfl rfl rfl rfl (by kernel_rfl) Ybad.func3 (by kernel_rfl)
    (of_decide_eq_true (by kernel_rfl)) (by unfold Func.isWrapper; first | (rw [if_pos (by decide +kernel)]; kernel_rfl) | (rw [if_neg (by decide +kernel)]; exact ⟨rfl, rfl⟩))
    (fun os started H enc _ => lifted os started H enc)

theorem proved : Rows.LawS4557ARawCardSaid :=
  Claim7.holds_tied_plain_at .later [] [.data] true (true, "69ea427bda4b6e8fe466301b1aba4e92d0f98448a917acc83b5de5e076a5d34d") false
    over (fun _ h => by cases h) (by kernel_rfl) (fun _ h => by cases h) lawS4557ARaw_row_tie rfl ⟨rfl, rfl⟩ (by kernel_rfl) rfl
    (fun f fn hf hfn => by
      obtain rfl : f = 3 := Option.some.inj ((show Ybad.prog.funcNamed Rows.lawS4557ARawRow.func = some 3 by kernel_rfl).symm.trans hf) |>.symm
      obtain rfl : fn = Ybad.f3 := (Option.some.inj (Ybad.func3.symm.trans hfn)).symm
      exact ⟨by kernel_rfl, fun j t ht => by
        rw [Ybad.params3] at ht
        have hm : t ∈ [22, 3] := by simpa using Array.mem_of_getElem? ht
        have hall : ([22, 3].all fun u => !Ybad.prog.wantsStandIn u) = true := by kernel_rfl
        exact (show Ybad.prog.wantsStandIn t = false by simpa using List.all_eq_true.1 hall t hm)⟩)
    (by kernel_rfl)
end Go.Proofs.YbulkcpiuDoor.lawS4557ARaw
