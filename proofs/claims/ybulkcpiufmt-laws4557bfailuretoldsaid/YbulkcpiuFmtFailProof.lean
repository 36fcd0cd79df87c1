/-
  THE PROOF OF 'Rows.LawS4557BFailureToldSaid': the frame of YbulkcpiuFmtEofProof turned; the walk: YbulkcpiuFmtFail.
-/
import Derived.Test.YbulkcpiuFmtEofProof
import Derived.Test.YbulkcpiuFmtFail
namespace Go.Proofs.YbulkcpiuFmt
open Go.ChangeShapes Go.WideShapes Go.ChangeAt Go.RowKit
open Go.Extern.Stop Go.Stop Go.Extern
set_option linter.unusedVariables false

namespace lawS4557BFailure

theorem witness_row (os : Os) {H : Type} (enc : TypeId × Value → H) :
    (OpenSpec.ofChange Rows.lawS4557BFailureSpec).preRow enc Ybaf.prog Ybaf.f4 Rows.lawS4557BFailureRow.domain false Rows.lawS4557BFailureRow.laid ((World.doorLaid Ybaf.prog 66 os).forCall (fun _ _ => 0) ⟨#[], #[.slice none 0 0, .int .i64 0, .int .u8 0], []⟩).memory #[.slice none 0 0, .int .i64 0, .int .u8 0] := by
  have hw : (DataW.whole enc Ybaf.prog ((World.doorLaid Ybaf.prog 66 os).forCall (fun _ _ => 0) ⟨#[], #[.slice none 0 0, .int .i64 0, .int .u8 0], []⟩).memory Ybaf.f4.params.toList (OpenSpec.ofChange Rows.lawS4557BFailureSpec).vars false #[Value.slice none 0 0, .int .i64 0, .int .u8 0].toList 8).isSome = true := by kernel_rfl
  obtain ⟨x, hx⟩ := Option.isSome_iff_exists.1 hw
  exact OpenSpec.preRow_of_cond 8 hx (by kernel_rfl) (fun k hk => by cases hk) (by kernel_rfl) (door_met os _)

set_option maxRecDepth 100000 in
theorem lifted (os : Os) (started : os.Started) (H : Type) (enc : TypeId × Value → H) :
    ReturnsInTold none {} Ybaf.checked os 4 .any Input.okWide ((OpenSpec.ofChange Rows.lawS4557BFailureSpec).preRow enc Ybaf.prog Ybaf.f4 Rows.lawS4557BFailureRow.domain false Rows.lawS4557BFailureRow.laid)
      (fun F => ((OpenSpec.ofChange Rows.lawS4557BFailureSpec).at F).post enc Ybaf.prog Ybaf.f4 false true false false) (aloneAtReturn Ybaf.prog) nothingAlways := by
  refine returnsInTold_of_row (C := Ybaf.checked) (s := OpenSpec.ofChange Rows.lawS4557BFailureSpec) (by kernel_rfl) own started (by kernel_rfl) Ybaf.func4
    (OpenSpec.witness_stopped_atRef (enc := enc) (C := Ybaf.checked) false (World.doorLaid Ybaf.prog 66 os) #[.slice none 0 0, .int .i64 0, .int .u8 0] rfl (by kernel_rfl) (by kernel_rfl) (by kernel_rfl) (witness_row os enc)) ?_
  intro F W base args ds gs before _ hF hval0 hW hcnd0 _ _ hL _
  have hval : ∀ (j : Nat) t v, Ybaf.f4.params[j]? = some t → args[j]? = some v → Value.okWide Ybaf.prog W .any base t v := hval0
  have hW' := hW
  obtain ⟨p, q, hA0, hV0, rfl, _, _⟩ := hW
  have hA : DataW.TrodAll enc Ybaf.prog W 0 (fun _ => true) true Ybaf.f4.params.toList args.toList ds p := hA0
  rw [Ybaf.params4] at hA hval
  obtain ⟨v0, vs0, d0, ds0, p0, q0, hargs, rfl, rfl, h0, r0⟩ := trodAll_cons hA
  obtain ⟨v1, vs1, d1, ds1, p1, q1, rfl, rfl, rfl, h1, r1⟩ := trodAll_cons r0
  obtain ⟨v2, vs2, d2, ds2, p2, q2, rfl, rfl, rfl, h2, r2⟩ := trodAll_cons r1
  obtain ⟨rfl, rfl, rfl⟩ := trodAll_nil r2
  obtain rfl : args = #[v0, v1, v2] := by cases args; simp_all
  obtain ⟨rfl, rfl⟩ := trodVars_none hV0
  obtain ⟨a0, len0, cap0, rfl⟩ := okWide_slice Ybaf.underlying22 (hval 0 22 v0 rfl rfl)
  have k0 := h0
  have lt0 : ∀ x ∈ p0, x.block < W.heap.size := by obtain ⟨m, hm⟩ := k0; exact DataW.trod_lt m _ _ _ hm
  obtain ⟨b, off, f, htx, hmx, hcap⟩ : ∃ (b off : Nat) (f : Nat → Int), Text W a0 len0 b off f ∧ len0 ≤ maxLen ∧ len0 ≤ cap0 := by
    obtain ⟨fuel, hf⟩ := h0
    exact open_text (by simpa [Value.cells] using hf)
  obtain ⟨l, rfl, rfl, rfl, wl⟩ := open_int Ybaf.underlying3 (hval 1 3 v1 rfl rfl) h1
  obtain ⟨c, rfl, rfl, rfl, wc⟩ := open_int Ybaf.underlying5 (hval 2 5 v2 rfl rfl) h2
  have hbc := bounds_u8 wc
  obtain ⟨c, rfl⟩ := Int.eq_ofNat_of_zero_le hbc.1
  clear hA0 hV0 hval0
  have hL' : laidMet Ybaf.prog Rows.lawS4557BFailureRow.laid W := by
    have h := hL
    rw [MakeChecks.laidMetH_plain _ _ _ (by kernel_rfl)] at h
    exact h
  obtain ⟨ea, a1, s0, s1, c0, c1, t0, t1, hv, _, _, _, _, _, _, _, _, hb0, _⟩ := laid_sentinels2 (g0 := 0) (g1 := 2) hL' gEof (by kernel_rfl) (by kernel_rfl) (by kernel_rfl) Ybaf.underlying25 row44 Ybaf.underlying44 Ybaf.underlying46 rfl rfl Ybaf.underlying9 (by kernel_rfl) (by kernel_rfl)
  have hg : W.cell? ⟨0, 0, none⟩ = some (.iface 44 (.pointer (some ea))) := World.var?_cell gEof hv 0
  refine (fail_any F.told ea c0 t0 a0 len0 cap0 b off c l f W hF hmx hcap (by omega) htx hg hb0).mono fun e W' ⟨he, bel⟩ => ?_
  subst he
  exact ⟨_, rfl, _, _, _, [], _, [], hW', trodAll_mk1 (shut_bool Ybaf.underlying4 _), (trodAll_cons_mk (Below.trod laidOut (by kernel_rfl) (of_decide_eq_true (by kernel_rfl)) k0 bel lt0) (trodAll_cons_mk (shut_int Ybaf.underlying3 wl) (trodAll_cons_mk (shut_int Ybaf.underlying5 wc) trodAll_mk0))), rfl, bel.frame _, fun h => by cases h⟩

theorem proved : Rows.LawS4557BFailureToldSaid :=
  Claim7.holds_of_told_tied_any_at .later 4 Ybaf.f4 "fmt.errorf" [] [] _ _ _ _ _ (by kernel_rfl) rfl rfl rfl laidOut (by kernel_rfl) rfl ⟨rfl, rfl, rfl, rfl, rfl, rfl, rfl⟩ rfl rfl (by kernel_rfl) (by kernel_rfl) Ybaf.func4 (by kernel_rfl)
    (of_decide_eq_true (by kernel_rfl)) (by unfold Func.isWrapper; first | (rw [if_pos (by decide +kernel)]; kernel_rfl) | (rw [if_neg (by decide +kernel)]; exact ⟨rfl, rfl⟩)) stopsAre.symm rfl stopKnobs.symm (by kernel_rfl)
    (by kernel_rfl) (by kernel_rfl) (by kernel_rfl) (by kernel_rfl) (by kernel_rfl) (by kernel_rfl) (by kernel_rfl) (by kernel_rfl) (by kernel_rfl) rfl (by kernel_rfl) rfl rfl
    rfl rfl
    rfl (by kernel_rfl) (by kernel_rfl) (by kernel_rfl) (by decide) (by kernel_rfl) lawS4557BFailure_row_tie
    (OpenClaim.moreEntering_of (by kernel_rfl) (by kernel_rfl) (by kernel_rfl) (by kernel_rfl) (by kernel_rfl) (by kernel_rfl) (by kernel_rfl) (by kernel_rfl) (by kernel_rfl) (by kernel_rfl))
    ⟨_, WideRow.started_initial, quietAll _⟩
    (fun os started _ H enc _ => lifted os started H enc)
end lawS4557BFailure
end Go.Proofs.YbulkcpiuFmt
