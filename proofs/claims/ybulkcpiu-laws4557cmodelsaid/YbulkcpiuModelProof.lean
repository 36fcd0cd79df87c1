/-
  THE PROOF OF 'Rows.LawS4557CModelSaid': the frame after proof-skeleton.mjs; raw opened by the guide's open_int_rows; the walk: YbulkcpiuModelLaw.
-/
import Derived.Test.YbulkcpiuModelLaw
import Derived.ProofKit
import Derived.OpenShut
import Derived.ShutString
import Derived.ChangeOld
import Derived.Deep.Matrix
namespace Go.Proofs.Ybulkcpiu.lawS4557CModel
open Go.ChangeShapes Go.WideShapes Go.ChangeAt Go.RowKit
set_option linter.unusedVariables false

theorem own : ownKnob Yba.prog.godebug = none := by kernel_rfl
theorem laidOut : laidOutB Yba.prog = true := by kernel_rfl

theorem open_raw {H : Type} {enc : TypeId × Value → H} {W : World} {base : Nat} {held : Bool} {fuel len cap : Nat} {a0 : Option Addr} {x : DataW H × List MemPlace} (h : DataW.trod enc Yba.prog W base (fun _ => true) held fuel 25 [.slice a0 len cap] = some x) :
    ∃ (b off : Nat) (A : Nat → Option Addr) (L C : Nat → Nat) (g : Nat → Nat → Int), Raw W a0 len b off A L C g ∧ len ≤ maxLen := by
  rcases Deep.open_int_rows Yba.underlying25 Yba.underlying26 Yba.underlying5 (by kernel_rfl) (by kernel_rfl) h with ⟨hcs, _⟩ | ⟨a, l, c, A, L, C, Z, hcs, _, hl, hm, _, hx⟩
  · simp at hcs
    obtain ⟨rfl, rfl, rfl⟩ := hcs
    exact ⟨0, 0, fun _ => none, fun _ => 0, fun _ => 0, fun _ _ => 0, ⟨fun h => absurd h (by simp), fun r h => absurd h (by simp), fun r h => absurd h (by simp), fun r j h => absurd h (by simp), fun r j h => absurd h (by simp), fun r h => absurd h (by simp)⟩, Nat.zero_le _⟩
  · simp at hcs
    obtain ⟨rfl, rfl, rfl⟩ := hcs
    obtain ⟨b, off, spot⟩ := a
    have hsp : 0 < len → spot = none := fun hp => by simpa [Addr.add] using World.cell?_spot (hx 0 (by omega)).1
    have hb1 : ∀ r j, r < len → j < L r → (Lit.int .u8 ((Z r).getD j 0)).wf = true := fun r j hr hj => by
      obtain ⟨_, h2, _, h4, h5, _, _⟩ := hx r (by omega)
      have hj' : j < (Z r).length := by omega
      exact h5 _ (by simp [hj'])
    refine ⟨b, off, A, L, C, fun r j => (Z r).getD j 0, ⟨fun hp => by rw [hsp hp], fun r hr => ?_, fun r hr hlr => ?_, fun r j hr hj => (bounds_u8 (hb1 r j hr hj)).1, fun r j hr hj => (bounds_u8 (hb1 r j hr hj)).2, fun r hr => ?_⟩, Nat.le_trans hl hm⟩
    · obtain ⟨h1, _⟩ := hx r (by omega)
      have hs := hsp (by omega)
      subst hs
      rwa [add_plain] at h1
    · obtain ⟨_, h2, _, h4, _, h6, h7⟩ := hx r (by omega)
      cases hA : A r with
      | none => have := h6 hA; omega
      | some a' =>
        obtain ⟨_, hc⟩ := h7 a' hA
        obtain ⟨bb, oo, sp⟩ := a'
        have hs : sp = none := by simpa [Addr.add] using World.cell?_spot (hc 0 (by omega))
        subst hs
        exact ⟨bb, oo, rfl, fun j hj => by rw [← add_plain]; exact hc j (by omega)⟩
    · obtain ⟨_, h2, h3, _⟩ := hx r (by omega)
      unfold maxLen at h3
      omega

set_option maxRecDepth 100000 in
theorem lifted (os : Os) (started : os.Started) (H : Type) (enc : TypeId × Value → H) :
    ReturnsInHanded {} Yba.checked os 4 .any (Rows.lawS4557CModelSpec.pre6 enc Yba.prog Yba.f4 Rows.lawS4557CModelRow.domain false) (Rows.lawS4557CModelSpec.post enc Yba.prog Yba.f4 false true false false) := by
  refine returnsInHanded_of_change (C := Yba.checked) own started (by kernel_rfl) Yba.func4
    (ChangeSpec.witness6 (enc := enc) (C := Yba.checked) false ⟨#[], #[.int .u8 0, .slice none 0 0], []⟩ 8 (by kernel_rfl) (by kernel_rfl) (by kernel_rfl) (by kernel_rfl)) ?_
  intro W base args ds gs before hval0 hW hcnd _
  have hval : ∀ (j : Nat) t v, Yba.f4.params[j]? = some t → args[j]? = some v → Value.okWide Yba.prog W .any base t v := hval0
  have hW' := hW
  obtain ⟨p, q, hA0, hV, rfl, hfz, hnd⟩ := hW
  have hA : DataW.TrodAll enc Yba.prog W 0 (fun _ => true) true Yba.f4.params.toList args.toList ds p := hA0
  rw [Yba.params4] at hA hval
  obtain ⟨v0, vs0, d0, ds0, p0, q0, hargs, rfl, rfl, h0, r0⟩ := trodAll_cons hA
  obtain ⟨v1, vs1, d1, ds1, p1, q1, rfl, rfl, rfl, h1, r1⟩ := trodAll_cons r0
  obtain ⟨rfl, rfl, rfl⟩ := trodAll_nil r1
  obtain rfl : args = #[v0, v1] := by cases args; simp_all
  obtain ⟨rfl, rfl⟩ := trodVars_none hV
  obtain ⟨a0, rfl, rfl, rfl, w0⟩ := open_int Yba.underlying5 (hval 0 5 v0 rfl rfl) h0
  obtain ⟨a1, len1, cap1, rfl⟩ := okWide_slice Yba.underlying25 (hval 1 25 v1 rfl rfl)
  have k1 := h1
  have lt1 : ∀ x ∈ p1, x.block < W.heap.size := by obtain ⟨m, hm⟩ := k1; exact DataW.trod_lt m _ _ _ hm
  obtain ⟨b, off, A, L, C, g, hR, hmx⟩ : ∃ (b off : Nat) (A : Nat → Option Addr) (L C : Nat → Nat) (g : Nat → Nat → Int), Raw W a1 len1 b off A L C g ∧ len1 ≤ maxLen := by
    obtain ⟨fuel, hf⟩ := h1
    exact open_raw (by simpa [Value.cells] using hf)
  clear hA0 hval0
  have hb0 := bounds_u8 w0
  obtain ⟨n, rfl⟩ := Int.eq_ofNat_of_zero_le hb0.1
  refine (model_any n (by omega) a1 len1 cap1 b off A L C g W hmx hR).mono fun e W' ⟨he, bel⟩ => ?_
  subst he
  exact ⟨_, rfl, _, _, _, [], _, [], hW', trodAll_mk1 (shut_bool Yba.underlying4 _), (trodAll_cons_mk (shut_int Yba.underlying5 w0) (trodAll_cons_mk (Below.trod laidOut (by kernel_rfl) (of_decide_eq_true (by kernel_rfl)) k1 bel lt1) trodAll_mk0)), rfl, bel.frame _, fun h => by cases h⟩

theorem over : Rows.lawS4557CModelRow.holds Yba.pinned (OpenSpec.ofChange Rows.lawS4557CModelSpec) :=
  OpenClaim.holds_of_wide 4 Yba.f4 rfl rfl rfl rfl rfl rfl rfl ⟨rfl, rfl, rfl, rfl, rfl⟩ rfl rfl rfl rfl rfl (by kernel_rfl) Yba.func4 (by kernel_rfl)
    (of_decide_eq_true (by kernel_rfl)) (by unfold Func.isWrapper; first | (rw [if_pos (by decide +kernel)]; kernel_rfl) | (rw [if_neg (by decide +kernel)]; exact ⟨rfl, rfl⟩))
    (fun os started H enc _ => lifted os started H enc)

theorem proved : Rows.LawS4557CModelSaid := over
end Go.Proofs.Ybulkcpiu.lawS4557CModel
