/-
  THE PROOF OF 'Rows.LawS4554BLookupSaid': the frame after proof-skeleton.mjs; the items opened by hand; the walk: YbulkcpheGreatLaw.
-/
import Derived.Test.YbulkcpheGreatLaw
import Derived.WalkKit
import Derived.ProofKit
import Derived.OpenShut
import Derived.ShutString
import Derived.ChangeOld
import Derived.Below
import Derived.Deep.Slices
namespace Go.Proofs.YbulkcpheGreat.lawS4554BLookup
open Go.ChangeShapes Go.WideShapes Go.ChangeAt Go.RowKit
set_option linter.unusedVariables false

theorem own : ownKnob Ybaz.prog.godebug = none := by kernel_rfl
theorem laidOut : laidOutB Ybaz.prog = true := by kernel_rfl
theorem cells80 : Ybaz.prog.cellsOf 80 = 6 := by kernel_rfl
theorem cells5 : Ybaz.prog.cellsOf 5 = 1 := by kernel_rfl
theorem cells26 : Ybaz.prog.cellsOf 26 = 1 := by kernel_rfl
theorem cells4 : Ybaz.prog.cellsOf 4 = 1 := by kernel_rfl
theorem cells3 : Ybaz.prog.cellsOf 3 = 1 := by kernel_rfl
theorem cells9 : Ybaz.prog.cellsOf 9 = 1 := by kernel_rfl
theorem six {α : Type} {l : List α} (h : l.length = 6) : ∃ a b c d e f, l = [a, b, c, d, e, f] := by
  match l, h with
  | [a, b, c, d, e, f], _ => exact ⟨a, b, c, d, e, f, rfl⟩

section
variable {H : Type} {enc : TypeId × Value → H} {W : World} {base : Nat} {spare : Nat → Bool} {held : Bool}
theorem open_item {fuel : Nat} {cs : List Value} {x : DataW H × List MemPlace} (h : DataW.trod enc Ybaz.prog W base spare held fuel 80 cs = some x) : ∃ it : Lk.It, cs = it.cells ∧ 0 ≤ it.k ∧ it.k ≤ 255 := by
  obtain ⟨xs, n, _, _, hl, hx, hf⟩ := DataW.trod_struct Ybaz.underlying80 h
  rw [cells80] at hl
  obtain ⟨c0, c1, c2, c3, c4, c5, rfl⟩ := six hl
  obtain ⟨x0, x1, x2, x3, x4, x5, rfl⟩ := six (l := xs) (by simpa using hx)
  have g0 := hf 0 _ rfl
  have g1 := hf 1 _ rfl
  have g2 := hf 2 _ rfl
  have g3 := hf 3 _ rfl
  have g4 := hf 4 _ rfl
  have g5 := hf 5 _ rfl
  simp [cells5, cells26, cells4, cells3, cells9] at g0 g1 g2 g3 g4 g5
  obtain ⟨k, e0, _, wk⟩ := DataW.trod_int Ybaz.underlying5 g0
  obtain ⟨nn, e1, _, _⟩ := DataW.trod_int Ybaz.underlying26 g1
  obtain ⟨r, e2, _⟩ := DataW.trod_bool Ybaz.underlying4 g2
  obtain ⟨s, e3, _, _⟩ := DataW.trod_int Ybaz.underlying5 g3
  obtain ⟨c, e4, _, _⟩ := DataW.trod_int Ybaz.underlying3 g4
  obtain ⟨hh, e5, _, _⟩ := DataW.trod_string Ybaz.underlying9 g5
  simp at e0 e1 e2 e3 e4 e5
  subst e0 e1 e2 e3 e4 e5
  have := bounds_u8 wk
  exact ⟨⟨k, nn, r, s, c, hh⟩, rfl, this.1, this.2⟩

theorem open_items {fuel len cap : Nat} {a0 : Option Addr} {x : DataW H × List MemPlace} (h : DataW.trod enc Ybaz.prog W base (fun _ => true) held fuel 22 [.slice a0 len cap] = some x) :
    ∃ (items : List Lk.It) (b off : Nat), items.length = len ∧ len ≤ maxLen ∧ (0 < items.length → a0 = some ⟨b, off, none⟩) ∧ (∀ i, (h : i < items.length) → W.rangeAt b (off + i * 6) items[i].cells) ∧ ∀ i, (h : i < items.length) → 0 ≤ items[i].k ∧ items[i].k ≤ 255 := by
  rcases Deep.open_slice Ybaz.underlying22 h with ⟨h0, _⟩ | ⟨a, l, c, m, n, D, Pl, hcs, _, hl, hm, hmm, _, hx⟩
  · simp at h0
    obtain ⟨rfl, rfl, rfl⟩ := h0
    exact ⟨[], 0, 0, rfl, Nat.zero_le _, fun h => absurd h (by simp), fun i h => absurd h (by simp), fun i h => absurd h (by simp)⟩
  · simp at hcs
    obtain ⟨rfl, rfl, rfl⟩ := hcs
    have each : ∀ i, i < len → ∃ it : Lk.It, (∀ j v, it.cells[j]? = some v → W.cell? ((a.add (i * 6)).add j) = some v) ∧ 0 ≤ it.k ∧ it.k ≤ 255 := fun i hi => by
      obtain ⟨cs', h1, h2⟩ := hx i (by rw [hmm]; simp; omega)
      rw [cells80] at h1
      obtain ⟨it, rfl, b0, b1⟩ := open_item h2
      obtain ⟨_, _, hcell⟩ := World.cells?_some h1
      exact ⟨it, fun j v hv => (hcell j (List.getElem?_eq_some_iff.1 hv).1).trans hv, b0, b1⟩
    obtain ⟨b, off, spot⟩ := a
    have : Inhabited Lk.It := ⟨⟨0, 0, false, 0, 0, ⟨#[]⟩⟩⟩
    obtain ⟨f, hf⟩ := Deep.choose_lt each
    have hsp : 0 < len → spot = none := fun hp => by
      have := (hf 0 hp).1 0 _ rfl
      simpa [Addr.add] using World.cell?_spot this
    refine ⟨(List.range len).map f, b, off, by simp, Nat.le_trans hl hm, fun hp => by rw [hsp (by simpa using hp)], fun i hi j v hv => ?_, fun i hi => ?_⟩
    · have hi' : i < len := by simpa using hi
      have hs := hsp (by omega)
      subst hs
      have := (hf i hi').1 j v (by simpa using hv)
      rwa [add_plain, add_plain] at this
    · have hi' : i < len := by simpa using hi
      simpa using (hf i hi').2
end

theorem walk (items : List Lk.It) (b off cap : Nat) (ao : Option Addr) (q : Int) (wq : (Lit.int .u8 q).wf = true) (w : World) (hm : items.length ≤ maxLen) (hao : 0 < items.length → ao = some ⟨b, off, none⟩)
    (hc : ∀ i, (h : i < items.length) → w.rangeAt b (off + i * 6) items[i].cells) (hk : ∀ i, (h : i < items.length) → 0 ≤ items[i].k ∧ items[i].k ≤ 255) :
    Calls Ybaz.prog 3 #[.slice ao items.length cap, .int .u8 q] w fun e w' => e = .returned (.bool true) ∧ Below w.heap.size w w' := by
  have hq := bounds_u8 wq
  by_cases hlen : items.length ≤ 1024
  · exact law_small items b off cap ao hao q (by omega) (by omega) w hlen hc hk
  · exact law_big items cap ao q w (by omega) hm

set_option maxRecDepth 100000 in
theorem lifted (os : Os) (started : os.Started) (H : Type) (enc : TypeId × Value → H) :
    ReturnsInHanded {} Ybaz.checked os 3 .any (Rows.lawS4554BLookupSpec.pre6 enc Ybaz.prog Ybaz.f3 Rows.lawS4554BLookupRow.domain false) (Rows.lawS4554BLookupSpec.post enc Ybaz.prog Ybaz.f3 false true false false) := by
  refine returnsInHanded_of_change (C := Ybaz.checked) own started (by kernel_rfl) Ybaz.func3
    (ChangeSpec.witness6 (enc := enc) (C := Ybaz.checked) false ⟨#[], #[.slice none 0 0, .int .u8 0], []⟩ 8 (by kernel_rfl) (by kernel_rfl) (by kernel_rfl) (by kernel_rfl)) ?_
  intro W base args ds gs before hval0 hW hcnd _
  have hval : ∀ (j : Nat) t v, Ybaz.f3.params[j]? = some t → args[j]? = some v → Value.okWide Ybaz.prog W .any base t v := hval0
  have hW' := hW
  obtain ⟨p, q, hA0, hV, rfl, hfz, hnd⟩ := hW
  have hA : DataW.TrodAll enc Ybaz.prog W 0 (fun _ => true) true Ybaz.f3.params.toList args.toList ds p := hA0
  rw [Ybaz.params3] at hA hval
  obtain ⟨v0, vs0, d0, ds0, p0, q0, hargs, rfl, rfl, h0, r0⟩ := trodAll_cons hA
  obtain ⟨v1, vs1, d1, ds1, p1, q1, rfl, rfl, rfl, h1, r1⟩ := trodAll_cons r0
  obtain ⟨rfl, rfl, rfl⟩ := trodAll_nil r1
  obtain rfl : args = #[v0, v1] := by cases args; simp_all
  obtain ⟨rfl, rfl⟩ := trodVars_none hV
  obtain ⟨a0, len0, cap0, rfl⟩ := okWide_slice Ybaz.underlying22 (hval 0 22 v0 rfl rfl)
  have k0 := h0
  have lt0 : ∀ x ∈ p0, x.block < W.heap.size := by obtain ⟨m, hm⟩ := k0; exact DataW.trod_lt m _ _ _ hm
  obtain ⟨items, b, off, rfl, hmx, hao, hc, hk⟩ : ∃ (items : List Lk.It) (b off : Nat), items.length = len0 ∧ len0 ≤ maxLen ∧ (0 < items.length → a0 = some ⟨b, off, none⟩) ∧ (∀ i, (h : i < items.length) → W.rangeAt b (off + i * 6) items[i].cells) ∧ ∀ i, (h : i < items.length) → 0 ≤ items[i].k ∧ items[i].k ≤ 255 := by
    obtain ⟨fuel, hf⟩ := h0
    exact open_items (by simpa [Value.cells] using hf)
  obtain ⟨a1, rfl, rfl, rfl, w1⟩ := open_int Ybaz.underlying5 (hval 1 5 v1 rfl rfl) h1
  clear hA0 hval0
  refine (walk items b off cap0 a0 a1 w1 W hmx hao hc hk).mono fun e W' ⟨he, bel⟩ => ?_
  subst he
  exact ⟨_, rfl, _, _, _, [], _, [], hW', trodAll_mk1 (shut_bool Ybaz.underlying4 _), (trodAll_cons_mk (Below.trod laidOut (by kernel_rfl) (of_decide_eq_true (by kernel_rfl)) k0 bel lt0) (trodAll_cons_mk (shut_int Ybaz.underlying5 w1) trodAll_mk0)), rfl, bel.frame _, fun h => by cases h⟩

theorem over : Rows.lawS4554BLookupRow.holds Ybaz.pinned (OpenSpec.ofChange Rows.lawS4554BLookupSpec) :=
  OpenClaim.holds_of_wide 3 Ybaz.f3 rfl rfl rfl rfl rfl rfl rfl ⟨rfl, rfl, rfl, rfl, rfl⟩ rfl rfl rfl rfl rfl (by kernel_rfl) Ybaz.func3 (by kernel_rfl)
    (of_decide_eq_true (by kernel_rfl)) (by unfold Func.isWrapper; first | (rw [if_pos (by decide +kernel)]; kernel_rfl) | (rw [if_neg (by decide +kernel)]; exact ⟨rfl, rfl⟩))
    (fun os started H enc _ => lifted os started H enc)

theorem proved : Rows.LawS4554BLookupSaid := over
end Go.Proofs.YbulkcpheGreat.lawS4554BLookup
