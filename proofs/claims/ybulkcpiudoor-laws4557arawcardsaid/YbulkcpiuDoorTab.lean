/-
  From the row's condition on the listed variable to its 256 cells.
-/
import Derived.Test.YbulkcpiuDoorLaws
import Derived.ProofKit
import Derived.LaidMore
import Derived.OpenShut
import Derived.ShutString
import Derived.ChangeOld
import Derived.ChangeVars
import Derived.Stop.Joined
namespace Go.Proofs.YbulkcpiuDoor
open Go.ChangeShapes Go.WideShapes Go.ChangeAt Go.RowKit

theorem own : ownKnob Ybad.prog.godebug = none := by kernel_rfl
theorem laidOut : laidOutB Ybad.prog = true := by kernel_rfl
/-- The listed variable's name, off the row itself. -/
def vname : String := Rows.lawS4557ARawSpec.vars.headD ""
theorem gTab : Ybad.prog.globalNamed vname = some 0 := by kernel_rfl
theorem tTab : (Ybad.prog.globals[0]?).map (·.type) = some 27 := by kernel_rfl
theorem cells4 : Ybad.prog.cellsOf 4 = 1 := by kernel_rfl
theorem cells27 : Ybad.prog.cellsOf 27 = 256 := by kernel_rfl
theorem under27 : Ybad.prog.underlying 27 = some (.array 256 4) := by kernel_rfl

def tabL : List Bool := (List.range 256).map fun c : Nat => isSp (c : Int)
def tabC : Array Value := (tabL.map Value.bool).toArray
theorem laid_eq {H : Type} : (Rows.laid_example_com_causeline_causeline_internal_jsontext_isSpace : DataW H) = .agg (tabL.map fun b => .lit (.bool b)) := by kernel_rfl
theorem reads_tab {H : Type} (enc : TypeId × Value → H) (W : World) (sp : Nat → Bool) (held : Bool) : DataW.trod enc Ybad.prog W 0 sp held 3 27 tabC.toList = some (Rows.laid_example_com_causeline_causeline_internal_jsontext_isSpace, []) := by kernel_rfl

theorem tab_of {H : Type} {enc : TypeId × Value → H} {W : World} {sp : Nat → Bool} {held : Bool} {fuel : Nat} {cs : Array Value} {p : List MemPlace} (h : DataW.trod enc Ybad.prog W 0 sp held fuel 27 cs.toList = some (Rows.laid_example_com_causeline_causeline_internal_jsontext_isSpace, p)) : cs = tabC := by
  obtain ⟨xs, m, rfl, hx, hl, hn, hel⟩ := DataW.trod_array under27 h
  rw [cells27] at hl
  rw [laid_eq] at hx
  simp only [Prod.mk.injEq, DataW.agg.injEq] at hx
  apply Array.ext_getElem?
  intro i
  by_cases hi : i < 256
  · have h1 := hel i hi
    rw [cells4, Nat.mul_one] at h1
    have hxi : i < xs.length := by omega
    rw [List.getElem?_eq_getElem hxi] at h1
    obtain ⟨b, hb1, hb2⟩ := DataW.trod_bool Ybad.underlying4 h1
    have e1 : cs[i]? = some (.bool b) := by
      have := congrArg List.head? hb1
      rw [List.head?_take, List.head?_drop] at this
      simpa using this
    have e2 : (xs.map (·.1))[i]? = some (.lit (.bool b)) := by
      rw [List.getElem?_map, List.getElem?_eq_getElem hxi, hb2]; rfl
    rw [← hx.1] at e2
    have e3 : tabL[i]? = some b := by
      rw [List.getElem?_map] at e2
      cases ht : tabL[i]? with
      | none => rw [ht] at e2; cases e2
      | some b' => rw [ht] at e2; simp at e2; rw [e2]
    rw [e1]
    simp [tabC, e3]
  · have c1 : cs[i]? = none := by
      rw [Array.getElem?_eq_none_iff]; simp at hl; omega
    have c2 : tabC[i]? = none := by
      rw [Array.getElem?_eq_none_iff]
      have : tabC.size = 256 := by kernel_rfl
      omega
    rw [c1, c2]

theorem tab_at' (c : Nat) (hc : c < 256) : tabC[c]? = some (.bool (isSp c)) := by
  simp [tabC, tabL, hc]
theorem var_of_laid {W : World} (h : laidMetH Ybad.prog Rows.lawS4557ARawRow.laid W) : W.var? Ybad.prog vname = some tabC := by
  rw [MakeChecks.laidMetH_plain _ _ _ (by kernel_rfl)] at h
  obtain ⟨ps, ⟨g0, t0, cs0, f0, p0, q0, hg0, ht0, hv0, hd0, _⟩, _, _⟩ := h
  obtain rfl := Option.some.inj (gTab.symm.trans hg0)
  obtain rfl := Option.some.inj (tTab.symm.trans ht0)
  rw [← tab_of hd0]
  exact hv0
theorem table_of {W : World} (h : W.var? Ybad.prog vname = some tabC) : Table W := fun c hc => (World.var?_cell gTab h c).trans (tab_at' c hc)

/-- The door's own heap meets the condition. -/
theorem door_met (os : Os) (args : Array Value) : laidMetH Ybad.prog Rows.lawS4557ARawRow.laid ((World.doorLaid Ybad.prog 14 os).forCall (fun _ _ => 0) ⟨#[], args, []⟩).memory :=
  laidMetH_of_parts3 (fuel := 8) (laidMet_of_run' 8 (by kernel_rfl) (by kernel_rfl)) (by kernel_rfl) (by kernel_rfl)

/-- A slice of bytes that came in, as the walks want it. -/
theorem open_text {H : Type} {enc : TypeId × Value → H} {W : World} {base : Nat} {sp : Nat → Bool} {held : Bool} {fuel len cap : Nat} {a0 : Option Addr} {x : DataW H × List MemPlace} (h : DataW.trod enc Ybad.prog W base sp held fuel 22 [.slice a0 len cap] = some x) :
    ∃ (b off : Nat) (f : Nat → Int), Text W a0 len b off f ∧ len ≤ maxLen := by
  rcases open_ints Ybad.underlying22 Ybad.underlying5 (by kernel_rfl) h with ⟨hcs, _⟩ | ⟨a, l, c, zs, hcs, _, hl, hm, hz, _, hcell, hwz⟩
  · simp at hcs
    obtain ⟨rfl, rfl, rfl⟩ := hcs
    exact ⟨0, 0, fun _ => 0, ⟨fun h => absurd h (by simp), fun j h => absurd h (by simp), fun j h => absurd h (by simp), fun j h => absurd h (by simp)⟩, Nat.zero_le _⟩
  · simp at hcs
    obtain ⟨rfl, rfl, rfl⟩ := hcs
    have hzl : len ≤ zs.length := by rw [hz]; split <;> omega
    rcases Nat.eq_zero_or_pos len with h0 | hp
    · subst h0
      exact ⟨0, 0, fun _ => 0, ⟨fun h => absurd h (by simp), fun j h => absurd h (by simp), fun j h => absurd h (by simp), fun j h => absurd h (by simp)⟩, Nat.zero_le _⟩
    · obtain ⟨b, off, rfl, hc⟩ := ints_at hcell (by omega)
      refine ⟨b, off, fun j => zs.getD j 0, ⟨fun _ => rfl, fun j hj => hc j (by omega), fun j hj => ?_, fun j hj => ?_⟩, by omega⟩
      · have hj' : j < zs.length := by omega
        have := bounds_u8 (hwz (zs.getD j 0) (by simp [hj']))
        exact this.1
      · have hj' : j < zs.length := by omega
        have := bounds_u8 (hwz (zs.getD j 0) (by simp [hj']))
        exact this.2
end Go.Proofs.YbulkcpiuDoor
