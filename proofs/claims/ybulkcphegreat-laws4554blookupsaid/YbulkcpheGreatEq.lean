/-
  '==' on two equal entries.
-/
import Derived.Test.YbulkcpheGreatListed
import Derived.ChangeKeysEq
namespace Go.Proofs.YbulkcpheGreat
open Go.RowKit

theorem part5 (xs : Array Value) (i : Nat) (v : Value) (w : World) (h : xs[i]? = some v) : (part 5 xs i).run Ybaz.prog w = .ok v w := by
  simp [part, Ybaz.isAgg5, h]
theorem items_self (d : Nat) (xs : Array Value) (w : World) : ∀ is : List Nat, (∀ i ∈ is, ∃ a : Int, xs[i]? = some (.int .u8 a)) → (Op.eqItems (d + 1) 5 1 xs xs is).run Ybaz.prog w = .ok true w
  | [], _ => by simp [Op.eqItems]
  | i :: is, h => by
    obtain ⟨a, ha⟩ := h i (by simp)
    have ih := items_self d xs w is (fun j hj => h j (by simp [hj]))
    have hp := part5 xs i (.int .u8 a) w ha
    simp [Op.eqItems, hp, run_equalIn_int w d 5 .u8 .u8 a a Ybaz.underlying5, ih]
theorem cells5 : Ybaz.prog.cellsOf 5 = 1 := by kernel_rfl
theorem sum_self (d : Nat) (xs : Array Value) (w : World) (h : ∀ i, i < 32 → ∃ a : Int, xs[i]? = some (.int .u8 a)) : (Op.equalIn (d + 1 + 1) 28 (.agg xs) (.agg xs)).run Ybaz.prog w = .ok true w := by
  have hi : ∃ i, Ybaz.prog.info? 5 = some i := by
    cases hq : Ybaz.prog.info? 5 with
    | none => have : (Ybaz.prog.info? 5).isSome = true := by kernel_rfl
              rw [hq] at this; cases this
    | some i => exact ⟨i, rfl⟩
  obtain ⟨i, hi⟩ := hi
  rw [run_equalIn_array w (d + 1) xs xs Ybaz.underlying28 hi, cells5]
  exact items_self d xs w _ (fun j hj => h j (List.mem_range.1 hj))
theorem st30 : Ybaz.prog.stoodInHeld 30 = false := by kernel_rfl
theorem st32 : Ybaz.prog.stoodInHeld 32 = false := by kernel_rfl
theorem f30 : Ybaz.prog.underlying 30 = some (.struct (Ybaz.prog.fieldsOf 30)) := by kernel_rfl
theorem f32 : Ybaz.prog.underlying 32 = some (.struct (Ybaz.prog.fieldsOf 32)) := by kernel_rfl
theorem part_of (xs : Array Value) (i : Nat) (t : TypeId) (v : Value) (w : World) (ha : (isAgg t).run Ybaz.prog w = .ok false w) (h : xs[i]? = some v) : (part t xs i).run Ybaz.prog w = .ok v w := by
  simp [part, ha, h]
theorem part_agg (xs : Array Value) (i n : Nat) (t : TypeId) (w : World) (ha : (isAgg t).run Ybaz.prog w = .ok true w) (hs : (sizeOf t).run Ybaz.prog w = .ok n w) : (part t xs i).run Ybaz.prog w = .ok (.agg (xs.extract i (i + n))) w := by
  simp [part, ha, hs]

theorem eqf_cons (d : Nat) (xs ys : Array Value) (f : Field) (fs : List Field) (a b : Value) (w : World) (hn : (f.name != "_") = true) (ha : (part f.type xs f.offset).run Ybaz.prog w = .ok a w) (hb : (part f.type ys f.offset).run Ybaz.prog w = .ok b w)
    (he : (Op.equalIn d f.type a b).run Ybaz.prog w = .ok true w) (h : (Op.eqFields d xs ys fs).run Ybaz.prog w = .ok true w) : (Op.eqFields d xs ys (f :: fs)).run Ybaz.prog w = .ok true w := by
  have hn' : f.name ≠ "_" := by simpa using hn
  simp [Op.eqFields, hn', ha, hb, he, h]
theorem eqf_nil (d : Nat) (xs ys : Array Value) (w : World) : (Op.eqFields d xs ys []).run Ybaz.prog w = .ok true w := by simp [Op.eqFields]
theorem ver_self (d : Nat) (xs : Array Value) (w : World) (n : Int) (r : Bool) (h0 : xs[0]? = some (.int .u64 n)) (h1 : ∀ i, i < 32 → ∃ a : Int, (xs.extract 1 33)[i]? = some (.int .u8 a)) (h2 : xs[33]? = some (.bool r)) :
    (Op.equalIn (d + 1 + 1 + 1) 30 (.agg xs) (.agg xs)).run Ybaz.prog w = .ok true w := by
  rw [run_equalIn_struct w (d + 1 + 1) 30 xs xs f30 st30]
  simp only [Program.fieldsOf, Ybaz.underlying30]
  refine eqf_cons _ _ _ _ _ _ _ w (by decide) (part_of xs 0 26 _ w (Ybaz.isAgg26 w) h0) (part_of xs 0 26 _ w (Ybaz.isAgg26 w) h0) ((run_equalIn_int w (d + 1) 26 .u64 .u64 n n Ybaz.underlying26).trans (by simp)) ?_
  refine eqf_cons _ _ _ _ _ _ _ w (by decide) (part_agg xs 1 32 28 w (Ybaz.isAgg28 w) (Ybaz.sizeOf28 w)) (part_agg xs 1 32 28 w (Ybaz.isAgg28 w) (Ybaz.sizeOf28 w)) (sum_self d _ w h1) ?_
  refine eqf_cons _ _ _ _ _ _ _ w (by decide) (part_of xs 33 4 _ w (Ybaz.isAgg4 w) h2) (part_of xs 33 4 _ w (Ybaz.isAgg4 w) h2) ((run_equalIn_bool' w (d + 1) 4 r r Ybaz.underlying4).trans (by simp)) ?_
  exact eqf_nil _ _ _ w
theorem ent_self (d : Nat) (xs : Array Value) (w : World) (a h : ByteArray) (c : Int) (n : Int) (r : Bool) (h0 : xs[0]? = some (.string a)) (hv0 : (xs.extract 1 35)[0]? = some (.int .u64 n)) (hv1 : ∀ i, i < 32 → ∃ a : Int, ((xs.extract 1 35).extract 1 33)[i]? = some (.int .u8 a)) (hv2 : (xs.extract 1 35)[33]? = some (.bool r))
    (h35 : xs[35]? = some (.int .i64 c)) (h36 : xs[36]? = some (.string h)) :
    (Op.equalIn (d + 1 + 1 + 1 + 1) 32 (.agg xs) (.agg xs)).run Ybaz.prog w = .ok true w := by
  rw [run_equalIn_struct w (d + 1 + 1 + 1) 32 xs xs f32 st32]
  simp only [Program.fieldsOf, Ybaz.underlying32]
  refine eqf_cons _ _ _ _ _ _ _ w (by decide) (part_of xs 0 9 _ w (Ybaz.isAgg9 w) h0) (part_of xs 0 9 _ w (Ybaz.isAgg9 w) h0) ((run_equalIn_string w (d + 1 + 1) 9 a a Ybaz.underlying9).trans (by simp)) ?_
  refine eqf_cons _ _ _ _ _ _ _ w (by decide) (part_agg xs 1 34 30 w (Ybaz.isAgg30 w) (Ybaz.sizeOf30 w)) (part_agg xs 1 34 30 w (Ybaz.isAgg30 w) (Ybaz.sizeOf30 w)) (ver_self d _ w n r hv0 hv1 hv2) ?_
  refine eqf_cons _ _ _ _ _ _ _ w (by decide) (part_of xs 35 3 _ w (Ybaz.isAgg3 w) h35) (part_of xs 35 3 _ w (Ybaz.isAgg3 w) h35) ((run_equalIn_int w (d + 1 + 1) 3 .i64 .i64 c c Ybaz.underlying3).trans (by simp)) ?_
  refine eqf_cons _ _ _ _ _ _ _ w (by decide) (part_of xs 36 9 _ w (Ybaz.isAgg9 w) h36) (part_of xs 36 9 _ w (Ybaz.isAgg9 w) h36) ((run_equalIn_string w (d + 1 + 1) 9 h h Ybaz.underlying9).trans (by simp)) ?_
  exact eqf_nil _ _ _ w

/-- The 37 cells of an entry, whatever the bytes of its sum. -/
def Sum8 (xs : Array Value) : Prop := ∀ i, i < 32 → ∃ a : Int, xs[i]? = some (.int .u8 a)
theorem sum8_of (l : List Value) (h : ∀ v ∈ l, ∃ a : Int, v = .int .u8 a) (hl : l.length = 32) : Sum8 l.toArray := fun i hi => by
  obtain ⟨a, ha⟩ := h (l[i]'(by omega)) (List.getElem_mem _)
  exact ⟨a, by rw [List.getElem?_toArray, List.getElem?_eq_getElem (by omega), ha]⟩

set_option maxRecDepth 100000 in
theorem eq_lit (a h : ByteArray) (n s c : Int) (r : Bool) (w : World) (xs : Array Value) (hxs : xs = #[.string a, .int .u64 n, .int .u8 s, .int .u8 0, .int .u8 0, .int .u8 0, .int .u8 0, .int .u8 0, .int .u8 0, .int .u8 0, .int .u8 0, .int .u8 0, .int .u8 0, .int .u8 0, .int .u8 0, .int .u8 0, .int .u8 0, .int .u8 0, .int .u8 0, .int .u8 0, .int .u8 0, .int .u8 0, .int .u8 0, .int .u8 0, .int .u8 0, .int .u8 0, .int .u8 0, .int .u8 0, .int .u8 0, .int .u8 0, .int .u8 0, .int .u8 0, .int .u8 0, .int .u8 0, .bool r, .int .i64 c, .string h]) :
    (Op.equalIn 10000 32 (.agg xs) (.agg xs)).run Ybaz.prog w = .ok true w := by
  have e : (xs.extract 1 35).extract 1 33 = [.int .u8 s, .int .u8 0, .int .u8 0, .int .u8 0, .int .u8 0, .int .u8 0, .int .u8 0, .int .u8 0, .int .u8 0, .int .u8 0, .int .u8 0, .int .u8 0, .int .u8 0, .int .u8 0, .int .u8 0, .int .u8 0, .int .u8 0, .int .u8 0, .int .u8 0, .int .u8 0, .int .u8 0, .int .u8 0, .int .u8 0, .int .u8 0, .int .u8 0, .int .u8 0, .int .u8 0, .int .u8 0, .int .u8 0, .int .u8 0, .int .u8 0, .int .u8 0].toArray := by subst hxs; kernel_rfl
  exact ent_self 9996 xs w a h c n r (by subst hxs; kernel_rfl) (by subst hxs; kernel_rfl) (by
    rw [e]
    refine sum8_of _ ?_ rfl
    intro v hv
    simp only [List.mem_cons, List.not_mem_nil, or_false, or_self] at hv
    rcases hv with rfl | rfl
    · exact ⟨s, rfl⟩
    · exact ⟨0, rfl⟩) (by subst hxs; kernel_rfl) (by subst hxs; kernel_rfl) (by subst hxs; kernel_rfl)
theorem eq_opt (o : Option Lk.It) (w : World) : (Op.equalIn 10000 32 (.agg (optE o)) (.agg (optE o))).run Ybaz.prog w = .ok true w := by
  cases o with
  | none => exact eq_lit ⟨#[]⟩ ⟨#[]⟩ 0 0 0 false w _ rfl
  | some x => exact eq_lit (Lk.nameOf x.k) x.h x.n x.s x.c x.r w _ rfl
theorem neq_opt (o : Option Lk.It) (w : World) : (binOp .neq 32 (.agg (optE o)) (.agg (optE o))).run Ybaz.prog w = .ok (.bool false) w := by
  rw [run_neq_struct, eq_opt]; rfl
end Go.Proofs.YbulkcpheGreat
