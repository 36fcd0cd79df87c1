/-
  The walk of zzs4554bentry.
-/
import Derived.Test.YbulkcpheGreatLeaf
import Derived.Deep.RegionHeld3
import Derived.Deep.MidRow
namespace Go.Proofs.YbulkcpheGreat
open Go.RowKit Go.MuLone

theorem wp_name {P : Program} {c : Code} {Q : Exit → Act → World → Prop} {a : Act} {w : World} (F : World → Prop) (h0 : F w) (h : ∀ W, F W → Code.wp P c Q a W) : Code.wp P c Q a w := h w h0

theorem size28 : (Ybaz.prog.info? 28).map (·.size) = some 32 := by kernel_rfl
theorem size32 : (Ybaz.prog.info? 32).map (·.size) = some 37 := by kernel_rfl

set_option maxRecDepth 100000 in
theorem entryA_one (k n : Int) (r : Bool) (s c : Int) (h : ByteArray) : (Lk.entryA k n r s c h).all (·.oneCell') = true := by
  unfold Lk.entryA; simp [Value.oneCell']
set_option maxRecDepth 100000 in
theorem zeroA_one : Lk.zeroA.all (·.oneCell') = true := by
  unfold Lk.zeroA; simp [Value.oneCell']
theorem run_store32 (w : World) (b : Nat) (cells : Array Value) (ht : w.there b 0 37) (hs : cells.size = 37) (h1 : cells.all (·.oneCell') = true) :
    (Instr.storeAt 32 (.pointer (some ⟨b, 0, none⟩)) (.agg cells)).run Ybaz.prog w = .ok () (w.setCells b 0 cells.toList) :=
  run_storeAt_mid w b 0 32 cells (by rw [hs]; exact ht) (by rw [hs]; exact size32) h1
theorem wp_store_gen {P : Program} {o : Oper} {a : Act} {w w' : World} {K : Act → World → Prop} {Q : Exit → Act → World → Prop} {ty : TypeId} {x y : Operand} {v u : Value} (ho : o.op = .store ty x y) (hx : a.eval x = v) (hy : a.eval y = u) (hd : o.dst = none)
    (hrun : (Instr.storeAt ty v u).run P w = .ok () w') : Oper.wp P o a w K Q = K a w' := by
  unfold Oper.wp execOp
  simp only [ho, hx, hy, Sem.run_bind, hrun, Result.andThen_ok, Sem.run_pure]
  simp [Oper.upon, hd, Act.put]
/-- The store of a whole entry at the end of zzs4554bentry, by one law. -/
theorem wp_st32 (t0 t1 t3 t4 t5 t6 t7 t8 t9 t10 t11 t12 t13 t14 t15 t16 t17 t18 t19 : Value) (b ty : Nat) (h : ByteArray) (k n s c : Int) (r : Bool) (w : World) (ps : String) (af : Array Edge) (ds : List Deferred) (K : Act → World → Prop) (Q : Exit → Act → World → Prop) (ht : w.there b 0 37) :
    Oper.wp Ybaz.prog ⟨none, Op.store 32 (.tmp 2) (.tmp 20), ty, ps, af, none⟩ ⟨#[t0, t1, .pointer (some ⟨b, 0, none⟩), t3, t4, t5, t6, t7, t8, t9, t10, t11, t12, t13, t14, t15, t16, t17, t18, t19, .agg #[.string (Lk.nameOf k), .int .u64 n, .int .u8 s, .int .u8 0, .int .u8 0, .int .u8 0, .int .u8 0, .int .u8 0, .int .u8 0, .int .u8 0, .int .u8 0, .int .u8 0, .int .u8 0, .int .u8 0, .int .u8 0, .int .u8 0, .int .u8 0, .int .u8 0, .int .u8 0, .int .u8 0, .int .u8 0, .int .u8 0, .int .u8 0, .int .u8 0, .int .u8 0, .int .u8 0, .int .u8 0, .int .u8 0, .int .u8 0, .int .u8 0, .int .u8 0, .int .u8 0, .int .u8 0, .int .u8 0, .bool r, .int .i64 c, .string h]], ds⟩ w K Q =
      K ⟨#[t0, t1, .pointer (some ⟨b, 0, none⟩), t3, t4, t5, t6, t7, t8, t9, t10, t11, t12, t13, t14, t15, t16, t17, t18, t19, .agg #[.string (Lk.nameOf k), .int .u64 n, .int .u8 s, .int .u8 0, .int .u8 0, .int .u8 0, .int .u8 0, .int .u8 0, .int .u8 0, .int .u8 0, .int .u8 0, .int .u8 0, .int .u8 0, .int .u8 0, .int .u8 0, .int .u8 0, .int .u8 0, .int .u8 0, .int .u8 0, .int .u8 0, .int .u8 0, .int .u8 0, .int .u8 0, .int .u8 0, .int .u8 0, .int .u8 0, .int .u8 0, .int .u8 0, .int .u8 0, .int .u8 0, .int .u8 0, .int .u8 0, .int .u8 0, .int .u8 0, .bool r, .int .i64 c, .string h]], ds⟩ (w.setCells b 0 (Lk.entryA k n r s c h).toList) := by
  have := run_store32 w b (Lk.entryA k n r s c h) ht rfl (entryA_one k n r s c h)
  exact wp_store_gen rfl rfl rfl rfl this
attribute [local go_sem ↓] wp_st32

theorem range_new3 (w : World) (o1 o2 : Obj) (C : Array Value) (t : TypeId) {cs : List Value} (h : C.toList = cs) : (((w.alloc o1).alloc o2).alloc (.cells C t)).rangeAt (w.heap.size + 1 + 1) 0 cs := fun j v hv => by
  subst h
  have := heap_alloc_new ((w.alloc o1).alloc o2) (.cells C t)
  rw [show ((w.alloc o1).alloc o2).heap.size = w.heap.size + 1 + 1 from by simp] at this
  rw [Nat.zero_add, cell_of_row _ _ j C t _ this]
  simpa using hv
theorem there_new2 (w : World) (o1 o3 : Obj) (C : Array Value) (t : TypeId) (n : Nat) (h : C.size = n) : (((w.alloc o1).alloc (.cells C t)).alloc o3).there (w.heap.size + 1) 0 n := fun j hj => by
  have h2 := heap_alloc_new (w.alloc o1) (.cells C t)
  rw [show (w.alloc o1).heap.size = w.heap.size + 1 from by simp] at h2
  have h3 : (((w.alloc o1).alloc (.cells C t)).alloc o3).heap[w.heap.size + 1]? = some (.cells C t) := by
    exact (Below.heap_alloc _ _ _ (by simp)).trans h2
  rw [Nat.zero_add, cell_of_row _ _ j C t _ h3]
  exact ⟨by simp [h, hj], frozen_of_row _ _ j C t h3⟩
theorem below_setCells' {B b : Nat} {a : World} (hb : B ≤ b) : ∀ (vs : List Value) (o : Nat) (w : World), Below B a w → Below B a (w.setCells b o vs)
  | [], _, _, h => h
  | v :: r, o, w, h => below_setCells' hb r (o + 1) _ (h.setCell (by exact hb) v)
theorem res32 {fn : Func} {p : Tmp} (tmps : Array Value) (w : World) (b : Nat) (cs : Array Value) (hf : fn.results = #[.cell p 32]) (hp : tmps.getD p undef = .pointer (some ⟨b, 0, none⟩)) (hs : cs.size = 37) (hr : w.rangeAt b 0 cs.toList) :
    (results fn tmps).run Ybaz.prog w = .ok (.agg cs) w := by
  have hp' : tmps[p]?.getD undef = .pointer (some ⟨b, 0, none⟩) := by simpa using hp
  have := run_loadVar_mid (P := Ybaz.prog) w b 0 32 cs.toList _ hr Ybaz.underlying32 rfl (by rw [size32]; simp [hs])
  simp [results, hf, hp', asAddr, this]
theorem cell_drew' (W : World) (x : Addr) : W.drew.cell? x = W.cell? x := rfl
theorem cell_out {W : World} {b o : Nat} {vs : List Value} {x : Addr} {v : Value} (h : W.cell? x = some v) (hne : x.block ≠ b) : (W.setCells b o vs).cell? x = some v := by
  rw [World.cell?_setCells_out _ _ _ _ _ (fun e => absurd e hne)]; exact h
theorem range_out {W : World} {b o b' o' : Nat} {vs cs : List Value} (h : W.rangeAt b' o' cs) (hne : b' ≠ b) : (W.setCells b o vs).rangeAt b' o' cs := World.rangeAt_setCells_apart h _ _ _ (Or.inl hne)

set_option maxRecDepth 100000 in
set_option maxHeartbeats 1000000 in
theorem entry_any (k n : Int) (r : Bool) (s c : Int) (h : ByteArray) (w : World) (h0 : 0 ≤ k) (h1 : k ≤ 255) :
    Calls Ybaz.prog 11 #[.agg #[.int .u8 k, .int .u64 n, .bool r, .int .u8 s, .int .i64 c, .string h]] w fun e w' => e = .returned (.agg (Lk.entryA k n r s c h)) ∧ Below w.heap.size w w' := by
  go_enter Ybaz.func11, Ybaz.ntmps11
  go_wp2_with fail
  refine wp_name (fun W => W.cell? ⟨w.heap.size, 0, none⟩ = some (.int .u8 k) ∧ W.cell? ⟨w.heap.size, 1, none⟩ = some (.int .u64 n) ∧ W.cell? ⟨w.heap.size, 2, none⟩ = some (.bool r) ∧ W.cell? ⟨w.heap.size, 4, none⟩ = some (.int .i64 c) ∧ W.cell? ⟨w.heap.size, 5, none⟩ = some (.string h) ∧ W.rangeAt (w.heap.size + 1 + 1) 0 [.int .u8 s, .int .u8 0, .int .u8 0, .int .u8 0, .int .u8 0, .int .u8 0, .int .u8 0, .int .u8 0, .int .u8 0, .int .u8 0, .int .u8 0, .int .u8 0, .int .u8 0, .int .u8 0, .int .u8 0, .int .u8 0, .int .u8 0, .int .u8 0, .int .u8 0, .int .u8 0, .int .u8 0, .int .u8 0, .int .u8 0, .int .u8 0, .int .u8 0, .int .u8 0, .int .u8 0, .int .u8 0, .int .u8 0, .int .u8 0, .int .u8 0, .int .u8 0] ∧ W.there (w.heap.size + 1) 0 37 ∧ Below w.heap.size w W) ?_ ?_
  · refine ⟨by simp [go_sem], by simp [go_sem], by simp [go_sem], by simp [go_sem], by simp [go_sem], ?_, ?_, ?_⟩
    · exact range_new3 _ _ _ _ _ rfl
    · exact there_new2 _ _ _ _ _ 37 rfl
    · exact (((Below.refl _ _).alloc (Nat.le_refl _) _).alloc (by simp) _).alloc (by simp; omega) _
  intro W ⟨c0, c1, c2, c4, c5, cr, ct, hb⟩
  have hu := Ybaz.underlying28
  have hi : (Ybaz.prog.info? 28).map (·.size) = some 32 := size28
  go_region_held3 (fun W => W.cell? ⟨w.heap.size, 0, none⟩ = some (.int .u8 k) ∧ W.cell? ⟨w.heap.size, 1, none⟩ = some (.int .u64 n) ∧ W.cell? ⟨w.heap.size, 2, none⟩ = some (.bool r) ∧ W.cell? ⟨w.heap.size, 4, none⟩ = some (.int .i64 c) ∧ W.cell? ⟨w.heap.size, 5, none⟩ = some (.string h) ∧ W.rangeAt (w.heap.size + 1 + 1) 0 [.int .u8 s, .int .u8 0, .int .u8 0, .int .u8 0, .int .u8 0, .int .u8 0, .int .u8 0, .int .u8 0, .int .u8 0, .int .u8 0, .int .u8 0, .int .u8 0, .int .u8 0, .int .u8 0, .int .u8 0, .int .u8 0, .int .u8 0, .int .u8 0, .int .u8 0, .int .u8 0, .int .u8 0, .int .u8 0, .int .u8 0, .int .u8 0, .int .u8 0, .int .u8 0, .int .u8 0, .int .u8 0, .int .u8 0, .int .u8 0, .int .u8 0, .int .u8 0] ∧ W.there (w.heap.size + 1) 0 37) ((go_split_ands; refine ⟨?_, ?_, ?_, ?_, ?_, ?_, ?_⟩ <;> (try simp only [cell_drew', World.rangeAt_drew, World.there_drew]) <;> first | exact cell_out (by assumption) (by simp) | exact range_out (by assumption) (by simp) | exact World.there_setCells (by assumption) _ _ _ | assumption))
    (first | (go_at_call 10; refine (name_any _ _ (by omega) (by omega)).mono ?_; rintro e w' ⟨rfl, rfl⟩))
  go_wp2
  refine bodyPost_ret (v := .agg (Lk.entryA k n r s c h)) (res32 _ _ (w.heap.size + 1) _ rfl rfl rfl (World.rangeAt_setCells_same _ _ _ _ (by simpa [Lk.entryA_size] using ct))) rfl ⟨rfl, below_setCells' (by omega) _ _ _ hb.drew⟩

/-- A whole entry stored into a block of its own: the world behind is a letter. -/
theorem wpl_store32 {ops : Array Oper} {rest : List Oper} {o : Oper} {a : Act} {w : World} {Q : Exit → Act → World → Prop} (hgd : o.guard = none) (x y : Operand) (ho : o.op = .store 32 x y)
    (g : Nat) (cells : Array Value) (hx : a.eval x = .pointer (some ⟨g, 0, none⟩)) (hy : a.eval y = .agg cells) (old : Array Value) (hg : w.heap[g]? = some (.cells old 32 (0, 0))) (hold : old.size = 37) (hs : cells.size = 37) (h1 : cells.all (·.oneCell') = true)
    (h : ∀ w', w'.heap[g]? = some (.cells cells 32 (0, 0)) → w.grownBy w' (some g) → wpList Ybaz.prog ops Q rest (a.put o.dst undef) w') : wpList Ybaz.prog ops Q (o :: rest) a w :=
  wpList_store_row hgd 32 x y ho g cells hx hy 32 old hg (by rw [hs]; exact size32) (by rw [hold, hs]) h1
    (h _ (setRow_heap w g old cells 32 _ hg) ⟨rfl, rfl, rfl, by simp, fun i _ hi => setRow_other w g i cells (fun e => hi (by rw [e]))⟩)

theorem entry_one (x : Lk.It) : x.entry.all (·.oneCell') = true := entryA_one _ _ _ _ _ _
theorem entry_size (x : Lk.It) : x.entry.size = 37 := rfl
theorem entry_it (x : Lk.It) (w : World) (h0 : 0 ≤ x.k) (h1 : x.k ≤ 255) :
    Calls Ybaz.prog 11 #[.agg x.cells.toArray] w fun e w' => e = .returned (.agg x.entry) ∧ Below w.heap.size w w' :=
  entry_any x.k x.n x.r x.s x.c x.h w h0 h1
theorem size80 : (Ybaz.prog.info? 80).map (·.size) = some 6 := by kernel_rfl
theorem res32_row {fn : Func} {p : Tmp} (tmps : Array Value) (w : World) (b : Nat) (cs : Array Value) (hf : fn.results = #[.cell p 32]) (hp : tmps.getD p undef = .pointer (some ⟨b, 0, none⟩)) (hs : cs.size = 37) (hr : w.heap[b]? = some (.cells cs 32 (0, 0))) :
    (results fn tmps).run Ybaz.prog w = .ok (.agg cs) w :=
  results_cell_row hf tmps w b 32 cs (0, 0) _ hp hr Ybaz.underlying32 rfl (by rw [hs]; exact size32)
end Go.Proofs.YbulkcpheGreat
