/-
  The plain side of LawS4554BLookup: what each Go function of the law computes. Nothing of the dump.
-/
import GoSem.Claim
namespace Go.Proofs.YbulkcpheGreat.Lk

/-- zzs4554bname -/
def nameOf (k : Int) : ByteArray :=
  if k % 4 = 0 then ⟨#[97]⟩ else if k % 4 = 1 then ⟨#[98]⟩ else if k % 4 = 2 then ⟨#[97, 98]⟩ else ⟨#[]⟩

/-- zzs4554bquery -/
def queryOf (q : Int) : ByteArray := if q % 5 = 4 then ⟨#[122, 122]⟩ else nameOf (q % 5)

theorem name0 {k : Int} (h : k % 4 = 0) : nameOf k = ⟨#[97]⟩ := by unfold nameOf; rw [if_pos h]
theorem name1 {k : Int} (h : k % 4 = 1) : nameOf k = ⟨#[98]⟩ := by unfold nameOf; rw [if_neg (by omega), if_pos h]
theorem name2 {k : Int} (h : k % 4 = 2) : nameOf k = ⟨#[97, 98]⟩ := by unfold nameOf; rw [if_neg (by omega), if_neg (by omega), if_pos h]
theorem name3 {k : Int} (h : k % 4 = 3) : nameOf k = ⟨#[]⟩ := by unfold nameOf; rw [if_neg (by omega), if_neg (by omega), if_neg (by omega)]

theorem name_size (k : Int) : (nameOf k).size ≤ 2 := by
  unfold nameOf; split <;> (try split) <;> (try split) <;> decide
theorem query_size (k : Int) : (queryOf k).size ≤ 2 := by
  unfold queryOf; split
  · decide
  · exact name_size _

/-- zzs4554bentry: the 37 cells of the notice.Entry. -/
def entryA (k n : Int) (r : Bool) (s c : Int) (h : ByteArray) : Array Value :=
  #[.string (nameOf k), .int .u64 n, .int .u8 s, .int .u8 0, .int .u8 0, .int .u8 0, .int .u8 0, .int .u8 0, .int .u8 0, .int .u8 0, .int .u8 0, .int .u8 0, .int .u8 0, .int .u8 0, .int .u8 0, .int .u8 0, .int .u8 0, .int .u8 0, .int .u8 0, .int .u8 0, .int .u8 0, .int .u8 0, .int .u8 0, .int .u8 0, .int .u8 0, .int .u8 0, .int .u8 0, .int .u8 0, .int .u8 0, .int .u8 0, .int .u8 0, .int .u8 0, .int .u8 0, .int .u8 0, .bool r, .int .i64 c, .string h]
/-- notice.Entry's zero value. -/
def zeroA : Array Value :=
  #[.string ⟨#[]⟩, .int .u64 0, .int .u8 0, .int .u8 0, .int .u8 0, .int .u8 0, .int .u8 0, .int .u8 0, .int .u8 0, .int .u8 0, .int .u8 0, .int .u8 0, .int .u8 0, .int .u8 0, .int .u8 0, .int .u8 0, .int .u8 0, .int .u8 0, .int .u8 0, .int .u8 0, .int .u8 0, .int .u8 0, .int .u8 0, .int .u8 0, .int .u8 0, .int .u8 0, .int .u8 0, .int .u8 0, .int .u8 0, .int .u8 0, .int .u8 0, .int .u8 0, .int .u8 0, .int .u8 0, .bool false, .int .i64 0, .string ⟨#[]⟩]
theorem entryA_size (k n : Int) (r : Bool) (s c : Int) (h : ByteArray) : (entryA k n r s c h).size = 37 := rfl
theorem zeroA_size : zeroA.size = 37 := rfl

/-- One ZzS4554BItem. -/
structure It where
  k : Int
  n : Int
  r : Bool
  s : Int
  c : Int
  h : ByteArray
def It.cells (x : It) : List Value := [.int .u8 x.k, .int .u64 x.n, .bool x.r, .int .u8 x.s, .int .i64 x.c, .string x.h]
def It.entry (x : It) : Array Value := entryA x.k x.n x.r x.s x.c x.h
def It.has (nm : ByteArray) (x : It) : Bool := (nameOf x.k).toList == nm.toList
/-- The last item under the name. -/
def lastW (nm : ByteArray) (items : List It) : Option It := items.reverse.find? (It.has nm)
/-- zzs4554bexpect -/
def expect (nm : ByteArray) (items : List It) : Array Value := match lastW nm items with
  | some x => x.entry
  | none => zeroA
theorem lastW_nil (nm : ByteArray) : lastW nm [] = none := rfl
theorem lastW_snoc (nm : ByteArray) (items : List It) (x : It) : lastW nm (items ++ [x]) = if x.has nm = true then some x else lastW nm items := by
  unfold lastW
  rw [List.reverse_append]
  simp only [List.reverse_cons, List.reverse_nil, List.nil_append, List.singleton_append, List.find?_cons]
  cases x.has nm <;> rfl
theorem take_snoc {α : Type} (l : List α) (i : Nat) (h : i < l.length) : l.take (i + 1) = l.take i ++ [l[i]] := by
  rw [List.take_succ_eq_append_getElem h]
theorem lastW_take (nm : ByteArray) (items : List It) (i : Nat) (h : i < items.length) : lastW nm (items.take (i + 1)) = if (items[i]).has nm = true then some items[i] else lastW nm (items.take i) := by
  rw [take_snoc items i h, lastW_snoc]
end Go.Proofs.YbulkcpheGreat.Lk
