/-
  The map literal of newEnv ('own := map[string]string{..}'): one region of twenty operations that draws its order: two texts read out of 'values', two calls of strings.Join, a new map and four entries. By the invariant's law: whatever the order, the map behind it holds the last value at _MAX_TRUST.
-/
import Derived.Test.Qxb6605783aFmtRegion
import Derived.Test.Qxb6605783aFmtJoin
import Derived.Maps.Own
import Derived.Maps.OwnSet
import Derived.Maps.Views
import Derived.Maps.StringElems
namespace Go.Proofs.Qxb6605783aFmt.Env
open Go.ChangeShapes Go.WideShapes Go.ChangeAt Go.RowKit
set_option linter.unusedVariables false

def MINT : ByteArray := ⟨#[95, 77, 73, 78, 95, 84, 82, 85, 83, 84]⟩
def MAXT : ByteArray := ⟨#[95, 77, 65, 88, 95, 84, 82, 85, 83, 84]⟩
def VALS : ByteArray := ⟨#[95, 86, 65, 76, 85, 69, 83]⟩
def AUTH : ByteArray := ⟨#[95, 65, 67, 84, 73, 79, 78, 95, 65, 85, 84, 72, 79, 82, 73, 90, 69, 82, 83]⟩
def COMMA : ByteArray := ⟨#[44]⟩

/-- What is looked at of an operation: where it writes, what it is, its guard, whom it waits for. -/
def view (o : Oper) : Option Tmp × Op × Option (Nat × Bool) × List (Nat × Bool) := (o.dst, o.op, o.guard, o.after.toList.map (fun e => (e.on, Region.binds .any e)))

/-- It waits for these. -/
def on (l : List Nat) : List (Nat × Bool) := l.map (fun j => (j, true))

/-- The region's twenty operations. -/
def want : List (Option Tmp × Op × Option (Nat × Bool) × List (Nat × Bool)) := [
  (some 75, .makeMap 36 none, none, on []),
  (some 76, .move (.tmp 2), none, on []),
  (some 77, .indexAddr 22 (.tmp 76) (.const (.int .i64 0)), none, on [1]),
  (some 78, .load 9 (.tmp 77), none, on [2]),
  (none, .insert 36 (.tmp 75) (.const (.string MINT)) (.tmp 78), none, on [0, 3]),
  (some 79, .move (.tmp 2), none, on []),
  (some 80, .move (.tmp 2), none, on []),
  (some 81, .call { callee := .builtin .len, args := #[.tmp 80], argTypes := #[22] }, none, on [6]),
  (some 82, .binOp .sub 3 (.tmp 81) (.const (.int .i64 1)) 3, none, on [7]),
  (some 83, .indexAddr 22 (.tmp 79) (.tmp 82), none, on [5, 8]),
  (some 84, .load 9 (.tmp 83), none, on [9]),
  (none, .insert 36 (.tmp 75) (.const (.string MAXT)) (.tmp 84), none, on [0, 10]),
  (some 85, .move (.tmp 2), none, on []),
  (some 86, .call { callee := .value (.func 19), args := #[.tmp 85, .const (.string COMMA)], argTypes := #[22, 9] }, none, on [12]),
  (none, .insert 36 (.tmp 75) (.const (.string VALS)) (.tmp 86), none, on [0, 13]),
  (some 87, .move (.tmp 0), none, on []),
  (some 88, .call { callee := .value (.func 19), args := #[.tmp 87, .const (.string COMMA)], argTypes := #[22, 9] }, none, on [15, 13]),
  (none, .insert 36 (.tmp 75) (.const (.string AUTH)) (.tmp 88), none, on [0, 16]),
  (some 89, .move (.tmp 75), none, on [0, 1, 2, 3, 4, 5, 6, 7, 8, 9, 10, 11, 12, 13, 14, 15, 16, 17]),
  (some 17, .assign (.tmp 89), none, on [18, 16, 0, 1, 2, 3, 4, 5, 6, 7, 8, 9, 10, 11, 12, 13, 14, 15, 16, 17, 18])]

theorem view_at {ops : Array Oper} {l : List (Option Tmp × Op × Option (Nat × Bool) × List (Nat × Bool))} (H : ops.toList.map view = l) {i : Nat} {o : Oper} (ho : ops[i]? = some o) : l[i]? = some (view o) := by
  rw [← H, List.getElem?_map, Array.getElem?_toList, ho]
  rfl

/-- Every edge goes back. -/
theorem want_back : want.zipIdx.all (fun p => p.1.2.2.2.all (fun j => decide (j.1 < p.2))) = true := by decide +kernel

theorem edges_back {ops : Array Oper} (H : ops.toList.map view = want) : ∀ (i : Nat) o, ops[i]? = some o → ∀ e ∈ o.after, e.on < i := by
  intro i o ho e he
  have hv := view_at H ho
  have hm : (view o, i) ∈ want.zipIdx := List.mk_mem_zipIdx_iff_getElem?.2 hv
  have h1 := List.all_eq_true.1 want_back _ hm
  have h2 := List.all_eq_true.1 h1 (e.on, Region.binds .any e) (List.mem_map.2 ⟨e, by simpa using he, rfl⟩)
  simpa using h2

/-- Whom an operation waits for has come up. -/
theorem dep_of {o : Oper} {L : Nat → Bool} {v : Option Tmp × Op × Option (Nat × Bool) × List (Nat × Bool)} (hv : view o = v) (hd : ∀ e ∈ o.after, Region.binds .any e = true → L e.on = true) {k : Nat} (hk : (k, true) ∈ v.2.2.2) : L k = true := by
  subst hv
  obtain ⟨e, he, hek⟩ := List.mem_map.1 hk
  simp only [Prod.mk.injEq] at hek
  obtain ⟨rfl, hb⟩ := hek
  exact hd e (by simpa using he) hb

theorem eval_other (a : Act) (d t : Nat) (v : Value) (h : t ≠ d) : (a.put (some d) v).eval (.tmp t) = a.eval (.tmp t) := by
  simp [Act.eval, Act.put, Array.getElem?_setIfInBounds_ne (Ne.symm h)]
theorem eval_same (a : Act) (d : Nat) (v : Value) (h : d < a.tmps.size) : (a.put (some d) v).eval (.tmp d) = v := by
  simp [Act.eval, Act.put, h]

end Go.Proofs.Qxb6605783aFmt.Env
