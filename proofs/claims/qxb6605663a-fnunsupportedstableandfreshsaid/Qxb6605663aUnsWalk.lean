import Derived.Test.Qxb6605663aRows
import Derived.WalkKit
import Derived.ProofKit
import Derived.OpenShut
import Derived.ShutString
import Derived.Handy
import Derived.Outline
import Derived.Deep.QuietTactic
import Derived.BigQuiet
import Derived.LaidEqlPtr
namespace Go.Proofs.Qxb6605663a.fnUnsupportedStableAndFresh
open Go.ChangeShapes Go.WideShapes Go.ChangeAt Go.RowKit
set_option linter.unusedVariables false

/-- The text that an executable comment is named by. -/
def EC : ByteArray := ⟨#[101, 120, 101, 99, 117, 116, 97, 98, 108, 101, 32, 99, 111, 109, 109, 101, 110, 116, 115]⟩

set_option maxHeartbeats 400000 in
theorem zzu_no (c : Int) (s : ByteArray) (w : World) (h : (c == 2) = false) :
    Calls Try.prog 10 #[.int .u8 c, .string s] w fun e w' => ∃ cs, e = .returned (.pointer (some ⟨w.heap.size + 1, 0, none⟩)) ∧ w' = (w.alloc (.cells cs 41)).alloc (.cells #[.string s] 34) := by
  go_enter Try.func10, Try.ntmps10
  go_wp2
  go_ret
  exact ⟨_, rfl, rfl⟩

set_option maxHeartbeats 400000 in
theorem zzu_yes (s : ByteArray) (w : World) :
    Calls Try.prog 10 #[.int .u8 2, .string s] w fun e w' => ∃ cs, e = .returned (.pointer (some ⟨w.heap.size + 1, 0, none⟩)) ∧ w' = (w.alloc (.cells cs 41)).alloc (.cells #[.string EC] 34) := by
  go_enter Try.func10, Try.ntmps10
  go_wp2
  go_ret
  exact ⟨_, rfl, rfl⟩

set_option maxHeartbeats 400000 in
theorem walk_long (a0 : Int) (a1 : ByteArray) (w0 : (Lit.int .u8 a0).wf = true) (w1 : a1.size ≤ maxLen) (w : World) (h : 65536 < a1.size) :
    Calls Try.prog 4 #[.int .u8 a0, .string a1] w fun e w' => e = .returned (.bool true) ∧ Grown w w' := by
  unfold maxLen at w1
  by_cases h2 : 1048576 < a1.size
  · go_enter Try.func4, Try.ntmps4
    go_wp2
    go_ret
    exact ⟨rfl, Grown.refl _⟩
  · go_enter Try.func4, Try.ntmps4
    go_wp2
    go_ret
    exact ⟨rfl, Grown.refl _⟩

set_option maxHeartbeats 400000 in
theorem walk_big (a0 : Int) (a1 : ByteArray) (w0 : (Lit.int .u8 a0).wf = true) (w : World) (h : a1.size ≤ 65536) (h2 : 2 < a0) :
    Calls Try.prog 4 #[.int .u8 a0, .string a1] w fun e w' => e = .returned (.bool true) ∧ Grown w w' := by
  go_enter Try.func4, Try.ntmps4
  go_wp2
  go_ret
  exact ⟨rfl, Grown.refl _⟩

/-- The world behind six calls. -/
abbrev six (w : World) (c1 c2 c3 c4 c5 c6 : Array Value) (v1 v2 v3 v4 v5 v6 : Value) : World :=
  (((((((((((w.alloc (.cells c1 41)).alloc (.cells #[v1] 34)).alloc (.cells c2 41)).alloc (.cells #[v2] 34)).alloc (.cells c3 41)).alloc (.cells #[v3] 34)).alloc (.cells c4 41)).alloc (.cells #[v4] 34)).alloc (.cells c5 41)).alloc (.cells #[v5] 34)).alloc (.cells c6 41)).alloc (.cells #[v6] 34)

theorem push_far {α : Type} (a : Array α) (x : α) (i : Nat) (h : i < a.size) : (a.push x)[i]? = a[i]? := by
  rw [Array.getElem?_push, if_neg (by omega)]

theorem size34 : (Try.prog.info? 34).map (fun j => j.size != 0) = some true := by kernel_rfl
theorem info34 : ∃ j, Try.prog.info? 34 = some j ∧ j.size ≠ 0 := by
  have h := size34
  cases e : Try.prog.info? 34 with
  | none => rw [e] at h; cases h
  | some j => rw [e] at h; exact ⟨j, rfl, by simpa using h⟩

theorem grown_drewN {W w : World} (h : Grown W w) (n : Nat) : Grown W (w.drewN n) := ⟨h.1, h.2.1, h.2.2⟩
theorem six_grown (w : World) (c1 c2 c3 c4 c5 c6 : Array Value) (v1 v2 v3 v4 v5 v6 : Value) : Grown w (six w c1 c2 c3 c4 c5 c6 v1 v2 v3 v4 v5 v6) :=
  ((((((((((((Grown.refl w).alloc _ _).alloc _ _).alloc _ _).alloc _ _).alloc _ _).alloc _ _).alloc _ _).alloc _ _).alloc _ _).alloc _ _).alloc _ _).alloc _ _

theorem ptr_ne (w : World) (c1 c2 c3 c4 c5 c6 : Array Value) (v1 v2 v3 v4 v5 v6 : Value) (n : Nat) :
    (binOp .eql 31 (.pointer (some ⟨w.heap.size + 1, 0, none⟩)) (.pointer (some ⟨w.heap.size + 1 + 1 + 1, 0, none⟩))).run Try.prog ((six w c1 c2 c3 c4 c5 c6 v1 v2 v3 v4 v5 v6).drewN n) = .ok (.bool false) ((six w c1 c2 c3 c4 c5 c6 v1 v2 v3 v4 v5 v6).drewN n) := by
  obtain ⟨j, hj, hs⟩ := info34
  refine run_eql_ptr_other (ca := #[v1]) (cb := #[v2]) (ta := 34) (tb := 34) _ Try.underlying31 hj hs (by simp) ?_ ?_
  · show ((((((((((((w.heap.push _).push _).push _).push _).push _).push _).push _).push _).push _).push _).push _).push _)[w.heap.size + 1]? = _
    repeat rw [push_far _ _ _ (by simp only [Array.size_push]; omega)]
    rw [Array.getElem?_push, if_pos (by simp only [Array.size_push])]
  · show ((((((((((((w.heap.push _).push _).push _).push _).push _).push _).push _).push _).push _).push _).push _).push _)[w.heap.size + 1 + 1 + 1]? = _
    repeat rw [push_far _ _ _ (by simp only [Array.size_push]; omega)]
    rw [Array.getElem?_push, if_pos (by simp only [Array.size_push])]

set_option maxHeartbeats 1000000 in
theorem walk_no (a0 : Int) (a1 : ByteArray) (w0 : (Lit.int .u8 a0).wf = true) (w : World) (h : a1.size ≤ 65536) (h2 : a0 < 2) (h3 : (a0 == 2) = false) :
    Calls Try.prog 4 #[.int .u8 a0, .string a1] w fun e w' => e = .returned (.bool true) ∧ Grown w w' := by
  go_enter Try.func4, Try.ntmps4
  go_wp2_with (go_at_call 9; go_in)
  refine (zzu_no a0 a1 _ h3).mono ?_
  rintro e w' ⟨cs1, rfl, rfl⟩
  go_wp2_with fail
  refine (zzu_no a0 a1 _ h3).mono ?_
  rintro e w' ⟨cs2, rfl, rfl⟩
  go_wp2_with fail
  refine (zzu_no 0 a1 _ rfl).mono ?_
  rintro e w' ⟨cs3, rfl, rfl⟩
  go_wp2_with fail
  refine (zzu_no 1 a1 _ rfl).mono ?_
  rintro e w' ⟨cs4, rfl, rfl⟩
  go_wp2_with fail
  refine (zzu_yes _ _).mono ?_
  rintro e w' ⟨cs5, rfl, rfl⟩
  go_wp2_with fail
  refine (zzu_no a0 a1 _ h3).mono ?_
  rintro e w' ⟨cs6, rfl, rfl⟩
  go_wp2_with fail
  have hne := ptr_ne w cs1 cs2 cs3 cs4 cs5 cs6 (.string a1) (.string a1) (.string a1) (.string a1) (.string EC) (.string a1)
  go_quiet (fail)
  clear hne
  go_wp2
  go_ret
  exact ⟨rfl, grown_drewN (six_grown w cs1 cs2 cs3 cs4 cs5 cs6 (.string a1) (.string a1) (.string a1) (.string a1) (.string EC) (.string a1)) _⟩

set_option maxHeartbeats 1000000 in
theorem walk_yes (a1 : ByteArray) (w : World) (h : a1.size ≤ 65536) :
    Calls Try.prog 4 #[.int .u8 2, .string a1] w fun e w' => e = .returned (.bool true) ∧ Grown w w' := by
  go_enter Try.func4, Try.ntmps4
  go_wp2_with (go_at_call 9; go_in)
  refine (zzu_yes _ _).mono ?_
  rintro e w' ⟨cs1, rfl, rfl⟩
  go_wp2_with fail
  refine (zzu_yes _ _).mono ?_
  rintro e w' ⟨cs2, rfl, rfl⟩
  go_wp2_with fail
  refine (zzu_no 0 a1 _ rfl).mono ?_
  rintro e w' ⟨cs3, rfl, rfl⟩
  go_wp2_with fail
  refine (zzu_no 1 a1 _ rfl).mono ?_
  rintro e w' ⟨cs4, rfl, rfl⟩
  go_wp2_with fail
  refine (zzu_yes _ _).mono ?_
  rintro e w' ⟨cs5, rfl, rfl⟩
  go_wp2_with fail
  refine (zzu_yes _ _).mono ?_
  rintro e w' ⟨cs6, rfl, rfl⟩
  go_wp2_with fail
  have hne := ptr_ne w cs1 cs2 cs3 cs4 cs5 cs6 (.string EC) (.string EC) (.string a1) (.string a1) (.string EC) (.string EC)
  have hec : EC.toList.isEmpty = false := by decide +kernel
  go_quiet (fail)
  clear hne
  go_wp2_with fail
  go_quiet (fail)
  go_wp2
  go_ret
  exact ⟨rfl, grown_drewN (grown_drewN (six_grown w cs1 cs2 cs3 cs4 cs5 cs6 (.string EC) (.string EC) (.string a1) (.string a1) (.string EC) (.string EC)) _) _⟩

end Go.Proofs.Qxb6605663a.fnUnsupportedStableAndFresh
