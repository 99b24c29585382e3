/-
  FnEnvTopGrowsByOneWithANewValue: every input.
-/
import Derived.Test.Qxb6605783aFmtGrow
namespace Go.Proofs.Qxb6605783aFmt.Env
open Go.ChangeShapes Go.WideShapes Go.ChangeAt Go.RowKit Go.Maps Go.WideMaps
set_option linter.unusedVariables false

set_option maxRecDepth 100000 in
set_option maxHeartbeats 1000000 in
theorem grow_long (a0 : Option Addr) (n0 c0 : Nat) (rs : List ByteArray) (a1 : Option Addr) (n1 c1 : Nat) (vs : List ByteArray) (x : ByteArray) (w : World)
    (h0 : Strs w a0 n0 rs) (h1 : Strs w a1 n1 vs) (w0 : n0 ≤ maxLen) (w1 : n1 ≤ maxLen) (w2 : x.size ≤ maxLen) (h : 65536 < n0 ∨ (n0 ≤ 65536 ∧ 4096 < n1) ∨ (n0 ≤ 65536 ∧ n1 ≤ 4096 ∧ 65536 < x.size)) :
    Calls Tryf.prog 4 #[.slice a0 n0 c0, .slice a1 n1 c1, .string x] w fun e w' => e = .returned (.bool true) ∧ Below w.heap.size w w' := by
  have H0 : Hid (Strs w a0 n0 rs) := h0
  have H1 : Hid (Strs w a1 n1 vs) := h1
  clear h0 h1
  have v0 := w0
  have v1 := w1
  have v2 := w2
  unfold maxLen at v0 v1 v2
  rcases h with h | ⟨ha, hb⟩ | ⟨ha, hb, hc⟩
  all_goals
    go_enter Tryf.func4, Tryf.ntmps4
    go_wp2_with fail
    refine (sized13 a0 n0 c0 rs a1 n1 c1 vs x w H0.out H1.out w0 w1 w2).mono ?_
    rintro e w' ⟨⟨b, rfl⟩, rfl⟩
    cases b
    · go_wp2_with fail
      go_ret
      exact ⟨rfl, Below.refl _ _⟩
    · go_wp2_with fail
      go_ret
      exact ⟨rfl, Below.refl _ _⟩

theorem grow_all (a0 : Option Addr) (n0 c0 : Nat) (rs : List ByteArray) (a1 : Option Addr) (n1 c1 : Nat) (vs : List ByteArray) (x : ByteArray) (w : World)
    (h0 : Strs w a0 n0 rs) (h1 : Strs w a1 n1 vs) (w0 : n0 ≤ maxLen) (w1 : n1 ≤ maxLen) (w2 : x.size ≤ maxLen) :
    Calls Tryf.prog 4 #[.slice a0 n0 c0, .slice a1 n1 c1, .string x] w fun e w' => e = .returned (.bool true) ∧ Below w.heap.size w w' := by
  by_cases h : 65536 < n0 ∨ (n0 ≤ 65536 ∧ 4096 < n1) ∨ (n0 ≤ 65536 ∧ n1 ≤ 4096 ∧ 65536 < x.size)
  · exact grow_long a0 n0 c0 rs a1 n1 c1 vs x w h0 h1 w0 w1 w2 h
  · exact grow_walk a0 n0 c0 rs a1 n1 c1 vs x w h0 h1 (by omega) (by omega) (by omega)

end Go.Proofs.Qxb6605783aFmt.Env
