import Derived.Test.Qxb6605734aRows
import Derived.WalkKit
import Derived.ProofKit
import Derived.OpenShut
import Derived.ShutString
import Derived.Handy
import Derived.Outline
import Derived.WalkSpells
namespace Go.Proofs.Qxb6605734a.fnLeavesTLSSplitsOverChains
open Go.ChangeShapes Go.WideShapes Go.ChangeAt Go.RowKit
set_option linter.unusedVariables false

/-- Is the scheme 'https'? -/
def tls (s : ByteArray) : Bool := s.toList == [104, 116, 116, 112, 115]

set_option maxHeartbeats 400000 in
theorem leaves_no (s1 h1 p1 s2 h2 p2 : ByteArray) (w : World) (a1 : tls s1 = false) :
    Calls Try.prog 6 #[.string s1, .string h1, .string p1, .string s2, .string h2, .string p2] w fun e w' => e = .returned (.bool false) ∧ Below w.heap.size w w' := by
  have k1 : (s1.toList == [104, 116, 116, 112, 115]) = false := a1
  clear a1
  go_enter Try.func6, Try.ntmps6
  go_wp2
  go_ret
  exact ⟨rfl, ((Below.refl _ _).alloc (Nat.le_refl _) _).alloc (by simp) _⟩

set_option maxHeartbeats 400000 in
theorem leaves_yes (s1 h1 p1 s2 h2 p2 : ByteArray) (w : World) (b : Bool) (a1 : tls s1 = true) (a2 : tls s2 = b) :
    Calls Try.prog 6 #[.string s1, .string h1, .string p1, .string s2, .string h2, .string p2] w fun e w' => e = .returned (.bool (!b)) ∧ Below w.heap.size w w' := by
  have k1 : (s1.toList == [104, 116, 116, 112, 115]) = true := a1
  have k2 : (s2.toList == [104, 116, 116, 112, 115]) = b := a2
  clear a1 a2
  go_enter Try.func6, Try.ntmps6
  go_wp2
  go_ret
  exact ⟨rfl, ((Below.refl _ _).alloc (Nat.le_refl _) _).alloc (by simp) _⟩

theorem leaves_any (s1 h1 p1 s2 h2 p2 : ByteArray) (w : World) (b1 b2 : Bool) (a1 : tls s1 = b1) (a2 : tls s2 = b2) :
    Calls Try.prog 6 #[.string s1, .string h1, .string p1, .string s2, .string h2, .string p2] w fun e w' => e = .returned (.bool (b1 && !b2)) ∧ Below w.heap.size w w' := by
  cases b1
  · exact leaves_no s1 h1 p1 s2 h2 p2 w a1
  · exact leaves_yes s1 h1 p1 s2 h2 p2 w b2 a1 a2

theorem https_yes : tls { data := #[104, 116, 116, 112, 115] } = true := by decide +kernel
theorem http_no : tls { data := #[104, 116, 116, 112] } = false := by decide +kernel

theorem below_next {w W1 W2 : World} (h1 : Below w.heap.size w W1) (h2 : Below W1.heap.size W1 W2) : Below w.heap.size w W2 := h1.trans (h2.mono h1.size)

set_option maxHeartbeats 1000000 in
theorem sized (a0 a1 a2 a3 a4 a5 a6 a7 a8 : ByteArray) (w : World) (w0 : a0.size ≤ maxLen) (w1 : a1.size ≤ maxLen) (w2 : a2.size ≤ maxLen) (w3 : a3.size ≤ maxLen) (w4 : a4.size ≤ maxLen) (w5 : a5.size ≤ maxLen) (w6 : a6.size ≤ maxLen) (w7 : a7.size ≤ maxLen) (w8 : a8.size ≤ maxLen) :
    Calls Try.prog 5 #[.string a0, .string a1, .string a2, .string a3, .string a4, .string a5, .string a6, .string a7, .string a8] w fun e w' => ∃ b : Bool, e = .returned (.bool b) ∧ w = w' := by
  unfold maxLen at w0 w1 w2 w3 w4 w5 w6 w7 w8
  go_enter Try.func5, Try.ntmps5
  go_wp2
  all_goals
    go_ret
    exact ⟨_, rfl, rfl⟩

set_option maxHeartbeats 1000000 in
theorem walk_short (a0 a1 a2 a3 a4 a5 a6 a7 a8 : ByteArray) (w : World) (w0 : a0.size ≤ 65536) (w1 : a1.size ≤ 65536) (w2 : a2.size ≤ 65536) (w3 : a3.size ≤ 65536) (w4 : a4.size ≤ 65536) (w5 : a5.size ≤ 65536) (w6 : a6.size ≤ 65536) (w7 : a7.size ≤ 65536) (w8 : a8.size ≤ 65536) (x y z : Bool) (hx : tls a0 = x) (hy : tls a3 = y) (hz : tls a6 = z) :
    Calls Try.prog 3 #[.string a0, .string a1, .string a2, .string a3, .string a4, .string a5, .string a6, .string a7, .string a8] w fun e w' => e = .returned (.bool true) ∧ Below w.heap.size w w' := by
  have HX : Hid (tls a0 = x) := hx
  have HY : Hid (tls a3 = y) := hy
  have HZ : Hid (tls a6 = z) := hz
  clear hx hy hz
  go_enter Try.func3, Try.ntmps3
  go_wp2_with fail
  refine (sized a0 a1 a2 a3 a4 a5 a6 a7 a8 _ (by unfold maxLen; omega) (by unfold maxLen; omega) (by unfold maxLen; omega) (by unfold maxLen; omega) (by unfold maxLen; omega) (by unfold maxLen; omega) (by unfold maxLen; omega) (by unfold maxLen; omega) (by unfold maxLen; omega)).mono ?_
  rintro e w' ⟨b, rfl, rfl⟩
  cases b
  · go_wp2_with fail
    go_ret
    exact ⟨rfl, Below.refl _ _⟩
  go_wp2_with fail
  refine (leaves_any _ _ _ _ _ _ _ x y HX.out HY.out).mono ?_
  rintro e W1 ⟨rfl, hb1⟩
  go_wp2_with fail
  refine (leaves_any _ _ _ _ _ _ _ y z HY.out HZ.out).mono ?_
  rintro e W2 ⟨rfl, hb2⟩
  replace hb2 := below_next hb1 hb2
  clear hb1
  go_wp2_with fail
  refine (leaves_any _ _ _ _ _ _ _ x z HX.out HZ.out).mono ?_
  rintro e W3 ⟨rfl, hb3⟩
  replace hb3 := below_next hb2 hb3
  clear hb2
  go_wp2_with fail
  refine (leaves_any _ _ _ _ _ _ _ x false HX.out http_no).mono ?_
  rintro e W4 ⟨rfl, hb4⟩
  replace hb4 := below_next hb3 hb4
  clear hb3
  go_wp2_with fail
  refine (leaves_any _ _ _ _ _ _ _ true z https_yes HZ.out).mono ?_
  rintro e W5 ⟨rfl, hb5⟩
  replace hb5 := below_next hb4 hb5
  clear hb4
  go_wp2_with fail
  refine (leaves_any _ _ _ _ _ _ _ x x HX.out HX.out).mono ?_
  rintro e W6 ⟨rfl, hb6⟩
  replace hb6 := below_next hb5 hb6
  clear hb5
  go_wp2_with fail
  refine (leaves_any _ _ _ _ _ _ _ true false https_yes http_no).mono ?_
  rintro e W7 ⟨rfl, hb7⟩
  replace hb7 := below_next hb6 hb7
  clear hb6
  have HB : Hid (Below w.heap.size w W7) := hb7
  clear hb7 w0 w1 w2 w3 w4 w5 w6 w7 w8
  cases x <;> cases y <;> cases z
  all_goals
    go_wp2
    go_ret
    exact ⟨rfl, HB.out⟩

end Go.Proofs.Qxb6605734a.fnLeavesTLSSplitsOverChains
