import Derived.Test.Qxb6605734aTls
namespace Go.Proofs.Qxb6605734a.fnLeavesTLSSplitsOverChains
open Go.ChangeShapes Go.WideShapes Go.ChangeAt Go.RowKit
set_option linter.unusedVariables false

set_option maxHeartbeats 1000000 in
theorem walk_long0 (a0 a1 a2 a3 a4 a5 a6 a7 a8 : ByteArray) (w : World) (w0 : a0.size ≤ maxLen) (w1 : a1.size ≤ maxLen) (w2 : a2.size ≤ maxLen) (w3 : a3.size ≤ maxLen) (w4 : a4.size ≤ maxLen) (w5 : a5.size ≤ maxLen) (w6 : a6.size ≤ maxLen) (w7 : a7.size ≤ maxLen) (w8 : a8.size ≤ maxLen) (h0 : 65536 < a0.size) :
    Calls Try.prog 3 #[.string a0, .string a1, .string a2, .string a3, .string a4, .string a5, .string a6, .string a7, .string a8] w fun e w' => e = .returned (.bool true) ∧ Below w.heap.size w w' := by
  have k0 : Hid (a0.size ≤ maxLen) := w0
  have k1 : Hid (a1.size ≤ maxLen) := w1
  have k2 : Hid (a2.size ≤ maxLen) := w2
  have k3 : Hid (a3.size ≤ maxLen) := w3
  have k4 : Hid (a4.size ≤ maxLen) := w4
  have k5 : Hid (a5.size ≤ maxLen) := w5
  have k6 : Hid (a6.size ≤ maxLen) := w6
  have k7 : Hid (a7.size ≤ maxLen) := w7
  have k8 : Hid (a8.size ≤ maxLen) := w8
  clear w1 w2 w3 w4 w5 w6 w7 w8
  unfold maxLen at w0
  go_enter Try.func3, Try.ntmps3
  go_wp2_with fail
  refine (sized a0 a1 a2 a3 a4 a5 a6 a7 a8 _ k0.out k1.out k2.out k3.out k4.out k5.out k6.out k7.out k8.out).mono ?_
  rintro e w' ⟨b, rfl, rfl⟩
  cases b
  · go_wp2_with fail
    go_ret
    exact ⟨rfl, Below.refl _ _⟩
  · go_wp2_with fail
    go_ret
    exact ⟨rfl, Below.refl _ _⟩

set_option maxHeartbeats 1000000 in
theorem walk_long1 (a0 a1 a2 a3 a4 a5 a6 a7 a8 : ByteArray) (w : World) (w0 : a0.size ≤ maxLen) (w1 : a1.size ≤ maxLen) (w2 : a2.size ≤ maxLen) (w3 : a3.size ≤ maxLen) (w4 : a4.size ≤ maxLen) (w5 : a5.size ≤ maxLen) (w6 : a6.size ≤ maxLen) (w7 : a7.size ≤ maxLen) (w8 : a8.size ≤ maxLen) (h0 : a0.size ≤ 65536) (h1 : 65536 < a1.size) :
    Calls Try.prog 3 #[.string a0, .string a1, .string a2, .string a3, .string a4, .string a5, .string a6, .string a7, .string a8] w fun e w' => e = .returned (.bool true) ∧ Below w.heap.size w w' := by
  have k0 : Hid (a0.size ≤ maxLen) := w0
  have k1 : Hid (a1.size ≤ maxLen) := w1
  have k2 : Hid (a2.size ≤ maxLen) := w2
  have k3 : Hid (a3.size ≤ maxLen) := w3
  have k4 : Hid (a4.size ≤ maxLen) := w4
  have k5 : Hid (a5.size ≤ maxLen) := w5
  have k6 : Hid (a6.size ≤ maxLen) := w6
  have k7 : Hid (a7.size ≤ maxLen) := w7
  have k8 : Hid (a8.size ≤ maxLen) := w8
  clear w0 w2 w3 w4 w5 w6 w7 w8
  unfold maxLen at w1
  go_enter Try.func3, Try.ntmps3
  go_wp2_with fail
  refine (sized a0 a1 a2 a3 a4 a5 a6 a7 a8 _ k0.out k1.out k2.out k3.out k4.out k5.out k6.out k7.out k8.out).mono ?_
  rintro e w' ⟨b, rfl, rfl⟩
  cases b
  · go_wp2_with fail
    go_ret
    exact ⟨rfl, Below.refl _ _⟩
  · go_wp2_with fail
    go_ret
    exact ⟨rfl, Below.refl _ _⟩

set_option maxHeartbeats 1000000 in
theorem walk_long2 (a0 a1 a2 a3 a4 a5 a6 a7 a8 : ByteArray) (w : World) (w0 : a0.size ≤ maxLen) (w1 : a1.size ≤ maxLen) (w2 : a2.size ≤ maxLen) (w3 : a3.size ≤ maxLen) (w4 : a4.size ≤ maxLen) (w5 : a5.size ≤ maxLen) (w6 : a6.size ≤ maxLen) (w7 : a7.size ≤ maxLen) (w8 : a8.size ≤ maxLen) (h0 : a0.size ≤ 65536) (h1 : a1.size ≤ 65536) (h2 : 65536 < a2.size) :
    Calls Try.prog 3 #[.string a0, .string a1, .string a2, .string a3, .string a4, .string a5, .string a6, .string a7, .string a8] w fun e w' => e = .returned (.bool true) ∧ Below w.heap.size w w' := by
  have k0 : Hid (a0.size ≤ maxLen) := w0
  have k1 : Hid (a1.size ≤ maxLen) := w1
  have k2 : Hid (a2.size ≤ maxLen) := w2
  have k3 : Hid (a3.size ≤ maxLen) := w3
  have k4 : Hid (a4.size ≤ maxLen) := w4
  have k5 : Hid (a5.size ≤ maxLen) := w5
  have k6 : Hid (a6.size ≤ maxLen) := w6
  have k7 : Hid (a7.size ≤ maxLen) := w7
  have k8 : Hid (a8.size ≤ maxLen) := w8
  clear w0 w1 w3 w4 w5 w6 w7 w8
  unfold maxLen at w2
  go_enter Try.func3, Try.ntmps3
  go_wp2_with fail
  refine (sized a0 a1 a2 a3 a4 a5 a6 a7 a8 _ k0.out k1.out k2.out k3.out k4.out k5.out k6.out k7.out k8.out).mono ?_
  rintro e w' ⟨b, rfl, rfl⟩
  cases b
  · go_wp2_with fail
    go_ret
    exact ⟨rfl, Below.refl _ _⟩
  · go_wp2_with fail
    go_ret
    exact ⟨rfl, Below.refl _ _⟩

set_option maxHeartbeats 1000000 in
theorem walk_long3 (a0 a1 a2 a3 a4 a5 a6 a7 a8 : ByteArray) (w : World) (w0 : a0.size ≤ maxLen) (w1 : a1.size ≤ maxLen) (w2 : a2.size ≤ maxLen) (w3 : a3.size ≤ maxLen) (w4 : a4.size ≤ maxLen) (w5 : a5.size ≤ maxLen) (w6 : a6.size ≤ maxLen) (w7 : a7.size ≤ maxLen) (w8 : a8.size ≤ maxLen) (h0 : a0.size ≤ 65536) (h1 : a1.size ≤ 65536) (h2 : a2.size ≤ 65536) (h3 : 65536 < a3.size) :
    Calls Try.prog 3 #[.string a0, .string a1, .string a2, .string a3, .string a4, .string a5, .string a6, .string a7, .string a8] w fun e w' => e = .returned (.bool true) ∧ Below w.heap.size w w' := by
  have k0 : Hid (a0.size ≤ maxLen) := w0
  have k1 : Hid (a1.size ≤ maxLen) := w1
  have k2 : Hid (a2.size ≤ maxLen) := w2
  have k3 : Hid (a3.size ≤ maxLen) := w3
  have k4 : Hid (a4.size ≤ maxLen) := w4
  have k5 : Hid (a5.size ≤ maxLen) := w5
  have k6 : Hid (a6.size ≤ maxLen) := w6
  have k7 : Hid (a7.size ≤ maxLen) := w7
  have k8 : Hid (a8.size ≤ maxLen) := w8
  clear w0 w1 w2 w4 w5 w6 w7 w8
  unfold maxLen at w3
  go_enter Try.func3, Try.ntmps3
  go_wp2_with fail
  refine (sized a0 a1 a2 a3 a4 a5 a6 a7 a8 _ k0.out k1.out k2.out k3.out k4.out k5.out k6.out k7.out k8.out).mono ?_
  rintro e w' ⟨b, rfl, rfl⟩
  cases b
  · go_wp2_with fail
    go_ret
    exact ⟨rfl, Below.refl _ _⟩
  · go_wp2_with fail
    go_ret
    exact ⟨rfl, Below.refl _ _⟩

set_option maxHeartbeats 1000000 in
theorem walk_long4 (a0 a1 a2 a3 a4 a5 a6 a7 a8 : ByteArray) (w : World) (w0 : a0.size ≤ maxLen) (w1 : a1.size ≤ maxLen) (w2 : a2.size ≤ maxLen) (w3 : a3.size ≤ maxLen) (w4 : a4.size ≤ maxLen) (w5 : a5.size ≤ maxLen) (w6 : a6.size ≤ maxLen) (w7 : a7.size ≤ maxLen) (w8 : a8.size ≤ maxLen) (h0 : a0.size ≤ 65536) (h1 : a1.size ≤ 65536) (h2 : a2.size ≤ 65536) (h3 : a3.size ≤ 65536) (h4 : 65536 < a4.size) :
    Calls Try.prog 3 #[.string a0, .string a1, .string a2, .string a3, .string a4, .string a5, .string a6, .string a7, .string a8] w fun e w' => e = .returned (.bool true) ∧ Below w.heap.size w w' := by
  have k0 : Hid (a0.size ≤ maxLen) := w0
  have k1 : Hid (a1.size ≤ maxLen) := w1
  have k2 : Hid (a2.size ≤ maxLen) := w2
  have k3 : Hid (a3.size ≤ maxLen) := w3
  have k4 : Hid (a4.size ≤ maxLen) := w4
  have k5 : Hid (a5.size ≤ maxLen) := w5
  have k6 : Hid (a6.size ≤ maxLen) := w6
  have k7 : Hid (a7.size ≤ maxLen) := w7
  have k8 : Hid (a8.size ≤ maxLen) := w8
  clear w0 w1 w2 w3 w5 w6 w7 w8
  unfold maxLen at w4
  go_enter Try.func3, Try.ntmps3
  go_wp2_with fail
  refine (sized a0 a1 a2 a3 a4 a5 a6 a7 a8 _ k0.out k1.out k2.out k3.out k4.out k5.out k6.out k7.out k8.out).mono ?_
  rintro e w' ⟨b, rfl, rfl⟩
  cases b
  · go_wp2_with fail
    go_ret
    exact ⟨rfl, Below.refl _ _⟩
  · go_wp2_with fail
    go_ret
    exact ⟨rfl, Below.refl _ _⟩

set_option maxHeartbeats 1000000 in
theorem walk_long5 (a0 a1 a2 a3 a4 a5 a6 a7 a8 : ByteArray) (w : World) (w0 : a0.size ≤ maxLen) (w1 : a1.size ≤ maxLen) (w2 : a2.size ≤ maxLen) (w3 : a3.size ≤ maxLen) (w4 : a4.size ≤ maxLen) (w5 : a5.size ≤ maxLen) (w6 : a6.size ≤ maxLen) (w7 : a7.size ≤ maxLen) (w8 : a8.size ≤ maxLen) (h0 : a0.size ≤ 65536) (h1 : a1.size ≤ 65536) (h2 : a2.size ≤ 65536) (h3 : a3.size ≤ 65536) (h4 : a4.size ≤ 65536) (h5 : 65536 < a5.size) :
    Calls Try.prog 3 #[.string a0, .string a1, .string a2, .string a3, .string a4, .string a5, .string a6, .string a7, .string a8] w fun e w' => e = .returned (.bool true) ∧ Below w.heap.size w w' := by
  have k0 : Hid (a0.size ≤ maxLen) := w0
  have k1 : Hid (a1.size ≤ maxLen) := w1
  have k2 : Hid (a2.size ≤ maxLen) := w2
  have k3 : Hid (a3.size ≤ maxLen) := w3
  have k4 : Hid (a4.size ≤ maxLen) := w4
  have k5 : Hid (a5.size ≤ maxLen) := w5
  have k6 : Hid (a6.size ≤ maxLen) := w6
  have k7 : Hid (a7.size ≤ maxLen) := w7
  have k8 : Hid (a8.size ≤ maxLen) := w8
  clear w0 w1 w2 w3 w4 w6 w7 w8
  unfold maxLen at w5
  go_enter Try.func3, Try.ntmps3
  go_wp2_with fail
  refine (sized a0 a1 a2 a3 a4 a5 a6 a7 a8 _ k0.out k1.out k2.out k3.out k4.out k5.out k6.out k7.out k8.out).mono ?_
  rintro e w' ⟨b, rfl, rfl⟩
  cases b
  · go_wp2_with fail
    go_ret
    exact ⟨rfl, Below.refl _ _⟩
  · go_wp2_with fail
    go_ret
    exact ⟨rfl, Below.refl _ _⟩

set_option maxHeartbeats 1000000 in
theorem walk_long6 (a0 a1 a2 a3 a4 a5 a6 a7 a8 : ByteArray) (w : World) (w0 : a0.size ≤ maxLen) (w1 : a1.size ≤ maxLen) (w2 : a2.size ≤ maxLen) (w3 : a3.size ≤ maxLen) (w4 : a4.size ≤ maxLen) (w5 : a5.size ≤ maxLen) (w6 : a6.size ≤ maxLen) (w7 : a7.size ≤ maxLen) (w8 : a8.size ≤ maxLen) (h0 : a0.size ≤ 65536) (h1 : a1.size ≤ 65536) (h2 : a2.size ≤ 65536) (h3 : a3.size ≤ 65536) (h4 : a4.size ≤ 65536) (h5 : a5.size ≤ 65536) (h6 : 65536 < a6.size) :
    Calls Try.prog 3 #[.string a0, .string a1, .string a2, .string a3, .string a4, .string a5, .string a6, .string a7, .string a8] w fun e w' => e = .returned (.bool true) ∧ Below w.heap.size w w' := by
  have k0 : Hid (a0.size ≤ maxLen) := w0
  have k1 : Hid (a1.size ≤ maxLen) := w1
  have k2 : Hid (a2.size ≤ maxLen) := w2
  have k3 : Hid (a3.size ≤ maxLen) := w3
  have k4 : Hid (a4.size ≤ maxLen) := w4
  have k5 : Hid (a5.size ≤ maxLen) := w5
  have k6 : Hid (a6.size ≤ maxLen) := w6
  have k7 : Hid (a7.size ≤ maxLen) := w7
  have k8 : Hid (a8.size ≤ maxLen) := w8
  clear w0 w1 w2 w3 w4 w5 w7 w8
  unfold maxLen at w6
  go_enter Try.func3, Try.ntmps3
  go_wp2_with fail
  refine (sized a0 a1 a2 a3 a4 a5 a6 a7 a8 _ k0.out k1.out k2.out k3.out k4.out k5.out k6.out k7.out k8.out).mono ?_
  rintro e w' ⟨b, rfl, rfl⟩
  cases b
  · go_wp2_with fail
    go_ret
    exact ⟨rfl, Below.refl _ _⟩
  · go_wp2_with fail
    go_ret
    exact ⟨rfl, Below.refl _ _⟩

set_option maxHeartbeats 1000000 in
theorem walk_long7 (a0 a1 a2 a3 a4 a5 a6 a7 a8 : ByteArray) (w : World) (w0 : a0.size ≤ maxLen) (w1 : a1.size ≤ maxLen) (w2 : a2.size ≤ maxLen) (w3 : a3.size ≤ maxLen) (w4 : a4.size ≤ maxLen) (w5 : a5.size ≤ maxLen) (w6 : a6.size ≤ maxLen) (w7 : a7.size ≤ maxLen) (w8 : a8.size ≤ maxLen) (h0 : a0.size ≤ 65536) (h1 : a1.size ≤ 65536) (h2 : a2.size ≤ 65536) (h3 : a3.size ≤ 65536) (h4 : a4.size ≤ 65536) (h5 : a5.size ≤ 65536) (h6 : a6.size ≤ 65536) (h7 : 65536 < a7.size) :
    Calls Try.prog 3 #[.string a0, .string a1, .string a2, .string a3, .string a4, .string a5, .string a6, .string a7, .string a8] w fun e w' => e = .returned (.bool true) ∧ Below w.heap.size w w' := by
  have k0 : Hid (a0.size ≤ maxLen) := w0
  have k1 : Hid (a1.size ≤ maxLen) := w1
  have k2 : Hid (a2.size ≤ maxLen) := w2
  have k3 : Hid (a3.size ≤ maxLen) := w3
  have k4 : Hid (a4.size ≤ maxLen) := w4
  have k5 : Hid (a5.size ≤ maxLen) := w5
  have k6 : Hid (a6.size ≤ maxLen) := w6
  have k7 : Hid (a7.size ≤ maxLen) := w7
  have k8 : Hid (a8.size ≤ maxLen) := w8
  clear w0 w1 w2 w3 w4 w5 w6 w8
  unfold maxLen at w7
  go_enter Try.func3, Try.ntmps3
  go_wp2_with fail
  refine (sized a0 a1 a2 a3 a4 a5 a6 a7 a8 _ k0.out k1.out k2.out k3.out k4.out k5.out k6.out k7.out k8.out).mono ?_
  rintro e w' ⟨b, rfl, rfl⟩
  cases b
  · go_wp2_with fail
    go_ret
    exact ⟨rfl, Below.refl _ _⟩
  · go_wp2_with fail
    go_ret
    exact ⟨rfl, Below.refl _ _⟩

set_option maxHeartbeats 1000000 in
theorem walk_long8 (a0 a1 a2 a3 a4 a5 a6 a7 a8 : ByteArray) (w : World) (w0 : a0.size ≤ maxLen) (w1 : a1.size ≤ maxLen) (w2 : a2.size ≤ maxLen) (w3 : a3.size ≤ maxLen) (w4 : a4.size ≤ maxLen) (w5 : a5.size ≤ maxLen) (w6 : a6.size ≤ maxLen) (w7 : a7.size ≤ maxLen) (w8 : a8.size ≤ maxLen) (h0 : a0.size ≤ 65536) (h1 : a1.size ≤ 65536) (h2 : a2.size ≤ 65536) (h3 : a3.size ≤ 65536) (h4 : a4.size ≤ 65536) (h5 : a5.size ≤ 65536) (h6 : a6.size ≤ 65536) (h7 : a7.size ≤ 65536) (h8 : 65536 < a8.size) :
    Calls Try.prog 3 #[.string a0, .string a1, .string a2, .string a3, .string a4, .string a5, .string a6, .string a7, .string a8] w fun e w' => e = .returned (.bool true) ∧ Below w.heap.size w w' := by
  have k0 : Hid (a0.size ≤ maxLen) := w0
  have k1 : Hid (a1.size ≤ maxLen) := w1
  have k2 : Hid (a2.size ≤ maxLen) := w2
  have k3 : Hid (a3.size ≤ maxLen) := w3
  have k4 : Hid (a4.size ≤ maxLen) := w4
  have k5 : Hid (a5.size ≤ maxLen) := w5
  have k6 : Hid (a6.size ≤ maxLen) := w6
  have k7 : Hid (a7.size ≤ maxLen) := w7
  have k8 : Hid (a8.size ≤ maxLen) := w8
  clear w0 w1 w2 w3 w4 w5 w6 w7
  unfold maxLen at w8
  go_enter Try.func3, Try.ntmps3
  go_wp2_with fail
  refine (sized a0 a1 a2 a3 a4 a5 a6 a7 a8 _ k0.out k1.out k2.out k3.out k4.out k5.out k6.out k7.out k8.out).mono ?_
  rintro e w' ⟨b, rfl, rfl⟩
  cases b
  · go_wp2_with fail
    go_ret
    exact ⟨rfl, Below.refl _ _⟩
  · go_wp2_with fail
    go_ret
    exact ⟨rfl, Below.refl _ _⟩

theorem walk_all (a0 a1 a2 a3 a4 a5 a6 a7 a8 : ByteArray) (w0 : a0.size ≤ maxLen) (w1 : a1.size ≤ maxLen) (w2 : a2.size ≤ maxLen) (w3 : a3.size ≤ maxLen) (w4 : a4.size ≤ maxLen) (w5 : a5.size ≤ maxLen) (w6 : a6.size ≤ maxLen) (w7 : a7.size ≤ maxLen) (w8 : a8.size ≤ maxLen) (w : World) :
    Calls Try.prog 3 #[.string a0, .string a1, .string a2, .string a3, .string a4, .string a5, .string a6, .string a7, .string a8] w fun e w' => e = .returned (.bool true) ∧ Below w.heap.size w w' := by
  by_cases g0 : 65536 < a0.size
  · exact walk_long0 a0 a1 a2 a3 a4 a5 a6 a7 a8 w w0 w1 w2 w3 w4 w5 w6 w7 w8  g0
  replace g0 : a0.size ≤ 65536 := by omega
  by_cases g1 : 65536 < a1.size
  · exact walk_long1 a0 a1 a2 a3 a4 a5 a6 a7 a8 w w0 w1 w2 w3 w4 w5 w6 w7 w8 g0 g1
  replace g1 : a1.size ≤ 65536 := by omega
  by_cases g2 : 65536 < a2.size
  · exact walk_long2 a0 a1 a2 a3 a4 a5 a6 a7 a8 w w0 w1 w2 w3 w4 w5 w6 w7 w8 g0 g1 g2
  replace g2 : a2.size ≤ 65536 := by omega
  by_cases g3 : 65536 < a3.size
  · exact walk_long3 a0 a1 a2 a3 a4 a5 a6 a7 a8 w w0 w1 w2 w3 w4 w5 w6 w7 w8 g0 g1 g2 g3
  replace g3 : a3.size ≤ 65536 := by omega
  by_cases g4 : 65536 < a4.size
  · exact walk_long4 a0 a1 a2 a3 a4 a5 a6 a7 a8 w w0 w1 w2 w3 w4 w5 w6 w7 w8 g0 g1 g2 g3 g4
  replace g4 : a4.size ≤ 65536 := by omega
  by_cases g5 : 65536 < a5.size
  · exact walk_long5 a0 a1 a2 a3 a4 a5 a6 a7 a8 w w0 w1 w2 w3 w4 w5 w6 w7 w8 g0 g1 g2 g3 g4 g5
  replace g5 : a5.size ≤ 65536 := by omega
  by_cases g6 : 65536 < a6.size
  · exact walk_long6 a0 a1 a2 a3 a4 a5 a6 a7 a8 w w0 w1 w2 w3 w4 w5 w6 w7 w8 g0 g1 g2 g3 g4 g5 g6
  replace g6 : a6.size ≤ 65536 := by omega
  by_cases g7 : 65536 < a7.size
  · exact walk_long7 a0 a1 a2 a3 a4 a5 a6 a7 a8 w w0 w1 w2 w3 w4 w5 w6 w7 w8 g0 g1 g2 g3 g4 g5 g6 g7
  replace g7 : a7.size ≤ 65536 := by omega
  by_cases g8 : 65536 < a8.size
  · exact walk_long8 a0 a1 a2 a3 a4 a5 a6 a7 a8 w w0 w1 w2 w3 w4 w5 w6 w7 w8 g0 g1 g2 g3 g4 g5 g6 g7 g8
  replace g8 : a8.size ≤ 65536 := by omega
  exact walk_short a0 a1 a2 a3 a4 a5 a6 a7 a8 w g0 g1 g2 g3 g4 g5 g6 g7 g8 _ _ _ rfl rfl rfl

end Go.Proofs.Qxb6605734a.fnLeavesTLSSplitsOverChains
