import Derived.Test.Qxb6605734aRows
import Derived.WalkKit
import Derived.ProofKit
import Derived.OpenShut
import Derived.ShutString
import Derived.Handy
import Derived.Outline
import Derived.WalkSpells
namespace Go.Proofs.Qxb6605734a.fnNamespaceOfSameExactlyWhenSameNamespace
open Go.ChangeShapes Go.WideShapes Go.ChangeAt Go.RowKit
set_option linter.unusedVariables false

def DEF : ByteArray := { data := #[100, 101, 102, 97, 117, 108, 116] }
/-- The namespace that an object is addressed in. -/
def nsOf (s : ByteArray) : ByteArray := if s.toList.isEmpty = true then DEF else s
/-- Default or none. -/
def dish (s : ByteArray) : Bool := s.toList.isEmpty || (s.toList == [100, 101, 102, 97, 117, 108, 116])

theorem list_DEF : DEF.toList = [100, 101, 102, 97, 117, 108, 116] := by rw [ByteArray.toList_eq]; rfl

/-- THE PLAIN LAW. -/
theorem same_iff (a b : ByteArray) : ((nsOf a).toList == (nsOf b).toList) = ((a.toList == b.toList) || (dish a && dish b)) := by
  unfold nsOf dish
  cases ha : a.toList.isEmpty <;> cases hb : b.toList.isEmpty
  · simp only [Bool.false_eq_true, if_false, Bool.false_or]
    rw [Bool.eq_iff_iff]
    simp only [Bool.or_eq_true, Bool.and_eq_true, beq_iff_eq]
    constructor
    · intro h; exact .inl h
    · rintro (h | ⟨h1, h2⟩)
      · exact h
      · rw [h1, h2]
  · have hb' : b.toList = [] := List.isEmpty_iff.1 hb
    have hne : (a.toList == b.toList) = false := by
      rw [hb', beq_eq_false_iff_ne]; intro h; rw [h] at ha; cases ha
    rw [hne]
    simp only [Bool.false_eq_true, if_false, if_true, Bool.false_or, Bool.true_or, Bool.and_true, list_DEF]
  · have ha' : a.toList = [] := List.isEmpty_iff.1 ha
    have hne : (a.toList == b.toList) = false := by
      rw [ha', beq_eq_false_iff_ne]; intro h; rw [← h] at hb; cases hb
    rw [hne]
    simp only [Bool.false_eq_true, if_false, if_true, Bool.false_or, Bool.true_or, Bool.true_and, list_DEF]
    rw [Bool.eq_iff_iff]
    simp only [beq_iff_eq]
    exact ⟨fun h => h.symm, fun h => h.symm⟩
  · simp

set_option maxHeartbeats 400000 in
theorem ns_any (b : Nat) (s : ByteArray) (w : World) (hc : w.cell? ⟨b, 3, none⟩ = some (.string s)) :
    Calls Try.prog 8 #[.pointer (some ⟨b, 0, none⟩)] w fun e w' => e = .returned (.string (nsOf s)) ∧ w = w' := by
  cases h : s.toList.isEmpty
  · have HN : Hid (nsOf s = s) := by show nsOf s = s; unfold nsOf; rw [if_neg (by rw [h]; decide)]
    go_enter Try.func8, Try.ntmps8
    go_wp2
    go_ret
    rw [HN.out]
    exact ⟨rfl, rfl⟩
  · have HN : Hid (nsOf s = DEF) := by show nsOf s = DEF; unfold nsOf; rw [if_pos h]
    go_enter Try.func8, Try.ntmps8
    go_wp2
    go_ret
    rw [HN.out]
    exact ⟨rfl, rfl⟩

set_option maxHeartbeats 400000 in
theorem dish_any (s : ByteArray) (w : World) :
    Calls Try.prog 9 #[.string s] w fun e w' => e = .returned (.bool (dish s)) ∧ w = w' := by
  have HD : Hid (dish s = (s.toList.isEmpty || (s.toList == [100, 101, 102, 97, 117, 108, 116]))) := rfl
  cases h : s.toList.isEmpty
  · go_enter Try.func9, Try.ntmps9
    go_wp2
    go_ret
    rw [HD.out, h]
    exact ⟨rfl, rfl⟩
  · go_enter Try.func9, Try.ntmps9
    go_wp2
    go_ret
    rw [HD.out, h]
    exact ⟨rfl, rfl⟩

set_option maxHeartbeats 1000000 in
theorem sized (a0 a1 a2 a3 a4 a5 : ByteArray) (w : World) (w0 : a0.size ≤ maxLen) (w1 : a1.size ≤ maxLen) (w2 : a2.size ≤ maxLen) (w3 : a3.size ≤ maxLen) (w4 : a4.size ≤ maxLen) (w5 : a5.size ≤ maxLen) :
    Calls Try.prog 7 #[.string a0, .string a1, .string a2, .string a3, .string a4, .string a5] w fun e w' => ∃ b : Bool, e = .returned (.bool b) ∧ w = w' := by
  unfold maxLen at w0 w1 w2 w3 w4 w5
  go_enter Try.func7, Try.ntmps7
  go_wp2
  all_goals
    go_ret
    exact ⟨_, rfl, rfl⟩

set_option maxHeartbeats 1000000 in
theorem walk_long0 (a0 a1 a2 a3 a4 a5 : ByteArray) (w : World) (w0 : a0.size ≤ maxLen) (w1 : a1.size ≤ maxLen) (w2 : a2.size ≤ maxLen) (w3 : a3.size ≤ maxLen) (w4 : a4.size ≤ maxLen) (w5 : a5.size ≤ maxLen) (h0 : 65536 < a0.size) :
    Calls Try.prog 4 #[.string a0, .string a1, .string a2, .string a3, .string a4, .string a5] w fun e w' => e = .returned (.bool true) ∧ Below w.heap.size w w' := by
  have k0 : Hid (a0.size ≤ maxLen) := w0
  have k1 : Hid (a1.size ≤ maxLen) := w1
  have k2 : Hid (a2.size ≤ maxLen) := w2
  have k3 : Hid (a3.size ≤ maxLen) := w3
  have k4 : Hid (a4.size ≤ maxLen) := w4
  have k5 : Hid (a5.size ≤ maxLen) := w5
  clear w1 w2 w3 w4 w5
  unfold maxLen at w0
  go_enter Try.func4, Try.ntmps4
  go_wp2_with fail
  refine (sized a0 a1 a2 a3 a4 a5 _ k0.out k1.out k2.out k3.out k4.out k5.out).mono ?_
  rintro e w' ⟨b, rfl, rfl⟩
  cases b
  · go_wp2_with fail
    go_ret
    exact ⟨rfl, Below.refl _ _⟩
  · go_wp2_with fail
    go_ret
    exact ⟨rfl, Below.refl _ _⟩

set_option maxHeartbeats 1000000 in
theorem walk_long1 (a0 a1 a2 a3 a4 a5 : ByteArray) (w : World) (w0 : a0.size ≤ maxLen) (w1 : a1.size ≤ maxLen) (w2 : a2.size ≤ maxLen) (w3 : a3.size ≤ maxLen) (w4 : a4.size ≤ maxLen) (w5 : a5.size ≤ maxLen) (h0 : a0.size ≤ 65536) (h1 : 65536 < a1.size) :
    Calls Try.prog 4 #[.string a0, .string a1, .string a2, .string a3, .string a4, .string a5] w fun e w' => e = .returned (.bool true) ∧ Below w.heap.size w w' := by
  have k0 : Hid (a0.size ≤ maxLen) := w0
  have k1 : Hid (a1.size ≤ maxLen) := w1
  have k2 : Hid (a2.size ≤ maxLen) := w2
  have k3 : Hid (a3.size ≤ maxLen) := w3
  have k4 : Hid (a4.size ≤ maxLen) := w4
  have k5 : Hid (a5.size ≤ maxLen) := w5
  clear w0 w2 w3 w4 w5
  unfold maxLen at w1
  go_enter Try.func4, Try.ntmps4
  go_wp2_with fail
  refine (sized a0 a1 a2 a3 a4 a5 _ k0.out k1.out k2.out k3.out k4.out k5.out).mono ?_
  rintro e w' ⟨b, rfl, rfl⟩
  cases b
  · go_wp2_with fail
    go_ret
    exact ⟨rfl, Below.refl _ _⟩
  · go_wp2_with fail
    go_ret
    exact ⟨rfl, Below.refl _ _⟩

set_option maxHeartbeats 1000000 in
theorem walk_long2 (a0 a1 a2 a3 a4 a5 : ByteArray) (w : World) (w0 : a0.size ≤ maxLen) (w1 : a1.size ≤ maxLen) (w2 : a2.size ≤ maxLen) (w3 : a3.size ≤ maxLen) (w4 : a4.size ≤ maxLen) (w5 : a5.size ≤ maxLen) (h0 : a0.size ≤ 65536) (h1 : a1.size ≤ 65536) (h2 : 65536 < a2.size) :
    Calls Try.prog 4 #[.string a0, .string a1, .string a2, .string a3, .string a4, .string a5] w fun e w' => e = .returned (.bool true) ∧ Below w.heap.size w w' := by
  have k0 : Hid (a0.size ≤ maxLen) := w0
  have k1 : Hid (a1.size ≤ maxLen) := w1
  have k2 : Hid (a2.size ≤ maxLen) := w2
  have k3 : Hid (a3.size ≤ maxLen) := w3
  have k4 : Hid (a4.size ≤ maxLen) := w4
  have k5 : Hid (a5.size ≤ maxLen) := w5
  clear w0 w1 w3 w4 w5
  unfold maxLen at w2
  go_enter Try.func4, Try.ntmps4
  go_wp2_with fail
  refine (sized a0 a1 a2 a3 a4 a5 _ k0.out k1.out k2.out k3.out k4.out k5.out).mono ?_
  rintro e w' ⟨b, rfl, rfl⟩
  cases b
  · go_wp2_with fail
    go_ret
    exact ⟨rfl, Below.refl _ _⟩
  · go_wp2_with fail
    go_ret
    exact ⟨rfl, Below.refl _ _⟩

set_option maxHeartbeats 1000000 in
theorem walk_long3 (a0 a1 a2 a3 a4 a5 : ByteArray) (w : World) (w0 : a0.size ≤ maxLen) (w1 : a1.size ≤ maxLen) (w2 : a2.size ≤ maxLen) (w3 : a3.size ≤ maxLen) (w4 : a4.size ≤ maxLen) (w5 : a5.size ≤ maxLen) (h0 : a0.size ≤ 65536) (h1 : a1.size ≤ 65536) (h2 : a2.size ≤ 65536) (h3 : 65536 < a3.size) :
    Calls Try.prog 4 #[.string a0, .string a1, .string a2, .string a3, .string a4, .string a5] w fun e w' => e = .returned (.bool true) ∧ Below w.heap.size w w' := by
  have k0 : Hid (a0.size ≤ maxLen) := w0
  have k1 : Hid (a1.size ≤ maxLen) := w1
  have k2 : Hid (a2.size ≤ maxLen) := w2
  have k3 : Hid (a3.size ≤ maxLen) := w3
  have k4 : Hid (a4.size ≤ maxLen) := w4
  have k5 : Hid (a5.size ≤ maxLen) := w5
  clear w0 w1 w2 w4 w5
  unfold maxLen at w3
  go_enter Try.func4, Try.ntmps4
  go_wp2_with fail
  refine (sized a0 a1 a2 a3 a4 a5 _ k0.out k1.out k2.out k3.out k4.out k5.out).mono ?_
  rintro e w' ⟨b, rfl, rfl⟩
  cases b
  · go_wp2_with fail
    go_ret
    exact ⟨rfl, Below.refl _ _⟩
  · go_wp2_with fail
    go_ret
    exact ⟨rfl, Below.refl _ _⟩

set_option maxHeartbeats 1000000 in
theorem walk_long4 (a0 a1 a2 a3 a4 a5 : ByteArray) (w : World) (w0 : a0.size ≤ maxLen) (w1 : a1.size ≤ maxLen) (w2 : a2.size ≤ maxLen) (w3 : a3.size ≤ maxLen) (w4 : a4.size ≤ maxLen) (w5 : a5.size ≤ maxLen) (h0 : a0.size ≤ 65536) (h1 : a1.size ≤ 65536) (h2 : a2.size ≤ 65536) (h3 : a3.size ≤ 65536) (h4 : 65536 < a4.size) :
    Calls Try.prog 4 #[.string a0, .string a1, .string a2, .string a3, .string a4, .string a5] w fun e w' => e = .returned (.bool true) ∧ Below w.heap.size w w' := by
  have k0 : Hid (a0.size ≤ maxLen) := w0
  have k1 : Hid (a1.size ≤ maxLen) := w1
  have k2 : Hid (a2.size ≤ maxLen) := w2
  have k3 : Hid (a3.size ≤ maxLen) := w3
  have k4 : Hid (a4.size ≤ maxLen) := w4
  have k5 : Hid (a5.size ≤ maxLen) := w5
  clear w0 w1 w2 w3 w5
  unfold maxLen at w4
  go_enter Try.func4, Try.ntmps4
  go_wp2_with fail
  refine (sized a0 a1 a2 a3 a4 a5 _ k0.out k1.out k2.out k3.out k4.out k5.out).mono ?_
  rintro e w' ⟨b, rfl, rfl⟩
  cases b
  · go_wp2_with fail
    go_ret
    exact ⟨rfl, Below.refl _ _⟩
  · go_wp2_with fail
    go_ret
    exact ⟨rfl, Below.refl _ _⟩

set_option maxHeartbeats 1000000 in
theorem walk_long5 (a0 a1 a2 a3 a4 a5 : ByteArray) (w : World) (w0 : a0.size ≤ maxLen) (w1 : a1.size ≤ maxLen) (w2 : a2.size ≤ maxLen) (w3 : a3.size ≤ maxLen) (w4 : a4.size ≤ maxLen) (w5 : a5.size ≤ maxLen) (h0 : a0.size ≤ 65536) (h1 : a1.size ≤ 65536) (h2 : a2.size ≤ 65536) (h3 : a3.size ≤ 65536) (h4 : a4.size ≤ 65536) (h5 : 65536 < a5.size) :
    Calls Try.prog 4 #[.string a0, .string a1, .string a2, .string a3, .string a4, .string a5] w fun e w' => e = .returned (.bool true) ∧ Below w.heap.size w w' := by
  have k0 : Hid (a0.size ≤ maxLen) := w0
  have k1 : Hid (a1.size ≤ maxLen) := w1
  have k2 : Hid (a2.size ≤ maxLen) := w2
  have k3 : Hid (a3.size ≤ maxLen) := w3
  have k4 : Hid (a4.size ≤ maxLen) := w4
  have k5 : Hid (a5.size ≤ maxLen) := w5
  clear w0 w1 w2 w3 w4
  unfold maxLen at w5
  go_enter Try.func4, Try.ntmps4
  go_wp2_with fail
  refine (sized a0 a1 a2 a3 a4 a5 _ k0.out k1.out k2.out k3.out k4.out k5.out).mono ?_
  rintro e w' ⟨b, rfl, rfl⟩
  cases b
  · go_wp2_with fail
    go_ret
    exact ⟨rfl, Below.refl _ _⟩
  · go_wp2_with fail
    go_ret
    exact ⟨rfl, Below.refl _ _⟩

theorem dish_is (s : ByteArray) (w : World) (d : Bool) (h : dish s = d) :
    Calls Try.prog 9 #[.string s] w fun e w' => e = .returned (.bool d) ∧ w = w' := by
  subst h
  exact dish_any s w

theorem two_new (w : World) (c d : Array Value) (s t : TypeId) : Below w.heap.size w ((w.alloc (.cells c s)).alloc (.cells d t)) := ((Below.refl _ _).alloc (Nat.le_refl _) _).alloc (by simp) _

set_option maxHeartbeats 1000000 in
theorem walk_short (a0 a1 a2 a3 a4 a5 : ByteArray) (w : World) (w0 : a0.size ≤ 65536) (w1 : a1.size ≤ 65536) (w2 : a2.size ≤ 65536) (w3 : a3.size ≤ 65536) (w4 : a4.size ≤ 65536) (w5 : a5.size ≤ 65536) :
    Calls Try.prog 4 #[.string a0, .string a1, .string a2, .string a3, .string a4, .string a5] w fun e w' => e = .returned (.bool true) ∧ Below w.heap.size w w' := by
  go_enter Try.func4, Try.ntmps4
  go_wp2_with fail
  refine (sized a0 a1 a2 a3 a4 a5 _ (by unfold maxLen; omega) (by unfold maxLen; omega) (by unfold maxLen; omega) (by unfold maxLen; omega) (by unfold maxLen; omega) (by unfold maxLen; omega)).mono ?_
  rintro e w' ⟨b, rfl, rfl⟩
  cases b
  · go_wp2_with fail
    go_ret
    exact ⟨rfl, Below.refl _ _⟩
  go_wp2_with fail
  refine (ns_any w.heap.size a2 _ (by simp)).mono ?_
  rintro e w' ⟨rfl, rfl⟩
  go_wp2_with fail
  refine (ns_any (w.heap.size + 1) a5 _ (by simp)).mono ?_
  rintro e w' ⟨rfl, rfl⟩
  have HS := same_iff a2 a5
  cases hq : (a2.toList == a5.toList)
  · cases h1 : dish a2
    · have hr : ((nsOf a2).toList == (nsOf a5).toList) = false := by rw [HS, hq, h1]; rfl
      have H1 : Hid (dish a2 = false) := h1
      clear HS h1
      go_wp2_with fail
      refine (dish_is a2 _ false H1.out).mono ?_
      rintro e w' ⟨rfl, rfl⟩
      go_wp2
      go_ret
      exact ⟨rfl, two_new _ _ _ _ _⟩
    · cases h2 : dish a5
      · have hr : ((nsOf a2).toList == (nsOf a5).toList) = false := by rw [HS, hq, h1, h2]; rfl
        have H1 : Hid (dish a2 = true) := h1
        have H2 : Hid (dish a5 = false) := h2
        clear HS h1 h2
        go_wp2_with fail
        refine (dish_is a2 _ true H1.out).mono ?_
        rintro e w' ⟨rfl, rfl⟩
        go_wp2_with fail
        refine (dish_is a5 _ false H2.out).mono ?_
        rintro e w' ⟨rfl, rfl⟩
        go_wp2
        go_ret
        exact ⟨rfl, two_new _ _ _ _ _⟩
      · have hr : ((nsOf a2).toList == (nsOf a5).toList) = true := by rw [HS, hq, h1, h2]; rfl
        have H1 : Hid (dish a2 = true) := h1
        have H2 : Hid (dish a5 = true) := h2
        clear HS h1 h2
        go_wp2_with fail
        refine (dish_is a2 _ true H1.out).mono ?_
        rintro e w' ⟨rfl, rfl⟩
        go_wp2_with fail
        refine (dish_is a5 _ true H2.out).mono ?_
        rintro e w' ⟨rfl, rfl⟩
        go_wp2
        go_ret
        exact ⟨rfl, two_new _ _ _ _ _⟩
  · have hr : ((nsOf a2).toList == (nsOf a5).toList) = true := by rw [HS, hq]; rfl
    clear HS
    go_wp2
    go_ret
    exact ⟨rfl, two_new _ _ _ _ _⟩

theorem walk_all (a0 a1 a2 a3 a4 a5 : ByteArray) (w0 : a0.size ≤ maxLen) (w1 : a1.size ≤ maxLen) (w2 : a2.size ≤ maxLen) (w3 : a3.size ≤ maxLen) (w4 : a4.size ≤ maxLen) (w5 : a5.size ≤ maxLen) (w : World) :
    Calls Try.prog 4 #[.string a0, .string a1, .string a2, .string a3, .string a4, .string a5] w fun e w' => e = .returned (.bool true) ∧ Below w.heap.size w w' := by
  by_cases g0 : 65536 < a0.size
  · exact walk_long0 a0 a1 a2 a3 a4 a5 w w0 w1 w2 w3 w4 w5  g0
  replace g0 : a0.size ≤ 65536 := by omega
  by_cases g1 : 65536 < a1.size
  · exact walk_long1 a0 a1 a2 a3 a4 a5 w w0 w1 w2 w3 w4 w5 g0 g1
  replace g1 : a1.size ≤ 65536 := by omega
  by_cases g2 : 65536 < a2.size
  · exact walk_long2 a0 a1 a2 a3 a4 a5 w w0 w1 w2 w3 w4 w5 g0 g1 g2
  replace g2 : a2.size ≤ 65536 := by omega
  by_cases g3 : 65536 < a3.size
  · exact walk_long3 a0 a1 a2 a3 a4 a5 w w0 w1 w2 w3 w4 w5 g0 g1 g2 g3
  replace g3 : a3.size ≤ 65536 := by omega
  by_cases g4 : 65536 < a4.size
  · exact walk_long4 a0 a1 a2 a3 a4 a5 w w0 w1 w2 w3 w4 w5 g0 g1 g2 g3 g4
  replace g4 : a4.size ≤ 65536 := by omega
  by_cases g5 : 65536 < a5.size
  · exact walk_long5 a0 a1 a2 a3 a4 a5 w w0 w1 w2 w3 w4 w5 g0 g1 g2 g3 g4 g5
  replace g5 : a5.size ≤ 65536 := by omega
  exact walk_short a0 a1 a2 a3 a4 a5 w g0 g1 g2 g3 g4 g5

end Go.Proofs.Qxb6605734a.fnNamespaceOfSameExactlyWhenSameNamespace
