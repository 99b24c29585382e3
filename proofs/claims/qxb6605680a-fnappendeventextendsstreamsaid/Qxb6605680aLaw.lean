import Derived.Test.Qxb6605680aMain
namespace Go.Proofs.Qxb6605680a.fnAppendEventExtendsStream
open Go.ChangeShapes Go.WideShapes Go.ChangeAt Go.RowKit Go.Lib
set_option linter.unusedVariables false

set_option maxHeartbeats 2000000 in
theorem walk_sf (x : Addr) (len0 cap0 : Nat) (z0 : List Int) (a1 : ByteArray) (a2 : Option Addr) (len2 cap2 : Nat) (z2 : List Int) (w : World) (w0 : IsRow .u8 w (some x) len0 cap0 z0) (w2 : IsRow .u8 w a2 len2 cap2 z2)
    (hsum : len0 + a1.size + len2 ≤ 1048576) (he : a1.toList.isEmpty = false) :
    Calls Try.prog 5 #[.slice (some x) len0 cap0, .string a1, .slice a2 len2 cap2] w fun e w' => e = .returned (.bool true) ∧ Below w.heap.size w w' := by
  have H0 : Hid (IsRow .u8 w (some x) len0 cap0 z0) := w0
  clear w0
  have b0 : len0 ≤ 1048576 := by omega
  have H2 : Hid (IsRow .u8 w a2 len2 cap2 z2) := w2
  clear w2
  have b1 : a1.size ≤ 1048576 := by omega
  have b2 : len2 ≤ 1048576 := by omega
  go_enter Try.func5, Try.ntmps5
  go_wp2_with fail
  refine (sized _ _ _ _ _ _ _ _ (by unfold maxLen; omega) (by unfold maxLen; omega) (by unfold maxLen; omega)).mono ?_
  rintro e w' ⟨b, rfl, rfl⟩
  cases b
  · go_wp2_with fail
    go_ret
    exact ⟨rfl, Below.refl _ _⟩
  go_wp2_with fail
  refine (clone_row x len0 cap0 z0 _ H0.out b0).mono ?_
  rintro e W1 ⟨rfl, hs1, hb1⟩
  have H21 : Hid (IsRow .u8 W1 a2 len2 cap2 z2) := isRow_keep H2.out hb1
  have HS1 : Hid (W1.ownsRow w.heap.size 5 1 (.slice (some ⟨w.heap.size, 0, none⟩) len0 len0) len0 (cellsOf z0 len0)) := hs1
  have HB1 : Hid (Below w.heap.size w W1) := hb1
  have z1 := hb1.size
  clear hs1 hb1 H2 H0
  go_wp2_with fail
  refine (clone_any a2 len2 cap2 z2 _ H21.out b2).mono ?_
  rintro e W2 ⟨da, rfl, hd2, hb2⟩
  have HS2 : Hid (W2.ownsRow w.heap.size 5 1 (.slice (some ⟨w.heap.size, 0, none⟩) len0 len0) len0 (cellsOf z0 len0)) := owns_keep HS1.out hb2
  have HB2 : Hid (Below w.heap.size w W2) := HB1.out.trans (hb2.mono z1)
  have HD2 : Hid (W2.ownsRow W1.heap.size 5 1 (.slice da len2 len2) len2 (cellsOf z2 len2)) := hd2
  have z2' := HB2.out.size
  clear HS1 HB1 z1 hb2 hd2 H21
  have hyl : (cellsOf z2 len2).length = len2 := by have := HD2.out.1; simpa using this
  have hxl : (cellsOf z0 len0).length = len0 := by have := HS2.out.1; simpa using this
  have AX : Hid (AllInts (cellsOf z0 len0)) := ints_cellsOf _ _
  have AY : Hid (AllInts (cellsOf z2 len2)) := ints_cellsOf _ _
  generalize cellsOf z0 len0 = xs at *
  generalize cellsOf z2 len2 = ys at *
  go_wp2_with fail
  refine (event_any w.heap.size W1.heap.size _ len0 xs a1 da len2 ys W2 b0 b2 b1 (full_of HS2.out) HS2.out HD2.out (ints_one AY.out)).mono ?_
  rintro e W3 ⟨ov, rfl, ho3, hb3⟩
  have HL : Hid ((evl a1 ys).length = len2 + a1.size + 16) := by rw [← hyl]; exact len_full he ys
  obtain ⟨D, hD⟩ := evl_ends a1 ys
  have HE : Hid (evl a1 ys = D ++ [.int .u8 10, .int .u8 10]) := hD
  have AE : Hid (AllInts (evl a1 ys)) := ints_evl a1 AY.out
  rw [HL.out] at ho3
  obtain ⟨g, cp, hov⟩ := owns_slice ho3 (by omega)
  rw [hov] at ho3
  rw [hov]
  have HS3 : Hid (W3.ownsRow w.heap.size 5 1 (.slice (some ⟨w.heap.size, 0, none⟩) len0 len0) len0 xs) := owns_keep HS2.out hb3
  have HD3 : Hid (W3.ownsRow W1.heap.size 5 1 (.slice da len2 len2) len2 ys) := owns_keep HD2.out hb3
  have HO3 : Hid (W3.ownsRow W2.heap.size 5 1 (.slice (some ⟨g, 0, none⟩) (len0 + (len2 + a1.size + 16)) cp) (len0 + (len2 + a1.size + 16)) (xs ++ evl a1 ys)) := ho3
  have HB3 : Hid (Below w.heap.size w W3) := HB2.out.trans (hb3.mono z2')
  have HP : Hid (∀ k, k < len0 → ∃ z, W3.cell? ⟨g, k, none⟩ = some (.int .u8 z) ∧ W3.cell? ⟨w.heap.size, k, none⟩ = some (.int .u8 z)) :=
    fun k hk => both_at ho3 HS3.out k k (by omega) hk (by rw [List.getElem?_append_left (by omega)]) AX.out
  clear hov ho3 hb3 hD HS2 HD2 HB2 z2'
  have t1 : ((len0 : Int) + ((len2 : Int) + (a1.size : Int) + 16) != (len0 : Int) + 8 + (len2 : Int) + (8 + (a1.size : Int))) = false := by
    rw [bne_eq_false_iff_eq]; omega
  go_wp2_with fail
  go_loopw [9] (fun i wr => ∃ (k q : Nat), k ≤ len0 ∧ i = .int .i64 k ∧ wr = W3.drewN q) (fun i _ => len0 - (intOf i).toNat)
  case atStart => exact ⟨0, 0, Nat.zero_le _, rfl, rfl⟩
  case round =>
    obtain ⟨k, q, hk, rfl, rfl⟩ := hrel
    by_cases hlt : k < len0
    · obtain ⟨z, hp1, hp2⟩ := HP.out k hlt
      go_wp2_with fail
      go_quiet (fail)
      go_wp2
      go_roundw
      case rel => exact ⟨k + 1, _, by omega, by go_num, rfl⟩
      case measure => simp [intOf]; omega
    · clear HP t1
      go_wp2_with fail
      obtain ⟨V, hV⟩ : ∃ V, V = W3.drewN q := ⟨_, rfl⟩
      rw [← hV]
      have HSV : Hid (V.ownsRow w.heap.size 5 1 (.slice (some ⟨w.heap.size, 0, none⟩) len0 len0) len0 xs) := by rw [hV]; exact HS3.out
      have HDV : Hid (V.ownsRow W1.heap.size 5 1 (.slice da len2 len2) len2 ys) := by rw [hV]; exact HD3.out
      have HOV : Hid (V.ownsRow W2.heap.size 5 1 (.slice (some ⟨g, 0, none⟩) (len0 + (len2 + a1.size + 16)) cp) (len0 + (len2 + a1.size + 16)) (xs ++ evl a1 ys)) := by rw [hV]; exact HO3.out
      have HBV : Hid (Below w.heap.size w V) := by rw [hV]; exact below_drewN' HB3.out q
      clear hV HS3 HD3 HO3 HB3
      refine (event_any 0 W1.heap.size _ 0 [] a1 da len2 ys V (by omega) b2 b1 (.inl ⟨rfl, rfl⟩) (World.ownsRow_nil _ _ _ _) HDV.out (ints_one AY.out)).mono ?_
      rintro e W4 ⟨av, rfl, ha4, hb4⟩
      rw [HL.out, Nat.zero_add, List.nil_append] at ha4
      obtain ⟨ga, ca, hav⟩ := owns_slice ha4 (by omega)
      rw [hav] at ha4
      rw [hav]
      have HO4 := owns_keep HOV.out hb4
      have hwV := HBV.out.size
      have HB4 : Hid (Below w.heap.size w W4) := HBV.out.trans (hb4.mono hwV)
      have HP2 : Hid (∀ k, k < len2 + a1.size + 16 → ∃ z, W4.cell? ⟨g, len0 + k, none⟩ = some (.int .u8 z) ∧ W4.cell? ⟨ga, k, none⟩ = some (.int .u8 z)) :=
        fun k hk => both_at HO4 ha4 (len0 + k) k (by omega) hk (by rw [List.getElem?_append_right (by omega), show len0 + k - xs.length = k by omega]) AE.out
      have HZ : Hid (∀ j, len0 + (len2 + a1.size + 16) = j + 1 ∨ len0 + (len2 + a1.size + 16) = j + 2 → W4.cell? ⟨g, j, none⟩ = some (.int .u8 10)) :=
        ends_at (D := xs ++ D) HO4 (by rw [HE.out, List.append_assoc])
      clear hav ha4 hb4 HO4 HOV HDV HSV HBV hwV HE HL AE AY hyl AX hxl
      have t2 : ((len2 : Int) + (a1.size : Int) + 16 + (len0 : Int) != (len0 : Int) + ((len2 : Int) + (a1.size : Int) + 16)) = false := by
        rw [bne_eq_false_iff_eq]; omega
      go_wp2_with fail
      go_loopw [11] (fun i wr => ∃ (k q : Nat), k ≤ len2 + a1.size + 16 ∧ i = .int .i64 k ∧ wr = W4.drewN q) (fun i _ => len2 + a1.size + 16 - (intOf i).toNat)
      case atStart => exact ⟨0, 0, Nat.zero_le _, rfl, rfl⟩
      case round =>
        obtain ⟨k2, q2, hk2, rfl, rfl⟩ := hrel
        by_cases hlt2 : k2 < len2 + a1.size + 16
        · obtain ⟨z, hp1, hp2⟩ := HP2.out k2 hlt2
          go_wp2_with fail
          go_quiet (fail)
          go_wp2
          go_roundw
          case rel => exact ⟨k2 + 1, _, by omega, by go_num, rfl⟩
          case measure => simp [intOf]; omega
        · have e1 : W4.cell? ⟨g, len0 + 8 + len2 + (8 + a1.size) - 1, none⟩ = some (.int .u8 10) := HZ.out _ (by omega)
          have e2 : W4.cell? ⟨g, len0 + 8 + len2 + (8 + a1.size) - 2, none⟩ = some (.int .u8 10) := HZ.out _ (by omega)
          go_wp2
          go_ret
          exact ⟨rfl, below_drewN' HB4.out q2⟩

set_option maxHeartbeats 2000000 in
theorem walk_se (x : Addr) (len0 cap0 : Nat) (z0 : List Int) (a1 : ByteArray) (a2 : Option Addr) (len2 cap2 : Nat) (z2 : List Int) (w : World) (w0 : IsRow .u8 w (some x) len0 cap0 z0) (w2 : IsRow .u8 w a2 len2 cap2 z2)
    (hsum : len0 + a1.size + len2 ≤ 1048576) (he : a1.toList.isEmpty = true) :
    Calls Try.prog 5 #[.slice (some x) len0 cap0, .string a1, .slice a2 len2 cap2] w fun e w' => e = .returned (.bool true) ∧ Below w.heap.size w w' := by
  have H0 : Hid (IsRow .u8 w (some x) len0 cap0 z0) := w0
  clear w0
  have b0 : len0 ≤ 1048576 := by omega
  have H2 : Hid (IsRow .u8 w a2 len2 cap2 z2) := w2
  clear w2
  have b1 : a1.size ≤ 1048576 := by omega
  have b2 : len2 ≤ 1048576 := by omega
  go_enter Try.func5, Try.ntmps5
  go_wp2_with fail
  refine (sized _ _ _ _ _ _ _ _ (by unfold maxLen; omega) (by unfold maxLen; omega) (by unfold maxLen; omega)).mono ?_
  rintro e w' ⟨b, rfl, rfl⟩
  cases b
  · go_wp2_with fail
    go_ret
    exact ⟨rfl, Below.refl _ _⟩
  go_wp2_with fail
  refine (clone_row x len0 cap0 z0 _ H0.out b0).mono ?_
  rintro e W1 ⟨rfl, hs1, hb1⟩
  have H21 : Hid (IsRow .u8 W1 a2 len2 cap2 z2) := isRow_keep H2.out hb1
  have HS1 : Hid (W1.ownsRow w.heap.size 5 1 (.slice (some ⟨w.heap.size, 0, none⟩) len0 len0) len0 (cellsOf z0 len0)) := hs1
  have HB1 : Hid (Below w.heap.size w W1) := hb1
  have z1 := hb1.size
  clear hs1 hb1 H2 H0
  go_wp2_with fail
  refine (clone_any a2 len2 cap2 z2 _ H21.out b2).mono ?_
  rintro e W2 ⟨da, rfl, hd2, hb2⟩
  have HS2 : Hid (W2.ownsRow w.heap.size 5 1 (.slice (some ⟨w.heap.size, 0, none⟩) len0 len0) len0 (cellsOf z0 len0)) := owns_keep HS1.out hb2
  have HB2 : Hid (Below w.heap.size w W2) := HB1.out.trans (hb2.mono z1)
  have HD2 : Hid (W2.ownsRow W1.heap.size 5 1 (.slice da len2 len2) len2 (cellsOf z2 len2)) := hd2
  have z2' := HB2.out.size
  clear HS1 HB1 z1 hb2 hd2 H21
  have hyl : (cellsOf z2 len2).length = len2 := by have := HD2.out.1; simpa using this
  have hxl : (cellsOf z0 len0).length = len0 := by have := HS2.out.1; simpa using this
  have AX : Hid (AllInts (cellsOf z0 len0)) := ints_cellsOf _ _
  have AY : Hid (AllInts (cellsOf z2 len2)) := ints_cellsOf _ _
  generalize cellsOf z0 len0 = xs at *
  generalize cellsOf z2 len2 = ys at *
  go_wp2_with fail
  refine (event_any w.heap.size W1.heap.size _ len0 xs a1 da len2 ys W2 b0 b2 b1 (full_of HS2.out) HS2.out HD2.out (ints_one AY.out)).mono ?_
  rintro e W3 ⟨ov, rfl, ho3, hb3⟩
  have HL : Hid ((evl a1 ys).length = len2 + 8) := by rw [← hyl]; exact len_empty he ys
  obtain ⟨D, hD⟩ := evl_ends a1 ys
  have HE : Hid (evl a1 ys = D ++ [.int .u8 10, .int .u8 10]) := hD
  have AE : Hid (AllInts (evl a1 ys)) := ints_evl a1 AY.out
  rw [HL.out] at ho3
  obtain ⟨g, cp, hov⟩ := owns_slice ho3 (by omega)
  rw [hov] at ho3
  rw [hov]
  have HS3 : Hid (W3.ownsRow w.heap.size 5 1 (.slice (some ⟨w.heap.size, 0, none⟩) len0 len0) len0 xs) := owns_keep HS2.out hb3
  have HD3 : Hid (W3.ownsRow W1.heap.size 5 1 (.slice da len2 len2) len2 ys) := owns_keep HD2.out hb3
  have HO3 : Hid (W3.ownsRow W2.heap.size 5 1 (.slice (some ⟨g, 0, none⟩) (len0 + (len2 + 8)) cp) (len0 + (len2 + 8)) (xs ++ evl a1 ys)) := ho3
  have HB3 : Hid (Below w.heap.size w W3) := HB2.out.trans (hb3.mono z2')
  have HP : Hid (∀ k, k < len0 → ∃ z, W3.cell? ⟨g, k, none⟩ = some (.int .u8 z) ∧ W3.cell? ⟨w.heap.size, k, none⟩ = some (.int .u8 z)) :=
    fun k hk => both_at ho3 HS3.out k k (by omega) hk (by rw [List.getElem?_append_left (by omega)]) AX.out
  clear hov ho3 hb3 hD HS2 HD2 HB2 z2'
  have t1 : ((len0 : Int) + ((len2 : Int) + 8) != (len0 : Int) + 8 + (len2 : Int)) = false := by
    rw [bne_eq_false_iff_eq]; omega
  go_wp2_with fail
  go_loopw [9] (fun i wr => ∃ (k q : Nat), k ≤ len0 ∧ i = .int .i64 k ∧ wr = W3.drewN q) (fun i _ => len0 - (intOf i).toNat)
  case atStart => exact ⟨0, 0, Nat.zero_le _, rfl, rfl⟩
  case round =>
    obtain ⟨k, q, hk, rfl, rfl⟩ := hrel
    by_cases hlt : k < len0
    · obtain ⟨z, hp1, hp2⟩ := HP.out k hlt
      go_wp2_with fail
      go_quiet (fail)
      go_wp2
      go_roundw
      case rel => exact ⟨k + 1, _, by omega, by go_num, rfl⟩
      case measure => simp [intOf]; omega
    · clear HP t1
      go_wp2_with fail
      obtain ⟨V, hV⟩ : ∃ V, V = W3.drewN q := ⟨_, rfl⟩
      rw [← hV]
      have HSV : Hid (V.ownsRow w.heap.size 5 1 (.slice (some ⟨w.heap.size, 0, none⟩) len0 len0) len0 xs) := by rw [hV]; exact HS3.out
      have HDV : Hid (V.ownsRow W1.heap.size 5 1 (.slice da len2 len2) len2 ys) := by rw [hV]; exact HD3.out
      have HOV : Hid (V.ownsRow W2.heap.size 5 1 (.slice (some ⟨g, 0, none⟩) (len0 + (len2 + 8)) cp) (len0 + (len2 + 8)) (xs ++ evl a1 ys)) := by rw [hV]; exact HO3.out
      have HBV : Hid (Below w.heap.size w V) := by rw [hV]; exact below_drewN' HB3.out q
      clear hV HS3 HD3 HO3 HB3
      refine (event_any 0 W1.heap.size _ 0 [] a1 da len2 ys V (by omega) b2 b1 (.inl ⟨rfl, rfl⟩) (World.ownsRow_nil _ _ _ _) HDV.out (ints_one AY.out)).mono ?_
      rintro e W4 ⟨av, rfl, ha4, hb4⟩
      rw [HL.out, Nat.zero_add, List.nil_append] at ha4
      obtain ⟨ga, ca, hav⟩ := owns_slice ha4 (by omega)
      rw [hav] at ha4
      rw [hav]
      have HO4 := owns_keep HOV.out hb4
      have hwV := HBV.out.size
      have HB4 : Hid (Below w.heap.size w W4) := HBV.out.trans (hb4.mono hwV)
      have HP2 : Hid (∀ k, k < len2 + 8 → ∃ z, W4.cell? ⟨g, len0 + k, none⟩ = some (.int .u8 z) ∧ W4.cell? ⟨ga, k, none⟩ = some (.int .u8 z)) :=
        fun k hk => both_at HO4 ha4 (len0 + k) k (by omega) hk (by rw [List.getElem?_append_right (by omega), show len0 + k - xs.length = k by omega]) AE.out
      have HZ : Hid (∀ j, len0 + (len2 + 8) = j + 1 ∨ len0 + (len2 + 8) = j + 2 → W4.cell? ⟨g, j, none⟩ = some (.int .u8 10)) :=
        ends_at (D := xs ++ D) HO4 (by rw [HE.out, List.append_assoc])
      clear hav ha4 hb4 HO4 HOV HDV HSV HBV hwV HE HL AE AY hyl AX hxl
      have t2 : ((len2 : Int) + 8 + (len0 : Int) != (len0 : Int) + ((len2 : Int) + 8)) = false := by
        rw [bne_eq_false_iff_eq]; omega
      go_wp2_with fail
      go_loopw [11] (fun i wr => ∃ (k q : Nat), k ≤ len2 + 8 ∧ i = .int .i64 k ∧ wr = W4.drewN q) (fun i _ => len2 + 8 - (intOf i).toNat)
      case atStart => exact ⟨0, 0, Nat.zero_le _, rfl, rfl⟩
      case round =>
        obtain ⟨k2, q2, hk2, rfl, rfl⟩ := hrel
        by_cases hlt2 : k2 < len2 + 8
        · obtain ⟨z, hp1, hp2⟩ := HP2.out k2 hlt2
          go_wp2_with fail
          go_quiet (fail)
          go_wp2
          go_roundw
          case rel => exact ⟨k2 + 1, _, by omega, by go_num, rfl⟩
          case measure => simp [intOf]; omega
        · have e1 : W4.cell? ⟨g, len0 + 7 + len2, none⟩ = some (.int .u8 10) := HZ.out _ (by omega)
          have e2 : W4.cell? ⟨g, len0 + 8 + len2 - 2, none⟩ = some (.int .u8 10) := HZ.out _ (by omega)
          go_wp2
          go_ret
          exact ⟨rfl, below_drewN' HB4.out q2⟩

set_option maxHeartbeats 2000000 in
theorem walk_nf (a1 : ByteArray) (a2 : Option Addr) (len2 cap2 : Nat) (z2 : List Int) (w : World) (w2 : IsRow .u8 w a2 len2 cap2 z2)
    (hsum : a1.size + len2 ≤ 1048576) (he : a1.toList.isEmpty = false) :
    Calls Try.prog 5 #[.slice none 0 0, .string a1, .slice a2 len2 cap2] w fun e w' => e = .returned (.bool true) ∧ Below w.heap.size w w' := by
  have H2 : Hid (IsRow .u8 w a2 len2 cap2 z2) := w2
  clear w2
  have b1 : a1.size ≤ 1048576 := by omega
  have b2 : len2 ≤ 1048576 := by omega
  go_enter Try.func5, Try.ntmps5
  go_wp2_with fail
  refine (sized _ _ _ _ _ _ _ _ (by unfold maxLen; omega) (by unfold maxLen; omega) (by unfold maxLen; omega)).mono ?_
  rintro e w' ⟨b, rfl, rfl⟩
  cases b
  · go_wp2_with fail
    go_ret
    exact ⟨rfl, Below.refl _ _⟩
  go_wp2_with fail
  refine (clone_nil _).mono ?_
  rintro e w' ⟨rfl, rfl⟩
  go_wp2_with fail
  refine (clone_any a2 len2 cap2 z2 _ H2.out b2).mono ?_
  rintro e W2 ⟨da, rfl, hd2, hb2⟩
  have HB2 : Hid (Below w.heap.size w W2) := hb2
  have HD2 : Hid (W2.ownsRow w.heap.size 5 1 (.slice da len2 len2) len2 (cellsOf z2 len2)) := hd2
  have z2' := HB2.out.size
  clear hb2 hd2 H2
  have hyl : (cellsOf z2 len2).length = len2 := by have := HD2.out.1; simpa using this
  have AY : Hid (AllInts (cellsOf z2 len2)) := ints_cellsOf _ _
  generalize cellsOf z2 len2 = ys at *
  go_wp2_with fail
  refine (event_any 0 w.heap.size _ 0 [] a1 da len2 ys W2 (by omega) b2 b1 (.inl ⟨rfl, rfl⟩) (World.ownsRow_nil _ _ _ _) HD2.out (ints_one AY.out)).mono ?_
  rintro e W3 ⟨ov, rfl, ho3, hb3⟩
  have HL : Hid ((evl a1 ys).length = len2 + a1.size + 16) := by rw [← hyl]; exact len_full he ys
  obtain ⟨D, hD⟩ := evl_ends a1 ys
  have HE : Hid (evl a1 ys = D ++ [.int .u8 10, .int .u8 10]) := hD
  have AE : Hid (AllInts (evl a1 ys)) := ints_evl a1 AY.out
  rw [HL.out, Nat.zero_add, List.nil_append] at ho3
  obtain ⟨g, cp, hov⟩ := owns_slice ho3 (by omega)
  rw [hov] at ho3
  rw [hov]
  have HD3 : Hid (W3.ownsRow w.heap.size 5 1 (.slice da len2 len2) len2 ys) := owns_keep HD2.out hb3
  have HO3 : Hid (W3.ownsRow W2.heap.size 5 1 (.slice (some ⟨g, 0, none⟩) (len2 + a1.size + 16) cp) (len2 + a1.size + 16) (evl a1 ys)) := ho3
  have HB3 : Hid (Below w.heap.size w W3) := HB2.out.trans (hb3.mono z2')
  clear hov ho3 hb3 hD HD2 HB2 z2'
  have t1 : ((len2 : Int) + (a1.size : Int) + 16 != 8 + (len2 : Int) + (8 + (a1.size : Int))) = false := by
    rw [bne_eq_false_iff_eq]; omega
  go_wp2_with fail
  go_loopw [9] (fun i wr => ∃ (k q : Nat), k ≤ 0 ∧ i = .int .i64 k ∧ wr = W3.drewN q) (fun i _ => 0 - (intOf i).toNat)
  case atStart => exact ⟨0, 0, Nat.zero_le _, rfl, rfl⟩
  case round =>
    obtain ⟨k, q, hk, rfl, rfl⟩ := hrel
    by_cases hlt : k < 0
    · exact absurd hlt (by omega)
    · clear t1
      go_wp2_with fail
      obtain ⟨V, hV⟩ : ∃ V, V = W3.drewN q := ⟨_, rfl⟩
      rw [← hV]
      have HDV : Hid (V.ownsRow w.heap.size 5 1 (.slice da len2 len2) len2 ys) := by rw [hV]; exact HD3.out
      have HOV : Hid (V.ownsRow W2.heap.size 5 1 (.slice (some ⟨g, 0, none⟩) (len2 + a1.size + 16) cp) (len2 + a1.size + 16) (evl a1 ys)) := by rw [hV]; exact HO3.out
      have HBV : Hid (Below w.heap.size w V) := by rw [hV]; exact below_drewN' HB3.out q
      clear hV HD3 HO3 HB3
      refine (event_any 0 w.heap.size _ 0 [] a1 da len2 ys V (by omega) b2 b1 (.inl ⟨rfl, rfl⟩) (World.ownsRow_nil _ _ _ _) HDV.out (ints_one AY.out)).mono ?_
      rintro e W4 ⟨av, rfl, ha4, hb4⟩
      rw [HL.out, Nat.zero_add, List.nil_append] at ha4
      obtain ⟨ga, ca, hav⟩ := owns_slice ha4 (by omega)
      rw [hav] at ha4
      rw [hav]
      have HO4 := owns_keep HOV.out hb4
      have hwV := HBV.out.size
      have HB4 : Hid (Below w.heap.size w W4) := HBV.out.trans (hb4.mono hwV)
      have HP2 : Hid (∀ k, k < len2 + a1.size + 16 → ∃ z, W4.cell? ⟨g, k, none⟩ = some (.int .u8 z) ∧ W4.cell? ⟨ga, k, none⟩ = some (.int .u8 z)) :=
        fun k hk => both_at HO4 ha4 k k hk hk rfl AE.out
      have HZ : Hid (∀ j, len2 + a1.size + 16 = j + 1 ∨ len2 + a1.size + 16 = j + 2 → W4.cell? ⟨g, j, none⟩ = some (.int .u8 10)) :=
        ends_at (D := D) HO4 HE.out
      clear hav ha4 hb4 HO4 HOV HDV HBV hwV HE HL AE AY hyl
      go_wp2_with fail
      go_loopw [11] (fun i wr => ∃ (k q : Nat), k ≤ len2 + a1.size + 16 ∧ i = .int .i64 k ∧ wr = W4.drewN q) (fun i _ => len2 + a1.size + 16 - (intOf i).toNat)
      case atStart => exact ⟨0, 0, Nat.zero_le _, rfl, rfl⟩
      case round =>
        obtain ⟨k2, q2, hk2, rfl, rfl⟩ := hrel
        by_cases hlt2 : k2 < len2 + a1.size + 16
        · obtain ⟨z, hp1, hp2⟩ := HP2.out k2 hlt2
          go_wp2_with fail
          go_quiet (fail)
          go_wp2
          go_roundw
          case rel => exact ⟨k2 + 1, _, by omega, by go_num, rfl⟩
          case measure => simp [intOf]; omega
        · have e1 : W4.cell? ⟨g, 8 + len2 + (8 + a1.size) - 1, none⟩ = some (.int .u8 10) := HZ.out _ (by omega)
          have e2 : W4.cell? ⟨g, 8 + len2 + (8 + a1.size) - 2, none⟩ = some (.int .u8 10) := HZ.out _ (by omega)
          go_wp2
          go_ret
          exact ⟨rfl, below_drewN' HB4.out q2⟩

set_option maxHeartbeats 2000000 in
theorem walk_ne (a1 : ByteArray) (a2 : Option Addr) (len2 cap2 : Nat) (z2 : List Int) (w : World) (w2 : IsRow .u8 w a2 len2 cap2 z2)
    (hsum : a1.size + len2 ≤ 1048576) (he : a1.toList.isEmpty = true) :
    Calls Try.prog 5 #[.slice none 0 0, .string a1, .slice a2 len2 cap2] w fun e w' => e = .returned (.bool true) ∧ Below w.heap.size w w' := by
  have H2 : Hid (IsRow .u8 w a2 len2 cap2 z2) := w2
  clear w2
  have b1 : a1.size ≤ 1048576 := by omega
  have b2 : len2 ≤ 1048576 := by omega
  go_enter Try.func5, Try.ntmps5
  go_wp2_with fail
  refine (sized _ _ _ _ _ _ _ _ (by unfold maxLen; omega) (by unfold maxLen; omega) (by unfold maxLen; omega)).mono ?_
  rintro e w' ⟨b, rfl, rfl⟩
  cases b
  · go_wp2_with fail
    go_ret
    exact ⟨rfl, Below.refl _ _⟩
  go_wp2_with fail
  refine (clone_nil _).mono ?_
  rintro e w' ⟨rfl, rfl⟩
  go_wp2_with fail
  refine (clone_any a2 len2 cap2 z2 _ H2.out b2).mono ?_
  rintro e W2 ⟨da, rfl, hd2, hb2⟩
  have HB2 : Hid (Below w.heap.size w W2) := hb2
  have HD2 : Hid (W2.ownsRow w.heap.size 5 1 (.slice da len2 len2) len2 (cellsOf z2 len2)) := hd2
  have z2' := HB2.out.size
  clear hb2 hd2 H2
  have hyl : (cellsOf z2 len2).length = len2 := by have := HD2.out.1; simpa using this
  have AY : Hid (AllInts (cellsOf z2 len2)) := ints_cellsOf _ _
  generalize cellsOf z2 len2 = ys at *
  go_wp2_with fail
  refine (event_any 0 w.heap.size _ 0 [] a1 da len2 ys W2 (by omega) b2 b1 (.inl ⟨rfl, rfl⟩) (World.ownsRow_nil _ _ _ _) HD2.out (ints_one AY.out)).mono ?_
  rintro e W3 ⟨ov, rfl, ho3, hb3⟩
  have HL : Hid ((evl a1 ys).length = len2 + 8) := by rw [← hyl]; exact len_empty he ys
  obtain ⟨D, hD⟩ := evl_ends a1 ys
  have HE : Hid (evl a1 ys = D ++ [.int .u8 10, .int .u8 10]) := hD
  have AE : Hid (AllInts (evl a1 ys)) := ints_evl a1 AY.out
  rw [HL.out, Nat.zero_add, List.nil_append] at ho3
  obtain ⟨g, cp, hov⟩ := owns_slice ho3 (by omega)
  rw [hov] at ho3
  rw [hov]
  have HD3 : Hid (W3.ownsRow w.heap.size 5 1 (.slice da len2 len2) len2 ys) := owns_keep HD2.out hb3
  have HO3 : Hid (W3.ownsRow W2.heap.size 5 1 (.slice (some ⟨g, 0, none⟩) (len2 + 8) cp) (len2 + 8) (evl a1 ys)) := ho3
  have HB3 : Hid (Below w.heap.size w W3) := HB2.out.trans (hb3.mono z2')
  clear hov ho3 hb3 hD HD2 HB2 z2'
  have t1 : ((len2 : Int) + 8 != 8 + (len2 : Int)) = false := by
    rw [bne_eq_false_iff_eq]; omega
  go_wp2_with fail
  go_loopw [9] (fun i wr => ∃ (k q : Nat), k ≤ 0 ∧ i = .int .i64 k ∧ wr = W3.drewN q) (fun i _ => 0 - (intOf i).toNat)
  case atStart => exact ⟨0, 0, Nat.zero_le _, rfl, rfl⟩
  case round =>
    obtain ⟨k, q, hk, rfl, rfl⟩ := hrel
    by_cases hlt : k < 0
    · exact absurd hlt (by omega)
    · clear t1
      go_wp2_with fail
      obtain ⟨V, hV⟩ : ∃ V, V = W3.drewN q := ⟨_, rfl⟩
      rw [← hV]
      have HDV : Hid (V.ownsRow w.heap.size 5 1 (.slice da len2 len2) len2 ys) := by rw [hV]; exact HD3.out
      have HOV : Hid (V.ownsRow W2.heap.size 5 1 (.slice (some ⟨g, 0, none⟩) (len2 + 8) cp) (len2 + 8) (evl a1 ys)) := by rw [hV]; exact HO3.out
      have HBV : Hid (Below w.heap.size w V) := by rw [hV]; exact below_drewN' HB3.out q
      clear hV HD3 HO3 HB3
      refine (event_any 0 w.heap.size _ 0 [] a1 da len2 ys V (by omega) b2 b1 (.inl ⟨rfl, rfl⟩) (World.ownsRow_nil _ _ _ _) HDV.out (ints_one AY.out)).mono ?_
      rintro e W4 ⟨av, rfl, ha4, hb4⟩
      rw [HL.out, Nat.zero_add, List.nil_append] at ha4
      obtain ⟨ga, ca, hav⟩ := owns_slice ha4 (by omega)
      rw [hav] at ha4
      rw [hav]
      have HO4 := owns_keep HOV.out hb4
      have hwV := HBV.out.size
      have HB4 : Hid (Below w.heap.size w W4) := HBV.out.trans (hb4.mono hwV)
      have HP2 : Hid (∀ k, k < len2 + 8 → ∃ z, W4.cell? ⟨g, k, none⟩ = some (.int .u8 z) ∧ W4.cell? ⟨ga, k, none⟩ = some (.int .u8 z)) :=
        fun k hk => both_at HO4 ha4 k k hk hk rfl AE.out
      have HZ : Hid (∀ j, len2 + 8 = j + 1 ∨ len2 + 8 = j + 2 → W4.cell? ⟨g, j, none⟩ = some (.int .u8 10)) :=
        ends_at (D := D) HO4 HE.out
      clear hav ha4 hb4 HO4 HOV HDV HBV hwV HE HL AE AY hyl
      go_wp2_with fail
      go_loopw [11] (fun i wr => ∃ (k q : Nat), k ≤ len2 + 8 ∧ i = .int .i64 k ∧ wr = W4.drewN q) (fun i _ => len2 + 8 - (intOf i).toNat)
      case atStart => exact ⟨0, 0, Nat.zero_le _, rfl, rfl⟩
      case round =>
        obtain ⟨k2, q2, hk2, rfl, rfl⟩ := hrel
        by_cases hlt2 : k2 < len2 + 8
        · obtain ⟨z, hp1, hp2⟩ := HP2.out k2 hlt2
          go_wp2_with fail
          go_quiet (fail)
          go_wp2
          go_roundw
          case rel => exact ⟨k2 + 1, _, by omega, by go_num, rfl⟩
          case measure => simp [intOf]; omega
        · have e1 : W4.cell? ⟨g, 7 + len2, none⟩ = some (.int .u8 10) := HZ.out _ (by omega)
          have e2 : W4.cell? ⟨g, 8 + len2 - 2, none⟩ = some (.int .u8 10) := HZ.out _ (by omega)
          go_wp2
          go_ret
          exact ⟨rfl, below_drewN' HB4.out q2⟩

set_option maxHeartbeats 400000 in
theorem walk_long (a0 : Option Addr) (len0 cap0 : Nat) (a1 : ByteArray) (a2 : Option Addr) (len2 cap2 : Nat) (w : World) (w0 : len0 ≤ maxLen) (w1 : a1.size ≤ maxLen) (w2 : len2 ≤ maxLen) (h : 1048576 < len0 + a1.size + len2) :
    Calls Try.prog 5 #[.slice a0 len0 cap0, .string a1, .slice a2 len2 cap2] w fun e w' => e = .returned (.bool true) ∧ Below w.heap.size w w' := by
  have hc : 1048576 < len0 ∨ (len0 ≤ 1048576 ∧ 1048576 < a1.size) ∨ (len0 ≤ 1048576 ∧ a1.size ≤ 1048576 ∧ 1048576 < len2) ∨ (len0 ≤ 1048576 ∧ a1.size ≤ 1048576 ∧ len2 ≤ 1048576 ∧ 1048576 < len0 + a1.size + len2) := by omega
  clear h
  have b0 := w0
  have b1 := w1
  have b2 := w2
  unfold maxLen at b0 b1 b2
  rcases hc with h | ⟨h1, h2⟩ | ⟨h1, h2, h3⟩ | ⟨h1, h2, h3, h4⟩
  all_goals
    go_enter Try.func5, Try.ntmps5
    go_wp2_with fail
    refine (sized _ _ _ _ _ _ _ _ w0 w1 w2).mono ?_
    rintro e w' ⟨b, rfl, rfl⟩
    cases b
    · go_wp2_with fail
      go_ret
      exact ⟨rfl, Below.refl _ _⟩
    · go_wp2_with fail
      go_ret
      exact ⟨rfl, Below.refl _ _⟩

theorem isRow_max {w : World} {a : Option Addr} {len cap : Nat} {zs : List Int} (h : IsRow .u8 w a len cap zs) : len ≤ maxLen := by
  rcases h with ⟨_, rfl, _⟩ | ⟨x, _, h2, h3, _⟩
  · exact Nat.zero_le _
  · exact Nat.le_trans h2 h3

theorem walk_all (a0 : Option Addr) (len0 cap0 : Nat) (z0 : List Int) (a1 : ByteArray) (a2 : Option Addr) (len2 cap2 : Nat) (z2 : List Int) (w : World) (w0 : IsRow .u8 w a0 len0 cap0 z0) (w1 : a1.size ≤ maxLen) (w2 : IsRow .u8 w a2 len2 cap2 z2) :
    Calls Try.prog 5 #[.slice a0 len0 cap0, .string a1, .slice a2 len2 cap2] w fun e w' => e = .returned (.bool true) ∧ Below w.heap.size w w' := by
  by_cases hl : 1048576 < len0 + a1.size + len2
  · exact walk_long a0 len0 cap0 a1 a2 len2 cap2 w (isRow_max w0) w1 (isRow_max w2) hl
  · cases he : a1.toList.isEmpty
    · rcases w0 with ⟨rfl, rfl, rfl, rfl⟩ | ⟨x, rfl, w0⟩
      · exact walk_nf a1 a2 len2 cap2 z2 w w2 (by omega) he
      · exact walk_sf x len0 cap0 z0 a1 a2 len2 cap2 z2 w (.inr ⟨x, rfl, w0⟩) w2 (by omega) he
    · rcases w0 with ⟨rfl, rfl, rfl, rfl⟩ | ⟨x, rfl, w0⟩
      · exact walk_ne a1 a2 len2 cap2 z2 w w2 (by omega) he
      · exact walk_se x len0 cap0 z0 a1 a2 len2 cap2 z2 w (.inr ⟨x, rfl, w0⟩) w2 (by omega) he

end Go.Proofs.Qxb6605680a.fnAppendEventExtendsStream

