import Derived.Test.Qxb6605663aColSplit
namespace Go.Proofs.Qxb6605663a.fnColumnRefStringSplitsBack
open Go.ChangeShapes Go.WideShapes Go.ChangeAt Go.RowKit
set_option linter.unusedVariables false

set_option maxHeartbeats 400000 in
theorem sized (a0 a1 a2 : ByteArray) (w : World) (h0 : a0.size ≤ maxLen) (h1 : a1.size ≤ maxLen) (h2 : a2.size ≤ maxLen) :
    Calls Try.prog 5 #[.string a0, .string a1, .string a2] w fun e w' => ∃ b : Bool, e = .returned (.bool b) ∧ w = w' := by
  unfold maxLen at h0 h1 h2
  go_enter Try.func5, Try.ntmps5
  go_wp2
  all_goals
    go_ret
    exact ⟨_, rfl, rfl⟩

theorem below_of_grown {B : Nat} {w W w1 : World} {v : Value} {n : Nat} {xs : List Value} {o : Obj} (hb : Below B w W) (hB : B ≤ W.heap.size) (ho : W.ownsRow B 9 1 v n xs) (hg : (W.alloc o).grownBy w1 v.ownBlock) : Below B w w1 :=
  (hb.alloc hB _).grown hg (by simp; omega) (fun q hq => (ho.lt q hq).1)

theorem one_cell (x : ByteArray) : ∀ u ∈ [Value.string x], u.oneCell' = true := by intro u hu; simp at hu; subst hu; rfl

theorem grown_of_below {w w' : World} (h : Below w.heap.size w w') : w.grownBy w' none := ⟨h.os, h.tape, h.output, h.size, fun k hk _ => h.block k hk⟩

theorem owns_slice {w : World} {B : Nat} {v : Value} {n : Nat} {xs : List Value} (h : w.ownsRow B 9 1 v n xs) (hn : 0 < n) : ∃ g cap, v = .slice (some ⟨g, 0, none⟩) n cap := by
  rcases h.2 with ⟨_, h0⟩ | ⟨g, cap, cur, hv, _⟩
  · omega
  · exact ⟨g, cap, hv⟩

theorem owns_keep {w w' : World} {B : Nat} {v : Value} {n : Nat} {xs : List Value} (h : w.ownsRow B 9 1 v n xs) (hb : Below w.heap.size w w') : w'.ownsRow B 9 1 v n xs :=
  h.kept (grown_of_below hb) (by cases v.ownBlock <;> simp)

/-- Two rows of the same texts: at each place both cells hold one text. -/
theorem both_at {w : World} {B1 B2 g1 g2 c1 c2 n : Nat} {xs : List ByteArray} (h1 : w.ownsRow B1 9 1 (.slice (some ⟨g1, 0, none⟩) n c1) n (xs.map Value.string)) (h2 : w.ownsRow B2 9 1 (.slice (some ⟨g2, 0, none⟩) n c2) n (xs.map Value.string))
    (k : Nat) (hk : k < n) : ∃ x, w.cell? ⟨g1, k, none⟩ = some (.string x) ∧ w.cell? ⟨g2, k, none⟩ = some (.string x) := by
  have hl : xs.length = n := by have := h1.1; simpa using this
  rw [h1.cellAt k (by omega), h2.cellAt k (by omega)]
  have hx : k < xs.length := by omega
  exact ⟨xs[k], by simp [hx], by simp [hx]⟩

theorem below_drewN' {B : Nat} {a w : World} (h : Below B a w) (n : Nat) : Below B a (w.drewN n) := h.trans ⟨rfl, rfl, rfl, Nat.le_refl _, fun _ _ => rfl⟩

theorem ret_bool {b : Bool} (h : b = true) : Ending.returned (.bool b) = .returned (.bool true) := by rw [h]

theorem app_size (a b : ByteArray) : (a ++ b).size = a.size + b.size := ByteArray.size_append

theorem got3 (a b c : ByteArray) : (a ++ { data := #[46] } ++ (b ++ { data := #[46] } ++ c)).data.toList = a.data.toList ++ 46 :: (b.data.toList ++ 46 :: c.data.toList) := by
  simp
theorem got2 (b c : ByteArray) : (b ++ { data := #[46] } ++ c).data.toList = b.data.toList ++ 46 :: c.data.toList := by
  simp
theorem size3 (a b c : ByteArray) : (a ++ { data := #[46] } ++ (b ++ { data := #[46] } ++ c)).size = a.size + b.size + c.size + 2 := by
  have h : (ByteArray.mk #[46]).size = 1 := rfl
  simp only [app_size, h]; omega
theorem size2 (b c : ByteArray) : (b ++ { data := #[46] } ++ c).size = b.size + c.size + 1 := by
  have h : (ByteArray.mk #[46]).size = 1 := rfl
  simp only [app_size, h]; omega

set_option maxHeartbeats 1000000 in
theorem walk3 (a0 a1 a2 : ByteArray) (w : World) (w0 : a0.size ≤ 65536) (w1 : a1.size ≤ 65536) (w2 : a2.size ≤ 65536)
    (n0 : NoDot a0) (n1 : NoDot a1) (n2 : NoDot a2) (e0 : a0.toList.isEmpty = false) (e1 : a1.toList.isEmpty = false) :
    Calls Try.prog 3 #[.string a0, .string a1, .string a2] w fun e w' => e = .returned (.bool true) ∧ Below w.heap.size w w' := by
  obtain ⟨i0, hi, hz0, hz1, hz2⟩ := info_parts info9
  have N0 : Hid (NoDot a0) := n0
  have N1 : Hid (NoDot a1) := n1
  have N2 : Hid (NoDot a2) := n2
  clear n0 n1 n2
  go_enter Try.func3, Try.ntmps3
  go_wp2_with fail
  refine (sized _ _ _ _ (by unfold maxLen; omega) (by unfold maxLen; omega) (by unfold maxLen; omega)).mono ?_
  rintro e w' ⟨b, rfl, rfl⟩
  cases b
  · go_wp2_with fail
    go_ret
    exact ⟨rfl, Below.refl _ _⟩
  go_wp2_with fail
  refine (hasDot_no a0 _ w0 N0.out).mono ?_
  rintro e w' ⟨rfl, rfl⟩
  go_wp2_with fail
  refine (hasDot_no a1 _ w1 N1.out).mono ?_
  rintro e w' ⟨rfl, rfl⟩
  go_wp2_with fail
  refine (hasDot_no a2 _ w2 N2.out).mono ?_
  rintro e w' ⟨rfl, rfl⟩
  go_wp2_with (first
    | (go_at_call 7; go_in)
    | (at_builtin; refine wpList_append_own _ rfl (.tmp 47) (.tmp 49) 28 rfl w.heap.size 9 i0 (.string ⟨#[]⟩) 1 16 Try.underlying28 hi hz0 hz1 hz2 rfl (by decide) _ _ _ rfl (World.ownsRow_nil _ _ _ _) ⟨w.heap.size + 1, 0, none⟩ 1 1 [.string a0] rfl rfl ?_ (one_cell _) (by unfold maxLen; omega) (by omega) (by simp; omega) ?_))
  · have hc := cell_one_new (w.alloc (.cells #[Value.string a0, Value.string a1, Value.string a2] 26)) (.string a0) 9
    rw [World.size_alloc] at hc
    exact hc
  intro v1 W1 hown1 hgrow1 _
  have hb1 : Below w.heap.size w W1 := below_of_grown ((Below.refl _ _).alloc (Nat.le_refl _) _) (by simp) (World.ownsRow_nil _ _ _ _) hgrow1
  replace hown1 : W1.ownsRow w.heap.size 9 1 v1 1 [.string a0] := hown1
  have hs1 := hb1.size
  clear hgrow1
  go_wp2_with (at_builtin; refine wpList_append_own _ rfl (.tmp 53) (.tmp 55) 28 rfl w.heap.size 9 i0 (.string ⟨#[]⟩) 1 16 Try.underlying28 hi hz0 hz1 hz2 rfl (by decide) _ _ _ rfl (hown1.alloc _) ⟨W1.heap.size, 0, none⟩ 1 1 [.string a1] rfl rfl (cell_one_new _ _ _) (one_cell _) (by unfold maxLen; omega) (by omega) (by simp; omega) ?_)
  intro v2 W2 hown2 hgrow2 _
  have hb2 : Below w.heap.size w W2 := below_of_grown hb1 hs1 hown1 hgrow2
  have hs2 := hb2.size
  clear hgrow2 hown1 hb1 hs1
  go_wp2_with (at_builtin; refine wpList_append_own _ rfl (.tmp 57) (.tmp 59) 28 rfl w.heap.size 9 i0 (.string ⟨#[]⟩) 1 16 Try.underlying28 hi hz0 hz1 hz2 rfl (by decide) _ _ _ rfl (hown2.alloc _) ⟨W2.heap.size, 0, none⟩ 1 1 [.string a2] rfl rfl (cell_one_new _ _ _) (one_cell _) (by unfold maxLen; omega) (by omega) (by simp; omega) ?_)
  intro v3 W3 hown3 hgrow3 _
  have hb3 : Below w.heap.size w W3 := below_of_grown hb2 hs2 hown2 hgrow3
  have hs3 := hb3.size
  clear hgrow3 hown2 hb2 hs2
  go_wp2_with fail
  have HG : Hid (splAll (a0 ++ { data := #[46] } ++ (a1 ++ { data := #[46] } ++ a2)) = [a0, a1, a2]) := split3 _ a0 a1 a2 (got3 a0 a1 a2) N0.out N1.out N2.out
  have hgs := size3 a0 a1 a2
  generalize (a0 ++ { data := #[46] } ++ (a1 ++ { data := #[46] } ++ a2)) = got at *
  refine (split_any got W3 (by omega)).mono ?_
  rintro e Wz ⟨vz, rfl, hownz, hbz⟩
  rw [HG.out] at hownz
  clear HG N0 N1 N2
  have hownk := owns_keep hown3 hbz
  have hbf : Below w.heap.size w Wz := hb3.trans (hbz.mono hs3)
  obtain ⟨gk, ck, hvk⟩ := owns_slice hown3 (by decide)
  obtain ⟨gz, cz, hvz⟩ := owns_slice hownz (by simp)
  rw [hvk] at hownk
  rw [hvz] at hownz
  rw [hvk, hvz]
  have HB : Hid (∀ k, k < 3 → ∃ x, Wz.cell? ⟨gz, k, none⟩ = some (.string x) ∧ Wz.cell? ⟨gk, k, none⟩ = some (.string x)) := fun k hk => both_at (xs := [a0, a1, a2]) hownz hownk k hk
  have BF : Hid (Below w.heap.size w Wz) := hbf
  clear hown3 hownk hownz hbz hbf hb3 hs3 hvk hvz
  go_wp2_with fail
  go_loopw [10] (fun i wr => ∃ (k m : Nat), k ≤ 3 ∧ i = .int .i64 k ∧ wr = Wz.drewN m) (fun i _ => 3 - (intOf i).toNat)
  case atStart => exact ⟨0, 0, by omega, rfl, rfl⟩
  case round =>
    obtain ⟨k, m, hk, rfl, rfl⟩ := hrel
    by_cases hlt : k < 3
    · obtain ⟨x, hxz, hxk⟩ := HB.out k hlt
      go_wp2_with fail
      go_quiet (fail)
      go_wp2
      go_roundw
      case rel => exact ⟨k + 1, _, by omega, by go_num, rfl⟩
      case measure => simp [intOf]; omega
    · go_wp2
      go_ret
      exact ⟨ret_bool (by simp; omega), below_drewN' BF.out m⟩

set_option maxHeartbeats 1000000 in
theorem walk2a (a0 a1 a2 : ByteArray) (w : World) (w0 : a0.size ≤ 65536) (w1 : a1.size ≤ 65536) (w2 : a2.size ≤ 65536)
    (n0 : NoDot a0) (n1 : NoDot a1) (n2 : NoDot a2) (e0 : a0.toList.isEmpty = false) (e1 : a1.toList.isEmpty = true) (z1 : a1.size = 0) :
    Calls Try.prog 3 #[.string a0, .string a1, .string a2] w fun e w' => e = .returned (.bool true) ∧ Below w.heap.size w w' := by
  obtain ⟨i0, hi, hz0, hz1, hz2⟩ := info_parts info9
  have N0 : Hid (NoDot a0) := n0
  have N1 : Hid (NoDot a1) := n1
  have N2 : Hid (NoDot a2) := n2
  clear n0 n1 n2
  go_enter Try.func3, Try.ntmps3
  go_wp2_with fail
  refine (sized _ _ _ _ (by unfold maxLen; omega) (by unfold maxLen; omega) (by unfold maxLen; omega)).mono ?_
  rintro e w' ⟨b, rfl, rfl⟩
  cases b
  · go_wp2_with fail
    go_ret
    exact ⟨rfl, Below.refl _ _⟩
  go_wp2_with fail
  refine (hasDot_no a0 _ w0 N0.out).mono ?_
  rintro e w' ⟨rfl, rfl⟩
  go_wp2_with fail
  refine (hasDot_no a1 _ w1 N1.out).mono ?_
  rintro e w' ⟨rfl, rfl⟩
  go_wp2_with fail
  refine (hasDot_no a2 _ w2 N2.out).mono ?_
  rintro e w' ⟨rfl, rfl⟩
  go_wp2_with (first
    | (go_at_call 7; go_in)
    | (at_builtin; refine wpList_append_own _ rfl (.tmp 47) (.tmp 49) 28 rfl w.heap.size 9 i0 (.string ⟨#[]⟩) 1 16 Try.underlying28 hi hz0 hz1 hz2 rfl (by decide) _ _ _ rfl (World.ownsRow_nil _ _ _ _) ⟨w.heap.size + 1, 0, none⟩ 1 1 [.string a0] rfl rfl ?_ (one_cell _) (by unfold maxLen; omega) (by omega) (by simp; omega) ?_))
  · have hc := cell_one_new (w.alloc (.cells #[Value.string a0, Value.string a1, Value.string a2] 26)) (.string a0) 9
    rw [World.size_alloc] at hc
    exact hc
  intro v1 W1 hown1 hgrow1 _
  have hb1 : Below w.heap.size w W1 := below_of_grown ((Below.refl _ _).alloc (Nat.le_refl _) _) (by simp) (World.ownsRow_nil _ _ _ _) hgrow1
  replace hown1 : W1.ownsRow w.heap.size 9 1 v1 1 [.string a0] := hown1
  have hs1 := hb1.size
  clear hgrow1
  go_wp2_with (at_builtin; refine wpList_append_own _ rfl (.tmp 57) (.tmp 59) 28 rfl w.heap.size 9 i0 (.string ⟨#[]⟩) 1 16 Try.underlying28 hi hz0 hz1 hz2 rfl (by decide) _ _ _ rfl (hown1.alloc _) ⟨W1.heap.size, 0, none⟩ 1 1 [.string a2] rfl rfl (cell_one_new _ _ _) (one_cell _) (by unfold maxLen; omega) (by omega) (by simp; omega) ?_)
  intro v2 W2 hown2 hgrow2 _
  have hb2 : Below w.heap.size w W2 := below_of_grown hb1 hs1 hown1 hgrow2
  have hs2 := hb2.size
  clear hgrow2 hown1 hb1 hs1
  go_wp2_with fail
  have HG : Hid (splAll (a0 ++ { data := #[46] } ++ a2) = [a0, a2]) := split2 _ a0 a2 (got2 a0 a2) N0.out N2.out
  have hgs := size2 a0 a2
  generalize (a0 ++ { data := #[46] } ++ a2) = got at *
  refine (split_any got W2 (by omega)).mono ?_
  rintro e Wz ⟨vz, rfl, hownz, hbz⟩
  rw [HG.out] at hownz
  clear HG N0 N1 N2
  have hownk := owns_keep hown2 hbz
  have hbf : Below w.heap.size w Wz := hb2.trans (hbz.mono hs2)
  obtain ⟨gk, ck, hvk⟩ := owns_slice hown2 (by decide)
  obtain ⟨gz, cz, hvz⟩ := owns_slice hownz (by simp)
  rw [hvk] at hownk
  rw [hvz] at hownz
  rw [hvk, hvz]
  have HB : Hid (∀ k, k < 2 → ∃ x, Wz.cell? ⟨gz, k, none⟩ = some (.string x) ∧ Wz.cell? ⟨gk, k, none⟩ = some (.string x)) := fun k hk => both_at (xs := [a0, a2]) hownz hownk k hk
  have BF : Hid (Below w.heap.size w Wz) := hbf
  clear hown2 hownk hownz hbz hbf hb2 hs2 hvk hvz
  go_wp2_with fail
  go_loopw [10] (fun i wr => ∃ (k m : Nat), k ≤ 2 ∧ i = .int .i64 k ∧ wr = Wz.drewN m) (fun i _ => 2 - (intOf i).toNat)
  case atStart => exact ⟨0, 0, by omega, rfl, rfl⟩
  case round =>
    obtain ⟨k, m, hk, rfl, rfl⟩ := hrel
    by_cases hlt : k < 2
    · obtain ⟨x, hxz, hxk⟩ := HB.out k hlt
      go_wp2_with fail
      go_quiet (fail)
      go_wp2
      go_roundw
      case rel => exact ⟨k + 1, _, by omega, by go_num, rfl⟩
      case measure => simp [intOf]; omega
    · go_wp2
      go_ret
      exact ⟨ret_bool (by simp; omega), below_drewN' BF.out m⟩

set_option maxHeartbeats 1000000 in
theorem walk2b (a0 a1 a2 : ByteArray) (w : World) (w0 : a0.size ≤ 65536) (w1 : a1.size ≤ 65536) (w2 : a2.size ≤ 65536)
    (n0 : NoDot a0) (n1 : NoDot a1) (n2 : NoDot a2) (e0 : a0.toList.isEmpty = true) (e1 : a1.toList.isEmpty = false) (z0 : a0.size = 0) :
    Calls Try.prog 3 #[.string a0, .string a1, .string a2] w fun e w' => e = .returned (.bool true) ∧ Below w.heap.size w w' := by
  obtain ⟨i0, hi, hz0, hz1, hz2⟩ := info_parts info9
  have N0 : Hid (NoDot a0) := n0
  have N1 : Hid (NoDot a1) := n1
  have N2 : Hid (NoDot a2) := n2
  clear n0 n1 n2
  go_enter Try.func3, Try.ntmps3
  go_wp2_with fail
  refine (sized _ _ _ _ (by unfold maxLen; omega) (by unfold maxLen; omega) (by unfold maxLen; omega)).mono ?_
  rintro e w' ⟨b, rfl, rfl⟩
  cases b
  · go_wp2_with fail
    go_ret
    exact ⟨rfl, Below.refl _ _⟩
  go_wp2_with fail
  refine (hasDot_no a0 _ w0 N0.out).mono ?_
  rintro e w' ⟨rfl, rfl⟩
  go_wp2_with fail
  refine (hasDot_no a1 _ w1 N1.out).mono ?_
  rintro e w' ⟨rfl, rfl⟩
  go_wp2_with fail
  refine (hasDot_no a2 _ w2 N2.out).mono ?_
  rintro e w' ⟨rfl, rfl⟩
  go_wp2_with (first
    | (go_at_call 7; go_in)
    | (at_builtin; refine wpList_append_own _ rfl (.tmp 53) (.tmp 55) 28 rfl w.heap.size 9 i0 (.string ⟨#[]⟩) 1 16 Try.underlying28 hi hz0 hz1 hz2 rfl (by decide) _ _ _ rfl (World.ownsRow_nil _ _ _ _) ⟨w.heap.size + 1, 0, none⟩ 1 1 [.string a1] rfl rfl ?_ (one_cell _) (by unfold maxLen; omega) (by omega) (by simp; omega) ?_))
  · have hc := cell_one_new (w.alloc (.cells #[Value.string a0, Value.string a1, Value.string a2] 26)) (.string a1) 9
    rw [World.size_alloc] at hc
    exact hc
  intro v1 W1 hown1 hgrow1 _
  have hb1 : Below w.heap.size w W1 := below_of_grown ((Below.refl _ _).alloc (Nat.le_refl _) _) (by simp) (World.ownsRow_nil _ _ _ _) hgrow1
  replace hown1 : W1.ownsRow w.heap.size 9 1 v1 1 [.string a1] := hown1
  have hs1 := hb1.size
  clear hgrow1
  go_wp2_with (at_builtin; refine wpList_append_own _ rfl (.tmp 57) (.tmp 59) 28 rfl w.heap.size 9 i0 (.string ⟨#[]⟩) 1 16 Try.underlying28 hi hz0 hz1 hz2 rfl (by decide) _ _ _ rfl (hown1.alloc _) ⟨W1.heap.size, 0, none⟩ 1 1 [.string a2] rfl rfl (cell_one_new _ _ _) (one_cell _) (by unfold maxLen; omega) (by omega) (by simp; omega) ?_)
  intro v2 W2 hown2 hgrow2 _
  have hb2 : Below w.heap.size w W2 := below_of_grown hb1 hs1 hown1 hgrow2
  have hs2 := hb2.size
  clear hgrow2 hown1 hb1 hs1
  go_wp2_with fail
  have HG : Hid (splAll (a1 ++ { data := #[46] } ++ a2) = [a1, a2]) := split2 _ a1 a2 (got2 a1 a2) N1.out N2.out
  have hgs := size2 a1 a2
  generalize (a1 ++ { data := #[46] } ++ a2) = got at *
  refine (split_any got W2 (by omega)).mono ?_
  rintro e Wz ⟨vz, rfl, hownz, hbz⟩
  rw [HG.out] at hownz
  clear HG N0 N1 N2
  have hownk := owns_keep hown2 hbz
  have hbf : Below w.heap.size w Wz := hb2.trans (hbz.mono hs2)
  obtain ⟨gk, ck, hvk⟩ := owns_slice hown2 (by decide)
  obtain ⟨gz, cz, hvz⟩ := owns_slice hownz (by simp)
  rw [hvk] at hownk
  rw [hvz] at hownz
  rw [hvk, hvz]
  have HB : Hid (∀ k, k < 2 → ∃ x, Wz.cell? ⟨gz, k, none⟩ = some (.string x) ∧ Wz.cell? ⟨gk, k, none⟩ = some (.string x)) := fun k hk => both_at (xs := [a1, a2]) hownz hownk k hk
  have BF : Hid (Below w.heap.size w Wz) := hbf
  clear hown2 hownk hownz hbz hbf hb2 hs2 hvk hvz
  go_wp2_with fail
  go_loopw [10] (fun i wr => ∃ (k m : Nat), k ≤ 2 ∧ i = .int .i64 k ∧ wr = Wz.drewN m) (fun i _ => 2 - (intOf i).toNat)
  case atStart => exact ⟨0, 0, by omega, rfl, rfl⟩
  case round =>
    obtain ⟨k, m, hk, rfl, rfl⟩ := hrel
    by_cases hlt : k < 2
    · obtain ⟨x, hxz, hxk⟩ := HB.out k hlt
      go_wp2_with fail
      go_quiet (fail)
      go_wp2
      go_roundw
      case rel => exact ⟨k + 1, _, by omega, by go_num, rfl⟩
      case measure => simp [intOf]; omega
    · go_wp2
      go_ret
      exact ⟨ret_bool (by simp; omega), below_drewN' BF.out m⟩

set_option maxHeartbeats 1000000 in
theorem walk1 (a0 a1 a2 : ByteArray) (w : World) (w0 : a0.size ≤ 65536) (w1 : a1.size ≤ 65536) (w2 : a2.size ≤ 65536)
    (n0 : NoDot a0) (n1 : NoDot a1) (n2 : NoDot a2) (e0 : a0.toList.isEmpty = true) (e1 : a1.toList.isEmpty = true) (z0 : a0.size = 0) (z1 : a1.size = 0) :
    Calls Try.prog 3 #[.string a0, .string a1, .string a2] w fun e w' => e = .returned (.bool true) ∧ Below w.heap.size w w' := by
  obtain ⟨i0, hi, hz0, hz1, hz2⟩ := info_parts info9
  have N0 : Hid (NoDot a0) := n0
  have N1 : Hid (NoDot a1) := n1
  have N2 : Hid (NoDot a2) := n2
  clear n0 n1 n2
  go_enter Try.func3, Try.ntmps3
  go_wp2_with fail
  refine (sized _ _ _ _ (by unfold maxLen; omega) (by unfold maxLen; omega) (by unfold maxLen; omega)).mono ?_
  rintro e w' ⟨b, rfl, rfl⟩
  cases b
  · go_wp2_with fail
    go_ret
    exact ⟨rfl, Below.refl _ _⟩
  go_wp2_with fail
  refine (hasDot_no a0 _ w0 N0.out).mono ?_
  rintro e w' ⟨rfl, rfl⟩
  go_wp2_with fail
  refine (hasDot_no a1 _ w1 N1.out).mono ?_
  rintro e w' ⟨rfl, rfl⟩
  go_wp2_with fail
  refine (hasDot_no a2 _ w2 N2.out).mono ?_
  rintro e w' ⟨rfl, rfl⟩
  go_wp2_with (first
    | (go_at_call 7; go_in)
    | (at_builtin; refine wpList_append_own _ rfl (.tmp 57) (.tmp 59) 28 rfl w.heap.size 9 i0 (.string ⟨#[]⟩) 1 16 Try.underlying28 hi hz0 hz1 hz2 rfl (by decide) _ _ _ rfl (World.ownsRow_nil _ _ _ _) ⟨w.heap.size + 1, 0, none⟩ 1 1 [.string a2] rfl rfl ?_ (one_cell _) (by unfold maxLen; omega) (by omega) (by simp; omega) ?_))
  · have hc := cell_one_new (w.alloc (.cells #[Value.string a0, Value.string a1, Value.string a2] 26)) (.string a2) 9
    rw [World.size_alloc] at hc
    exact hc
  intro v1 W1 hown1 hgrow1 _
  have hb1 : Below w.heap.size w W1 := below_of_grown ((Below.refl _ _).alloc (Nat.le_refl _) _) (by simp) (World.ownsRow_nil _ _ _ _) hgrow1
  replace hown1 : W1.ownsRow w.heap.size 9 1 v1 1 [.string a2] := hown1
  have hs1 := hb1.size
  clear hgrow1
  go_wp2_with fail
  have HG : Hid (splAll a2 = [a2]) := split1 _ a2 rfl N2.out
  refine (split_any a2 W1 (by omega)).mono ?_
  rintro e Wz ⟨vz, rfl, hownz, hbz⟩
  rw [HG.out] at hownz
  clear HG N0 N1 N2
  have hownk := owns_keep hown1 hbz
  have hbf : Below w.heap.size w Wz := hb1.trans (hbz.mono hs1)
  obtain ⟨gk, ck, hvk⟩ := owns_slice hown1 (by decide)
  obtain ⟨gz, cz, hvz⟩ := owns_slice hownz (by simp)
  rw [hvk] at hownk
  rw [hvz] at hownz
  rw [hvk, hvz]
  have HB : Hid (∀ k, k < 1 → ∃ x, Wz.cell? ⟨gz, k, none⟩ = some (.string x) ∧ Wz.cell? ⟨gk, k, none⟩ = some (.string x)) := fun k hk => both_at (xs := [a2]) hownz hownk k hk
  have BF : Hid (Below w.heap.size w Wz) := hbf
  clear hown1 hownk hownz hbz hbf hb1 hs1 hvk hvz
  go_wp2_with fail
  go_loopw [10] (fun i wr => ∃ (k m : Nat), k ≤ 1 ∧ i = .int .i64 k ∧ wr = Wz.drewN m) (fun i _ => 1 - (intOf i).toNat)
  case atStart => exact ⟨0, 0, by omega, rfl, rfl⟩
  case round =>
    obtain ⟨k, m, hk, rfl, rfl⟩ := hrel
    by_cases hlt : k < 1
    · obtain ⟨x, hxz, hxk⟩ := HB.out k hlt
      go_wp2_with fail
      go_quiet (fail)
      go_wp2
      go_roundw
      case rel => exact ⟨k + 1, _, by omega, by go_num, rfl⟩
      case measure => simp [intOf]; omega
    · go_wp2
      go_ret
      exact ⟨ret_bool (by simp), below_drewN' BF.out m⟩

set_option maxHeartbeats 400000 in
theorem walk_long (a0 a1 a2 : ByteArray) (w : World) (w0 : a0.size ≤ maxLen) (w1 : a1.size ≤ maxLen) (w2 : a2.size ≤ maxLen) (h : 65536 < a0.size ∨ 65536 < a1.size ∨ 65536 < a2.size) :
    Calls Try.prog 3 #[.string a0, .string a1, .string a2] w fun e w' => e = .returned (.bool true) ∧ Below w.heap.size w w' := by
  have hc : 65536 < a0.size ∨ (a0.size ≤ 65536 ∧ 65536 < a1.size) ∨ (a0.size ≤ 65536 ∧ a1.size ≤ 65536 ∧ 65536 < a2.size) := by omega
  clear h
  have b0 := w0
  have b1 := w1
  have b2 := w2
  unfold maxLen at b0 b1 b2
  rcases hc with h | ⟨h1, h2⟩ | ⟨h1, h2, h3⟩
  all_goals
    go_enter Try.func3, Try.ntmps3
    go_wp2_with fail
    refine (sized _ _ _ _ w0 w1 w2).mono ?_
    rintro e w' ⟨b, rfl, rfl⟩
    cases b
    · go_wp2_with fail
      go_ret
      exact ⟨rfl, Below.refl _ _⟩
    · go_wp2_with fail
      go_ret
      exact ⟨rfl, Below.refl _ _⟩

set_option maxHeartbeats 400000 in
theorem walk_dot0 (a0 a1 a2 : ByteArray) (w : World) (w0 : a0.size ≤ 65536) (w1 : a1.size ≤ 65536) (w2 : a2.size ≤ 65536) (n0 : ¬ NoDot a0) :
    Calls Try.prog 3 #[.string a0, .string a1, .string a2] w fun e w' => e = .returned (.bool true) ∧ Below w.heap.size w w' := by
  have N0 : Hid (¬ NoDot a0) := n0
  clear n0
  go_enter Try.func3, Try.ntmps3
  go_wp2_with fail
  refine (sized _ _ _ _ (by unfold maxLen; omega) (by unfold maxLen; omega) (by unfold maxLen; omega)).mono ?_
  rintro e w' ⟨b, rfl, rfl⟩
  cases b
  · go_wp2_with fail
    go_ret
    exact ⟨rfl, Below.refl _ _⟩
  go_wp2_with fail
  refine (hasDot_yes a0 _ w0 N0.out).mono ?_
  rintro e w' ⟨rfl, rfl⟩
  go_wp2_with fail
  go_ret
  exact ⟨rfl, Below.refl _ _⟩

set_option maxHeartbeats 400000 in
theorem walk_dot1 (a0 a1 a2 : ByteArray) (w : World) (w0 : a0.size ≤ 65536) (w1 : a1.size ≤ 65536) (w2 : a2.size ≤ 65536) (n0 : NoDot a0) (n1 : ¬ NoDot a1) :
    Calls Try.prog 3 #[.string a0, .string a1, .string a2] w fun e w' => e = .returned (.bool true) ∧ Below w.heap.size w w' := by
  have N0 : Hid (NoDot a0) := n0
  have N1 : Hid (¬ NoDot a1) := n1
  clear n0 n1
  go_enter Try.func3, Try.ntmps3
  go_wp2_with fail
  refine (sized _ _ _ _ (by unfold maxLen; omega) (by unfold maxLen; omega) (by unfold maxLen; omega)).mono ?_
  rintro e w' ⟨b, rfl, rfl⟩
  cases b
  · go_wp2_with fail
    go_ret
    exact ⟨rfl, Below.refl _ _⟩
  go_wp2_with fail
  refine (hasDot_no a0 _ w0 N0.out).mono ?_
  rintro e w' ⟨rfl, rfl⟩
  go_wp2_with fail
  refine (hasDot_yes a1 _ w1 N1.out).mono ?_
  rintro e w' ⟨rfl, rfl⟩
  go_wp2_with fail
  go_ret
  exact ⟨rfl, Below.refl _ _⟩

set_option maxHeartbeats 400000 in
theorem walk_dot2 (a0 a1 a2 : ByteArray) (w : World) (w0 : a0.size ≤ 65536) (w1 : a1.size ≤ 65536) (w2 : a2.size ≤ 65536) (n0 : NoDot a0) (n1 : NoDot a1) (n2 : ¬ NoDot a2) :
    Calls Try.prog 3 #[.string a0, .string a1, .string a2] w fun e w' => e = .returned (.bool true) ∧ Below w.heap.size w w' := by
  have N0 : Hid (NoDot a0) := n0
  have N1 : Hid (NoDot a1) := n1
  have N2 : Hid (¬ NoDot a2) := n2
  clear n0 n1 n2
  go_enter Try.func3, Try.ntmps3
  go_wp2_with fail
  refine (sized _ _ _ _ (by unfold maxLen; omega) (by unfold maxLen; omega) (by unfold maxLen; omega)).mono ?_
  rintro e w' ⟨b, rfl, rfl⟩
  cases b
  · go_wp2_with fail
    go_ret
    exact ⟨rfl, Below.refl _ _⟩
  go_wp2_with fail
  refine (hasDot_no a0 _ w0 N0.out).mono ?_
  rintro e w' ⟨rfl, rfl⟩
  go_wp2_with fail
  refine (hasDot_no a1 _ w1 N1.out).mono ?_
  rintro e w' ⟨rfl, rfl⟩
  go_wp2_with fail
  refine (hasDot_yes a2 _ w2 N2.out).mono ?_
  rintro e w' ⟨rfl, rfl⟩
  go_wp2_with fail
  go_ret
  exact ⟨rfl, Below.refl _ _⟩

theorem empty_of {a : ByteArray} (h : a.toList.isEmpty = true) : a.size = 0 := by
  rw [ByteArray.toList_eq, List.isEmpty_iff] at h
  have hl : a.data.toList.length = a.size := by simp
  rw [← hl, h]
  rfl

theorem walk_all (a0 a1 a2 : ByteArray) (w0 : a0.size ≤ maxLen) (w1 : a1.size ≤ maxLen) (w2 : a2.size ≤ maxLen) (w : World) :
    Calls Try.prog 3 #[.string a0, .string a1, .string a2] w fun e w' => e = .returned (.bool true) ∧ Below w.heap.size w w' := by
  by_cases hl : 65536 < a0.size ∨ 65536 < a1.size ∨ 65536 < a2.size
  · exact walk_long a0 a1 a2 w w0 w1 w2 hl
  · have s0 : a0.size ≤ 65536 := by omega
    have s1 : a1.size ≤ 65536 := by omega
    have s2 : a2.size ≤ 65536 := by omega
    by_cases n0 : NoDot a0
    · by_cases n1 : NoDot a1
      · by_cases n2 : NoDot a2
        · cases e0 : a0.toList.isEmpty <;> cases e1 : a1.toList.isEmpty
          · exact walk3 a0 a1 a2 w s0 s1 s2 n0 n1 n2 e0 e1
          · exact walk2a a0 a1 a2 w s0 s1 s2 n0 n1 n2 e0 e1 (empty_of e1)
          · exact walk2b a0 a1 a2 w s0 s1 s2 n0 n1 n2 e0 e1 (empty_of e0)
          · exact walk1 a0 a1 a2 w s0 s1 s2 n0 n1 n2 e0 e1 (empty_of e0) (empty_of e1)
        · exact walk_dot2 a0 a1 a2 w s0 s1 s2 n0 n1 n2
      · exact walk_dot1 a0 a1 a2 w s0 s1 s2 n0 n1
    · exact walk_dot0 a0 a1 a2 w s0 s1 s2 n0

end Go.Proofs.Qxb6605663a.fnColumnRefStringSplitsBack
