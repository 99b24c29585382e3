import Derived.Test.Qxb6605680aCalls
namespace Go.Proofs.Qxb6605680a.fnAppendEventExtendsStream
open Go.ChangeShapes Go.WideShapes Go.ChangeAt Go.RowKit Go.Lib
set_option linter.unusedVariables false

def EV : ByteArray := { data := #[101, 118, 101, 110, 116, 58, 32] }
def DA : ByteArray := { data := #[100, 97, 116, 97, 58, 32] }
def NN : ByteArray := { data := #[10, 10] }

/-- What AppendEvent adds. -/
def evl (et : ByteArray) (ys : List Value) : List Value :=
  if et.toList.isEmpty = true then strCells DA ++ ys ++ strCells NN else strCells EV ++ strCells et ++ [.int .u8 10] ++ strCells DA ++ ys ++ strCells NN

theorem evl_empty {et : ByteArray} (h : et.toList.isEmpty = true) (ys : List Value) : evl et ys = strCells DA ++ ys ++ strCells NN := by unfold evl; rw [if_pos h]
theorem evl_full {et : ByteArray} (h : et.toList.isEmpty = false) (ys : List Value) : evl et ys = strCells EV ++ strCells et ++ [.int .u8 10] ++ strCells DA ++ ys ++ strCells NN := by unfold evl; rw [if_neg (by rw [h]; decide)]

theorem len_empty {et : ByteArray} (h : et.toList.isEmpty = true) (ys : List Value) : (evl et ys).length = ys.length + 8 := by
  have a : DA.size = 6 := rfl
  have b : NN.size = 2 := rfl
  rw [evl_empty h]; simp only [List.length_append, strCells_length]; omega
theorem len_full {et : ByteArray} (h : et.toList.isEmpty = false) (ys : List Value) : (evl et ys).length = ys.length + et.size + 16 := by
  have a : DA.size = 6 := rfl
  have b : NN.size = 2 := rfl
  have c : EV.size = 7 := rfl
  rw [evl_full h]; simp only [List.length_append, strCells_length, List.length_singleton]; omega

theorem size_DA : DA.size = 6 := rfl
theorem size_NN : NN.size = 2 := rfl
theorem size_EV : EV.size = 7 := rfl

set_option maxHeartbeats 1000000 in
theorem event_empty (Bs Bd : Nat) (sv : Value) (n : Nat) (xs : List Value) (et : ByteArray) (da : Option Addr) (m : Nat) (ys : List Value) (w : World) (hn : n ≤ 1048576) (hm : m ≤ 1048576) (he : et.toList.isEmpty = true)
    (hfull : Full sv n) (hown : w.ownsRow Bs 5 1 sv n xs) (hdat : w.ownsRow Bd 5 1 (.slice da m m) m ys) (hone : ∀ u ∈ ys, u.oneCell' = true) :
    Calls Try.prog 14 #[sv, .string et, .slice da m m] w fun e w' => ∃ v, e = .returned v ∧ w'.ownsRow w.heap.size 5 1 v (n + (evl et ys).length) (xs ++ evl et ys) ∧ Below w.heap.size w w' := by
  have hyl : ys.length = m := by simpa using hdat.1
  have HE : Hid (evl et ys = strCells DA ++ ys ++ strCells NN) := evl_empty he ys
  have HL : Hid ((evl et ys).length = m + 8) := by rw [← hyl]; exact len_empty he ys
  have HF : Hid (Full sv n) := hfull
  have HD : Hid (w.ownsRow Bd 5 1 (.slice da m m) m ys) := hdat
  clear hfull hdat
  obtain ⟨i0, hi, hz0, hz1, hz2⟩ := info_parts info5
  go_enter Try.func14, Try.ntmps14
  go_wp2_with (at_builtin; refine wpList_append_full_string _ rfl (.tmp 15) (.const (.string { data := #[100, 97, 116, 97, 58, 32] })) 22 9 rfl Bs 5 i0 Try.underlying22 Try.underlying9 hi hz0 hz1 hz2 sv n xs rfl hown HF.out DA rfl (by decide) ?_ ?_ ?_)
  · rw [size_DA]; unfold maxLen; omega
  · rw [size_DA]; omega
  intro v1 W1 hown1 hgrow1
  have hb1 : Below w.heap.size w W1 := (Below.refl _ _).grown hgrow1 (Nat.le_refl _) (fun k h => by cases h)
  have hs1 := hb1.size
  rw [size_DA] at hown1
  have HD1 : Hid (W1.ownsRow Bd 5 1 (.slice da m m) m ys) := owns_keep HD.out hb1
  clear hown hgrow1 HD
  go_wp2_with (at_builtin; refine wpList_append_own_row _ rfl (.tmp 16) (.tmp 17) 22 rfl w.heap.size 5 i0 (.int .u8 0) 1 Try.underlying22 hi hz0 hz1 hz2 rfl v1 (n + 6) _ rfl hown1 Bd da m m ys rfl HD1.out hone (by unfold maxLen; omega) (by omega) hs1 ?_)
  intro v2 W2 hown2 hgrow2
  have hb2 : Below w.heap.size w W2 := below_of_grown hb1 hs1 hown1 hgrow2
  have hs2 := hb2.size
  clear hown1 hgrow2 hb1 hs1 HD1
  go_wp2_with (at_builtin; refine wpList_append_own_string _ rfl (.tmp 19) (.const (.string { data := #[10, 10] })) 22 9 rfl w.heap.size 5 i0 Try.underlying22 Try.underlying9 hi hz0 hz1 hz2 v2 (n + 6 + m) _ rfl hown2 NN rfl (by rw [size_NN]; unfold maxLen; omega) (by rw [size_NN]; omega) hs2 ?_)
  intro v3 W3 hown3 hgrow3 _
  have HB3 : Hid (Below w.heap.size w W3) := below_of_grown hb2 hs2 hown2 hgrow3
  have HO3 : Hid (W3.ownsRow w.heap.size 5 1 v3 (n + (evl et ys).length) (xs ++ evl et ys)) := by
    show W3.ownsRow _ _ _ _ _ _
    rw [HL.out, HE.out, show n + (m + 8) = n + 6 + m + NN.size by rw [size_NN]; omega]
    simpa only [List.append_assoc] using hown3
  clear hown2 hown3 hgrow3 hb2 hs2
  go_wp2
  go_ret
  exact ⟨_, rfl, HO3.out, HB3.out⟩

set_option maxHeartbeats 1000000 in
theorem event_full (Bs Bd : Nat) (sv : Value) (n : Nat) (xs : List Value) (et : ByteArray) (da : Option Addr) (m : Nat) (ys : List Value) (w : World) (hn : n ≤ 1048576) (hm : m ≤ 1048576) (hes : et.size ≤ 1048576) (he : et.toList.isEmpty = false)
    (hfull : Full sv n) (hown : w.ownsRow Bs 5 1 sv n xs) (hdat : w.ownsRow Bd 5 1 (.slice da m m) m ys) (hone : ∀ u ∈ ys, u.oneCell' = true) :
    Calls Try.prog 14 #[sv, .string et, .slice da m m] w fun e w' => ∃ v, e = .returned v ∧ w'.ownsRow w.heap.size 5 1 v (n + (evl et ys).length) (xs ++ evl et ys) ∧ Below w.heap.size w w' := by
  have hyl : ys.length = m := by simpa using hdat.1
  have HE : Hid (evl et ys = strCells EV ++ strCells et ++ [.int .u8 10] ++ strCells DA ++ ys ++ strCells NN) := evl_full he ys
  have HL : Hid ((evl et ys).length = m + et.size + 16) := by rw [← hyl]; exact len_full he ys
  have HF : Hid (Full sv n) := hfull
  have HD : Hid (w.ownsRow Bd 5 1 (.slice da m m) m ys) := hdat
  clear hfull hdat
  obtain ⟨i0, hi, hz0, hz1, hz2⟩ := info_parts info5
  go_enter Try.func14, Try.ntmps14
  go_wp2_with (at_builtin; refine wpList_append_full_string _ rfl (.tmp 9) (.const (.string { data := #[101, 118, 101, 110, 116, 58, 32] })) 22 9 rfl Bs 5 i0 Try.underlying22 Try.underlying9 hi hz0 hz1 hz2 sv n xs rfl hown HF.out EV rfl (by decide) (by rw [size_EV]; unfold maxLen; omega) (by rw [size_EV]; omega) ?_)
  intro v1 W1 hown1 hgrow1
  have hb1 : Below w.heap.size w W1 := (Below.refl _ _).grown hgrow1 (Nat.le_refl _) (fun k h => by cases h)
  have hs1 := hb1.size
  rw [size_EV] at hown1
  clear hown hgrow1
  go_wp2_with (at_builtin; refine wpList_append_own_string _ rfl (.tmp 10) (.tmp 11) 22 9 rfl w.heap.size 5 i0 Try.underlying22 Try.underlying9 hi hz0 hz1 hz2 v1 (n + 7) _ rfl hown1 et rfl (by unfold maxLen; omega) (by omega) hs1 ?_)
  intro v2 W2 hown2 hgrow2 _
  have hb2 : Below w.heap.size w W2 := below_of_grown hb1 hs1 hown1 hgrow2
  have hs2 := hb2.size
  clear hown1 hgrow2 hb1 hs1
  go_wp2_with (at_builtin; refine wpList_append_own _ rfl (.tmp 12) (.tmp 13) 22 rfl w.heap.size 5 i0 (.int .u8 0) 1 1 Try.underlying22 hi hz0 hz1 hz2 rfl (by decide) v2 (n + 7 + et.size) _ rfl (hown2.alloc _) ⟨W2.heap.size, 0, none⟩ 1 1 [.int .u8 10] rfl rfl (cell_one_new _ _ _) (by intro u hu; simp at hu; subst hu; rfl) (by unfold maxLen; omega) (by omega) (by simp; omega) ?_)
  intro v3 W3 hown3 hgrow3 _
  have hb3 : Below w.heap.size w W3 := (hb2.alloc hs2 _).grown hgrow3 (by simp; omega) (fun q hq => (hown2.lt q hq).1)
  have hs3 := hb3.size
  clear hown2 hgrow3 hb2 hs2
  go_wp2_with (at_builtin; refine wpList_append_own_string _ rfl (.tmp 15) (.const (.string { data := #[100, 97, 116, 97, 58, 32] })) 22 9 rfl w.heap.size 5 i0 Try.underlying22 Try.underlying9 hi hz0 hz1 hz2 v3 (n + 7 + et.size + 1) _ rfl hown3 DA rfl (by rw [size_DA]; unfold maxLen; omega) (by rw [size_DA]; omega) hs3 ?_)
  intro v4 W4 hown4 hgrow4 _
  have hb4 : Below w.heap.size w W4 := below_of_grown hb3 hs3 hown3 hgrow4
  have hs4 := hb4.size
  rw [size_DA] at hown4
  have HD1 : Hid (W4.ownsRow Bd 5 1 (.slice da m m) m ys) := owns_keep HD.out hb4
  clear hown3 hgrow4 hb3 hs3 HD
  go_wp2_with (at_builtin; refine wpList_append_own_row _ rfl (.tmp 16) (.tmp 17) 22 rfl w.heap.size 5 i0 (.int .u8 0) 1 Try.underlying22 hi hz0 hz1 hz2 rfl v4 (n + 7 + et.size + 1 + 6) _ rfl hown4 Bd da m m ys rfl HD1.out hone (by unfold maxLen; omega) (by omega) hs4 ?_)
  intro v5 W5 hown5 hgrow5
  have hb5 : Below w.heap.size w W5 := below_of_grown hb4 hs4 hown4 hgrow5
  have hs5 := hb5.size
  clear hown4 hgrow5 hb4 hs4 HD1
  go_wp2_with (at_builtin; refine wpList_append_own_string _ rfl (.tmp 19) (.const (.string { data := #[10, 10] })) 22 9 rfl w.heap.size 5 i0 Try.underlying22 Try.underlying9 hi hz0 hz1 hz2 v5 (n + 7 + et.size + 1 + 6 + m) _ rfl hown5 NN rfl (by rw [size_NN]; unfold maxLen; omega) (by rw [size_NN]; omega) hs5 ?_)
  intro v6 W6 hown6 hgrow6 _
  have HB6 : Hid (Below w.heap.size w W6) := below_of_grown hb5 hs5 hown5 hgrow6
  have HO6 : Hid (W6.ownsRow w.heap.size 5 1 v6 (n + (evl et ys).length) (xs ++ evl et ys)) := by
    show W6.ownsRow _ _ _ _ _ _
    rw [HL.out, HE.out, show n + (m + et.size + 16) = n + 7 + et.size + 1 + 6 + m + NN.size by rw [size_NN]; omega]
    simpa only [List.append_assoc, List.cons_append, List.nil_append] using hown6
  clear hown5 hown6 hgrow6 hb5 hs5
  go_wp2
  go_ret
  exact ⟨_, rfl, HO6.out, HB6.out⟩

theorem event_any (Bs Bd : Nat) (sv : Value) (n : Nat) (xs : List Value) (et : ByteArray) (da : Option Addr) (m : Nat) (ys : List Value) (w : World) (hn : n ≤ 1048576) (hm : m ≤ 1048576) (hes : et.size ≤ 1048576)
    (hfull : Full sv n) (hown : w.ownsRow Bs 5 1 sv n xs) (hdat : w.ownsRow Bd 5 1 (.slice da m m) m ys) (hone : ∀ u ∈ ys, u.oneCell' = true) :
    Calls Try.prog 14 #[sv, .string et, .slice da m m] w fun e w' => ∃ v, e = .returned v ∧ w'.ownsRow w.heap.size 5 1 v (n + (evl et ys).length) (xs ++ evl et ys) ∧ Below w.heap.size w w' := by
  cases he : et.toList.isEmpty
  · exact event_full Bs Bd sv n xs et da m ys w hn hm hes he hfull hown hdat hone
  · exact event_empty Bs Bd sv n xs et da m ys w hn hm he hfull hown hdat hone

end Go.Proofs.Qxb6605680a.fnAppendEventExtendsStream
