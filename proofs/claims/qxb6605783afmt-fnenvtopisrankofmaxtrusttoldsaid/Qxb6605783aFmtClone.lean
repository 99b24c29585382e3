import Derived.Test.Qxb6605783aFmtSized
namespace Go.Proofs.Qxb6605783aFmt.Env
open Go.ChangeShapes Go.WideShapes Go.ChangeAt Go.RowKit
set_option linter.unusedVariables false

theorem info9 : (Tryf.prog.info? 9).map (fun i => (i.zero, i.size, i.bytes)) = some (some (.string ⟨#[]⟩), 1, 16) := by kernel_rfl

/-- Behind k rounds: the first k texts, and the rest empty. -/
def cur (ss : List ByteArray) (n k : Nat) : List Value := (ss.take k).map Value.string ++ List.replicate (n - k) (Value.string ⟨#[]⟩)

theorem cur_zero (ss : List ByteArray) (n : Nat) : cur ss n 0 = List.replicate n (Value.string ⟨#[]⟩) := by simp [cur]
theorem cur_end (ss : List ByteArray) (n : Nat) (h : ss.length = n) : cur ss n n = ss.map Value.string := by
  unfold cur
  rw [Nat.sub_self, List.take_of_length_le (by omega)]
  simp
theorem cur_len (ss : List ByteArray) (n k : Nat) (h : ss.length = n) (hk : k ≤ n) : (cur ss n k).length = n := by
  simp [cur]; omega
theorem cur_step (ss : List ByteArray) (n k : Nat) (h : ss.length = n) (hk : k < n) : (cur ss n k).set k (.string (ss.getD k ByteArray.empty)) = cur ss n (k + 1) := by
  unfold cur
  have hl : ((ss.take k).map Value.string).length = k := by simp; omega
  rw [List.set_append_right _ _ (by omega), hl, Nat.sub_self, take_snoc ss k (by omega), show n - k = (n - (k + 1)) + 1 by omega, List.replicate_succ]
  simp

theorem below_setCell {B : Nat} {w W : World} (h : Below B w W) {g j : Nat} (hg : B ≤ g) (u : Value) : Below B w (W.setCell ⟨g, j, none⟩ u) := h.setCell (p := ⟨g, j, none⟩) hg u

set_option maxHeartbeats 400000 in
theorem clone_nil (n cap : Nat) (w : World) :
    Calls Tryf.prog 7 #[.slice none n cap] w fun e w' => e = .returned (.slice none 0 0) ∧ w = w' := by
  have q22 : ∀ (w : World) (a : Option Addr) (n c n' c' : Nat), (binOp .eql 22 (.slice a n c) (.slice none n' c')).run Tryf.prog w = .ok (.bool a.isNone) w := fun w a n c n' c' => Lib.run_eql_slice_nil w _ _ a n c n' c' Tryf.underlying22
  go_enter Tryf.func7, Tryf.ntmps7
  go_wp2
  go_ret
  exact ⟨rfl, rfl⟩

set_option maxHeartbeats 1000000 in
theorem clone_some (x : Addr) (n cap : Nat) (ss : List ByteArray) (w : World) (hn : n ≤ 65536) (hs : Strs w (some x) n ss) :
    Calls Tryf.prog 7 #[.slice (some x) n cap] w fun e w' => e = .returned (.slice (some ⟨w.heap.size, 0, none⟩) n n) ∧ w'.ownsRow w.heap.size 9 1 (.slice (some ⟨w.heap.size, 0, none⟩) n n) n (ss.map Value.string) ∧ Below w.heap.size w w' := by
  have q22 : ∀ (w : World) (a : Option Addr) (n c n' c' : Nat), (binOp .eql 22 (.slice a n c) (.slice none n' c')).run Tryf.prog w = .ok (.bool a.isNone) w := fun w a n c n' c' => Lib.run_eql_slice_nil w _ _ a n c n' c' Tryf.underlying22
  obtain ⟨i0, hi, hz0, hz1, hz2⟩ := info_parts info9
  have HS : Hid (Strs w (some x) n ss) := hs
  clear hs
  go_enter Tryf.func7, Tryf.ntmps7
  go_wp2_with (at_make; refine wpList_make_full _ rfl (.tmp 8) (.tmp 8) 22 rfl w.heap.size 9 i0 (.string ⟨#[]⟩) 1 Tryf.underlying22 hi hz0 hz1 _ _ _ _ n rfl rfl rfl rfl (by rw [hz2]; omega) (by unfold maxLen; omega) (Nat.le_refl _) ?_)
  intro w1 hown1 hgrow1
  have hb1 : Below w.heap.size w w1 := (Below.refl _ _).grown hgrow1 (Nat.le_refl _) (fun k h => by cases h)
  have HO : Hid (w1.ownsRow w.heap.size 9 1 (.slice (some ⟨w.heap.size, 0, none⟩) n n) n (cur ss n 0)) := by
    show w1.ownsRow _ _ _ _ _ _
    rw [cur_zero]
    rw [← toList_madeCells_one]; exact hown1
  have HB1 : Hid (Below w.heap.size w w1) := hb1
  clear hown1 hgrow1 hb1 q22
  go_wp2
  go_loopw [4] (fun i wr => ∃ k : Nat, k ≤ n ∧ i = .int .i64 k ∧ Hid (wr.ownsRow w.heap.size 9 1 (.slice (some ⟨w.heap.size, 0, none⟩) n n) n (cur ss n k)) ∧ Hid (Below w.heap.size w wr)) (fun i _ => n - (intOf i).toNat)
  case atStart => exact ⟨0, Nat.zero_le _, rfl, HO, HB1⟩
  case round =>
    obtain ⟨k, hk, rfl, HOk, HBk⟩ := hrel
    by_cases hlt : k < n
    · obtain ⟨b, off, s, hx, hb, hck, -, hsk⟩ := HS.out.at k hlt
      obtain rfl : x = ⟨b, off, none⟩ := Option.some.inj hx
      have hcr : wr.cell? ⟨b, off + k, none⟩ = some (.string s) := (HBk.out.cell (p := ⟨b, off + k, none⟩) hb).trans hck
      have hl := cur_len ss n k HS.out.1 (by omega)
      have hcell : ∃ u, wr.cell? ⟨w.heap.size, k, none⟩ = some u := by
        rw [HOk.out.cellAt k (by omega)]
        exact ⟨_, List.getElem?_eq_getElem (by omega)⟩
      obtain ⟨u, hu⟩ := hcell
      have hf := HOk.out.frozenAt k
      have HN : Hid ((wr.setCell ⟨w.heap.size, k, none⟩ (.string s)).ownsRow w.heap.size 9 1 (.slice (some ⟨w.heap.size, 0, none⟩) n n) n (cur ss n (k + 1))) := by
        show World.ownsRow _ _ _ _ _ _ _
        rw [← cur_step ss n k HS.out.1 hlt, ← hsk]
        exact (HOk.out.stored k _).1
      have HBn : Hid (Below w.heap.size w (wr.setCell ⟨w.heap.size, k, none⟩ (.string s))) := below_setCell HBk.out (Nat.le_refl _) _
      clear hx hsk hl hck
      go_wp2
      go_roundw
      case rel => exact ⟨k + 1, by omega, by go_num, HN, HBn⟩
      case measure => simp [intOf]; omega
    · have hkn : k = n := by omega
      have HE : Hid (wr.ownsRow w.heap.size 9 1 (.slice (some ⟨w.heap.size, 0, none⟩) n n) n (ss.map Value.string)) := by
        show World.ownsRow _ _ _ _ _ _ _
        rw [← cur_end ss n HS.out.1]
        have := HOk.out
        rw [hkn] at this
        exact this
      clear hkn
      go_wp2
      go_ret
      exact ⟨rfl, HE.out, HBk.out⟩

/-- A clone, whatever the slice. -/
theorem clone_any (a : Option Addr) (n cap : Nat) (ss : List ByteArray) (w : World) (hn : n ≤ 65536) (hs : Strs w a n ss) :
    Calls Tryf.prog 7 #[.slice a n cap] w fun e w' => ∃ a', e = .returned (.slice a' n n) ∧ w'.ownsRow w.heap.size 9 1 (.slice a' n n) n (ss.map Value.string) ∧ Below w.heap.size w w' := by
  cases a with
  | none =>
    have h0 : n = 0 := by
      obtain ⟨_, _, h0 | ⟨b, off, h, _⟩⟩ := hs
      · exact h0
      · cases h
    subst h0
    obtain rfl : ss = [] := List.eq_nil_of_length_eq_zero hs.1
    refine (clone_nil 0 cap w).mono ?_
    rintro e w' ⟨rfl, rfl⟩
    exact ⟨none, rfl, World.ownsRow_nil _ _ _ _, Below.refl _ _⟩
  | some x =>
    refine (clone_some x n cap ss w hn hs).mono ?_
    rintro e w' ⟨rfl, h1, h2⟩
    exact ⟨_, rfl, h1, h2⟩

theorem grown_of_below {w w' : World} (h : Below w.heap.size w w') : w.grownBy w' none := ⟨h.os, h.tape, h.output, h.size, fun k hk _ => h.block k hk⟩
theorem owns_keep {w w' : World} {B : Nat} {v : Value} {n : Nat} {xs : List Value} (h : w.ownsRow B 9 1 v n xs) (hb : Below w.heap.size w w') : w'.ownsRow B 9 1 v n xs :=
  h.kept (grown_of_below hb) (by cases v.ownBlock <;> simp)

/-- What is owned can be read. -/
theorem strs_of_owns {w : World} {B : Nat} {a : Option Addr} {n cap : Nat} {ss : List ByteArray} (h : w.ownsRow B 9 1 (.slice a n cap) n (ss.map Value.string)) (hz : ∀ s ∈ ss, s.size ≤ maxLen) : Strs w a n ss := by
  have hl : ss.length = n := by have := h.1; simpa using this
  refine ⟨hl, hz, ?_⟩
  rcases h.2 with ⟨hv, h0⟩ | ⟨g, cap', cur, hv, _, hg, _⟩
  · exact .inl h0
  · simp only [Value.slice.injEq] at hv
    obtain ⟨rfl, _, rfl⟩ := hv
    refine .inr ⟨g, 0, rfl, (Array.getElem?_eq_some_iff.1 hg).1, fun j hj => ?_⟩
    rw [Nat.zero_add, h.cellAt j (by omega), List.getElem?_map, List.getD_eq_getElem?_getD, List.getElem?_eq_getElem (by omega)]
    rfl

theorem Strs.keep {w w' : World} {a : Option Addr} {n : Nat} {ss : List ByteArray} (h : Strs w a n ss) (hb : Below w.heap.size w w') : Strs w' a n ss := by
  obtain ⟨h1, h2, h3⟩ := h
  refine ⟨h1, h2, ?_⟩
  rcases h3 with h0 | ⟨b, off, rfl, hlt, hc⟩
  · exact .inl h0
  · exact .inr ⟨b, off, rfl, Nat.lt_of_lt_of_le hlt hb.size, fun j hj => (hb.cell (p := ⟨b, off + j, none⟩) hlt).trans (hc j hj)⟩

end Go.Proofs.Qxb6605783aFmt.Env
