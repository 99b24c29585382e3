import Derived.Test.Qxb6605680aEvent
namespace Go.Proofs.Qxb6605680a.fnAppendEventExtendsStream
open Go.ChangeShapes Go.WideShapes Go.ChangeAt Go.RowKit Go.Lib
set_option linter.unusedVariables false

/-- WHAT THE WALK IS TOLD OF A SLICE OF INTEGERS THAT CAME IN: it is nil; or it leads to a row of 'cap' cells, the numbers 'zs' (the first 'len' are its elements, the rest its spare room), each fitting its kind. -/
def IsRow (k : IntKind) (w : World) (a : Option Addr) (len cap : Nat) (zs : List Int) : Prop :=
  (a = none ∧ len = 0 ∧ cap = 0 ∧ zs = []) ∨
  ∃ x, a = some x ∧ len ≤ cap ∧ cap ≤ maxLen ∧ zs.length = cap ∧ (∀ i, i < zs.length → w.cell? (x.add i) = some (.int k (zs.getD i 0))) ∧ ∀ n ∈ zs, (Lit.int k n).wf = true

/-- The elements as cells. -/
def cellsOf (zs : List Int) (len : Nat) : List Value := (zs.take len).map (Value.int .u8)

def AllInts (l : List Value) : Prop := ∀ u ∈ l, ∃ z, u = .int .u8 z

theorem ints_one {l : List Value} (h : AllInts l) : ∀ u ∈ l, u.oneCell' = true := by
  intro u hu
  obtain ⟨z, rfl⟩ := h u hu
  rfl
theorem ints_cellsOf (zs : List Int) (len : Nat) : AllInts (cellsOf zs len) := by
  intro u hu
  obtain ⟨z, _, rfl⟩ := List.mem_map.1 hu
  exact ⟨z, rfl⟩
theorem ints_str (s : ByteArray) : AllInts (strCells s) := by
  intro u hu
  obtain ⟨b, _, rfl⟩ := List.mem_map.1 hu
  exact ⟨_, rfl⟩
theorem ints_app {a b : List Value} (ha : AllInts a) (hb : AllInts b) : AllInts (a ++ b) := by
  intro u hu
  rcases List.mem_append.1 hu with h | h
  · exact ha u h
  · exact hb u h
theorem ints_evl (et : ByteArray) {ys : List Value} (h : AllInts ys) : AllInts (evl et ys) := by
  unfold evl
  split
  · exact ints_app (ints_app (ints_str _) h) (ints_str _)
  · exact ints_app (ints_app (ints_app (ints_app (ints_app (ints_str _) (ints_str _)) (fun u hu => ⟨10, by simpa using hu⟩)) (ints_str _)) h) (ints_str _)

theorem len_cellsOf {zs : List Int} {len cap : Nat} (h : zs.length = cap) (hl : len ≤ cap) : (cellsOf zs len).length = len := by
  unfold cellsOf; simp; omega

theorem row_cells {w : World} {x : Addr} {zs : List Int} {len : Nat} (h : ∀ i, i < zs.length → w.cell? (x.add i) = some (.int .u8 (zs.getD i 0))) : ∀ j u, (cellsOf zs len)[j]? = some u → w.cell? (x.add j) = some u := by
  intro j u hu
  unfold cellsOf at hu
  rw [List.getElem?_map, List.getElem?_take] at hu
  split at hu
  · cases hz : zs[j]? with
    | none => rw [hz] at hu; cases hu
    | some z =>
      rw [hz] at hu
      have hj : j < zs.length := (List.getElem?_eq_some_iff.1 hz).1
      rw [h j hj, List.getD_eq_getElem?_getD, hz]
      simpa using hu
  · cases hu

/-- The clone of a slice that came in, nil or not. -/
theorem clone_any (a : Option Addr) (len cap : Nat) (zs : List Int) (w : World) (hr : IsRow .u8 w a len cap zs) (hlen : len ≤ 1048576) :
    Calls Try.prog 7 #[.slice a len cap] w fun e w' => ∃ a', e = .returned (.slice a' len len) ∧ w'.ownsRow w.heap.size 5 1 (.slice a' len len) len (cellsOf zs len) ∧ Below w.heap.size w w' := by
  rcases hr with ⟨rfl, rfl, rfl, rfl⟩ | ⟨x, rfl, hlc, hcm, hz, hcell, _⟩
  · refine (clone_nil w).mono ?_
    rintro e w' ⟨rfl, rfl⟩
    exact ⟨none, rfl, World.ownsRow_nil _ _ _ _, Below.refl _ _⟩
  · refine (clone_some x len cap (cellsOf zs len) w hlen hlc (len_cellsOf hz hlc) (row_cells hcell) (ints_one (ints_cellsOf _ _))).mono ?_
    rintro e w' ⟨rfl, h1, h2⟩
    exact ⟨_, rfl, h1, h2⟩

theorem clone_row (x : Addr) (len cap : Nat) (zs : List Int) (w : World) (hr : IsRow .u8 w (some x) len cap zs) (hlen : len ≤ 1048576) :
    Calls Try.prog 7 #[.slice (some x) len cap] w fun e w' => e = .returned (.slice (some ⟨w.heap.size, 0, none⟩) len len) ∧ w'.ownsRow w.heap.size 5 1 (.slice (some ⟨w.heap.size, 0, none⟩) len len) len (cellsOf zs len) ∧ Below w.heap.size w w' := by
  rcases hr with ⟨h, _⟩ | ⟨y, hy, hlc, hcm, hz, hcell, _⟩
  · cases h
  · cases hy
    exact clone_some x len cap (cellsOf zs len) w hlen hlc (len_cellsOf hz hlc) (row_cells hcell) (ints_one (ints_cellsOf _ _))

theorem isRow_keep {w w' : World} {a : Option Addr} {len cap : Nat} {zs : List Int} (h : IsRow .u8 w a len cap zs) (hb : Below w.heap.size w w') : IsRow .u8 w' a len cap zs := by
  rcases h with h | ⟨x, h1, h2, h3, h4, h5, h6⟩
  · exact .inl h
  · refine .inr ⟨x, h1, h2, h3, h4, fun i hi => ?_, h6⟩
    rw [hb.cell (World.block_lt_of_cell? w _ (h5 i hi))]
    exact h5 i hi

theorem full_of {w : World} {B : Nat} {a : Option Addr} {n : Nat} {xs : List Value} (h : w.ownsRow B 5 1 (.slice a n n) n xs) : Full (.slice a n n) n := by
  rcases h.2 with ⟨hv, h0⟩ | ⟨g, cap, cur, hv, _⟩
  · exact .inl ⟨hv, h0⟩
  · simp only [Value.slice.injEq] at hv
    obtain ⟨rfl, _, _⟩ := hv
    exact .inr ⟨g, rfl⟩

theorem owns_slice {w : World} {B : Nat} {v : Value} {n : Nat} {xs : List Value} (h : w.ownsRow B 5 1 v n xs) (hn : 0 < n) : ∃ g cap, v = .slice (some ⟨g, 0, none⟩) n cap := by
  rcases h.2 with ⟨_, h0⟩ | ⟨g, cap, cur, hv, _⟩
  · omega
  · exact ⟨g, cap, hv⟩

/-- Two rows that agree at a place: both cells hold one number. -/
theorem both_at {w : World} {B1 B2 g1 g2 n1 n2 c1 c2 : Nat} {xs1 xs2 : List Value} (h1 : w.ownsRow B1 5 1 (.slice (some ⟨g1, 0, none⟩) n1 c1) n1 xs1) (h2 : w.ownsRow B2 5 1 (.slice (some ⟨g2, 0, none⟩) n2 c2) n2 xs2)
    (i j : Nat) (hi : i < n1) (hj : j < n2) (he : xs1[i]? = xs2[j]?) (hA : AllInts xs2) : ∃ z, w.cell? ⟨g1, i, none⟩ = some (.int .u8 z) ∧ w.cell? ⟨g2, j, none⟩ = some (.int .u8 z) := by
  have hl : xs2.length = n2 := by have := h2.1; simpa using this
  rw [h1.cellAt i (by omega), h2.cellAt j (by omega), he]
  have hx : j < xs2.length := by omega
  obtain ⟨z, hz⟩ := hA xs2[j] (List.getElem_mem hx)
  exact ⟨z, by simp [hx, hz], by simp [hx, hz]⟩

theorem evl_ends (et : ByteArray) (ys : List Value) : ∃ D, evl et ys = D ++ [.int .u8 10, .int .u8 10] := by
  have h : strCells NN = [.int .u8 10, .int .u8 10] := by kernel_rfl
  unfold evl
  split
  · exact ⟨_, by rw [h]⟩
  · exact ⟨_, by rw [h]⟩

theorem ends_at {w : World} {B g n c : Nat} {xs D : List Value} (h : w.ownsRow B 5 1 (.slice (some ⟨g, 0, none⟩) n c) n xs) (hx : xs = D ++ [.int .u8 10, .int .u8 10]) :
    ∀ j, n = j + 1 ∨ n = j + 2 → w.cell? ⟨g, j, none⟩ = some (.int .u8 10) := by
  intro j hj
  have hl : xs.length = n := by have := h.1; simpa using this
  rw [hx] at hl
  simp at hl
  rw [h.cellAt j (by omega), hx, List.getElem?_append_right (by omega)]
  rcases hj with hj | hj
  · rw [show j - D.length = 1 by omega]; rfl
  · rw [show j - D.length = 0 by omega]; rfl

set_option maxHeartbeats 400000 in
theorem sized (x0 : Option Addr) (l0 c0 : Nat) (a1 : ByteArray) (x2 : Option Addr) (l2 c2 : Nat) (w : World) (h0 : l0 ≤ maxLen) (h1 : a1.size ≤ maxLen) (h2 : l2 ≤ maxLen) :
    Calls Try.prog 15 #[.slice x0 l0 c0, .string a1, .slice x2 l2 c2] w fun e w' => ∃ b : Bool, e = .returned (.bool b) ∧ w = w' := by
  unfold maxLen at h0 h1 h2
  go_enter Try.func15, Try.ntmps15
  go_wp2
  all_goals
    go_ret
    exact ⟨_, rfl, rfl⟩

end Go.Proofs.Qxb6605680a.fnAppendEventExtendsStream
