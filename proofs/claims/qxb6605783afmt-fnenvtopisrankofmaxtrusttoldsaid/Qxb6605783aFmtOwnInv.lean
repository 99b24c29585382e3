/-
  The invariant of newEnv's map literal, and that each of its twenty operations keeps it.
-/
import Derived.Test.Qxb6605783aFmtOwn
namespace Go.Proofs.Qxb6605783aFmt.Env
open Go.ChangeShapes Go.WideShapes Go.ChangeAt Go.RowKit Go.Maps Go.WideMaps
set_option linter.unusedVariables false

theorem law9 : Keyed Tryf.prog 9 := string_keyed Tryf.underlying9

def KM : Lit := .string MAXT.data.toList

/-- What the sure operations leave: (number, slot, value). -/
def tab (VV RV : Value) (b off n : Nat) (s0 sl : ByteArray) : List (Nat × Nat × Value) := [
  (1, 76, VV), (2, 77, .pointer (some ⟨b, off, none⟩)), (3, 78, .string s0), (5, 79, VV), (6, 80, VV), (7, 81, .int .i64 n), (8, 82, .int .i64 ((n : Int) - 1)), (9, 83, .pointer (some ⟨b, off + (n - 1), none⟩)), (10, 84, .string sl), (12, 85, VV), (15, 87, RV)]

/-- How many entries have been laid. -/
def cnt (L : Nat → Bool) : Nat := (L 4).toNat + (L 11).toNat + (L 14).toNat + (L 17).toNat

/-- What is given: the frame and the world at the region's start, the values, the requesters. -/
structure Given where
  a0 : Act
  W : World
  b : Nat
  off : Nat
  n : Nat
  cap : Nat
  vs : List ByteArray
  ar : Option Addr
  nr : Nat
  capr : Nat
  rs : List ByteArray

def Given.VV (g : Given) : Value := .slice (some ⟨g.b, g.off, none⟩) g.n g.cap
def Given.RV (g : Given) : Value := .slice g.ar g.nr g.capr
def Given.s0 (g : Given) : ByteArray := g.vs.getD 0 ByteArray.empty
def Given.sl (g : Given) : ByteArray := g.vs.getD (g.n - 1) ByteArray.empty
def Given.tab (g : Given) : List (Nat × Nat × Value) := Env.tab g.VV g.RV g.b g.off g.n g.s0 g.sl

structure Given.Ok (g : Given) : Prop where
  size : g.a0.tmps.size = 96
  h2 : g.a0.eval (.tmp 2) = g.VV
  h0 : g.a0.eval (.tmp 0) = g.RV
  pos : 0 < g.n
  small : g.n ≤ 65536
  capn : g.n ≤ g.cap
  hb : g.b < g.W.heap.size
  vals : Strs g.W (some ⟨g.b, g.off, none⟩) g.n g.vs
  cells : ∀ j, j < g.n → g.W.cell? ⟨g.b, g.off + j, none⟩ = some (.string (g.vs.getD j ByteArray.empty))
  totv : tot g.vs ≤ 4194304
  smallr : g.nr ≤ 65536
  capr' : g.nr ≤ g.capr
  reqs : Strs g.W g.ar g.nr g.rs
  totr : tot g.rs ≤ 4194304

/-- The map's part. -/
def MapPart (g : Given) (L : Nat → Bool) (a : Act) (w : World) : Prop :=
  ∃ (B n : Nat) (D : DataW Unit), a.eval (.tmp 75) = .map (some B) ∧ g.W.heap.size ≤ B ∧ w.ownsMap Tryf.prog 9 (plainElem (H := Unit) Tryf.prog 9) B n D ∧ n ≤ cnt L ∧ IsMap D ∧ (L 11 = true → ∀ z, D.atKey KM z = .lit (.string g.sl.data.toList)) ∧
    (L 18 = true → a.eval (.tmp 89) = .map (some B)) ∧ (L 19 = true → a.eval (.tmp 17) = .map (some B))

def upd (L : Nat → Bool) (i : Nat) : Nat → Bool := fun j => j == i || L j
theorem upd_ne {L : Nat → Bool} {i j : Nat} (h : j ≠ i) : upd L i j = L j := by simp [upd, h]
theorem upd_same (L : Nat → Bool) (i : Nat) : upd L i i = true := by simp [upd]

/-- These three come behind the making of the map. -/
def Last (L : Nat → Bool) : Prop := ∀ k, k = 11 ∨ k = 18 ∨ k = 19 → L k = true → L 0 = true

theorem last_upd {L : Nat → Bool} {i : Nat} (h : Last L) (hi : i = 0 ∨ L 0 = true ∨ (i ≠ 11 ∧ i ≠ 18 ∧ i ≠ 19)) : Last (upd L i) := by
  intro k hk hl
  rcases hi with rfl | h0 | h3
  · exact upd_same _ _
  · simp [upd, h0]
  · rw [upd_ne (by omega)] at hl
    have := h k hk hl
    simp [upd, this]

structure Inv (g : Given) (L : Nat → Bool) (a : Act) (w : World) : Prop where
  defers : a.defers = g.a0.defers
  size : a.tmps.size = 96
  rest : ∀ t, t ≠ 17 → t < 75 ∨ 89 < t → a.tmps[t]? = g.a0.tmps[t]?
  sure : ∀ p ∈ g.tab, L p.1 = true → a.eval (.tmp p.2.1) = p.2.2
  j13 : L 13 = true → ∃ s : ByteArray, a.eval (.tmp 86) = .string s ∧ s.size ≤ maxLen
  j16 : L 16 = true → ∃ s : ByteArray, a.eval (.tmp 88) = .string s ∧ s.size ≤ maxLen
  made : L 0 = true → MapPart g L a w
  last : Last L
  bel : Below g.W.heap.size g.W w

theorem size_put (a : Act) (d : Nat) (v : Value) : (a.put (some d) v).tmps.size = a.tmps.size := by simp [Act.put]
theorem tmps_put (a : Act) (d t : Nat) (v : Value) (h : t ≠ d) : (a.put (some d) v).tmps[t]? = a.tmps[t]? := by
  simp [Act.put, Array.getElem?_setIfInBounds_ne (Ne.symm h)]

theorem cnt_upd_ne {L : Nat → Bool} {i : Nat} (h4 : i ≠ 4) (h11 : i ≠ 11) (h14 : i ≠ 14) (h17 : i ≠ 17) : cnt (upd L i) = cnt L := by
  unfold cnt
  rw [upd_ne (Ne.symm h4), upd_ne (Ne.symm h11), upd_ne (Ne.symm h14), upd_ne (Ne.symm h17)]

/-- The map's part is kept where another slot is written, and no entry laid. -/
theorem MapPart.put {g : Given} {L : Nat → Bool} {a : Act} {w w' : World} (h : MapPart g L a w) {i : Nat} {d : Nat} (v : Value) (hi : i ≠ 0 ∧ i ≠ 4 ∧ i ≠ 11 ∧ i ≠ 14 ∧ i ≠ 17 ∧ i ≠ 18 ∧ i ≠ 19) (hd : d ≠ 75 ∧ d ≠ 89 ∧ d ≠ 17)
    (hk : ∀ B, g.W.heap.size ≤ B → ∀ n D, w.ownsMap Tryf.prog 9 (plainElem (H := Unit) Tryf.prog 9) B n D → w'.ownsMap Tryf.prog 9 (plainElem (H := Unit) Tryf.prog 9) B n D) : MapPart g (upd L i) (a.put (some d) v) w' := by
  obtain ⟨B, n, D, h1, h2, h3, h4, h5, h6, h7, h8⟩ := h
  obtain ⟨i0, i4, i11, i14, i17, i18, i19⟩ := hi
  obtain ⟨d1, d2, d3⟩ := hd
  refine ⟨B, n, D, by rw [eval_other _ _ _ _ (Ne.symm d1)]; exact h1, h2, hk B h2 n D h3, by rw [cnt_upd_ne i4 i11 i14 i17]; exact h4, h5, ?_, ?_, ?_⟩
  · rw [upd_ne (Ne.symm i11)]; exact h6
  · rw [upd_ne (Ne.symm i18), eval_other _ _ _ _ (Ne.symm d2)]; exact h7
  · rw [upd_ne (Ne.symm i19), eval_other _ _ _ _ (Ne.symm d3)]; exact h8

/-- A SURE OPERATION: its slot and value are the table's. -/
theorem Inv.sureStep {g : Given} {L : Nat → Bool} {a : Act} {w : World} (h : Inv g L a w) {i d : Nat} {v : Value} (hp : (i, d, v) ∈ g.tab) (hd : 75 < d ∧ d < 89 ∧ d ≠ 86 ∧ d ≠ 88)
    (hi : i ≠ 0 ∧ i ≠ 4 ∧ i ≠ 11 ∧ i ≠ 14 ∧ i ≠ 17 ∧ i ≠ 18 ∧ i ≠ 19 ∧ i ≠ 13 ∧ i ≠ 16) (hu : ∀ p ∈ g.tab, (p.1 = i → p.2 = (d, v)) ∧ (p.1 ≠ i → p.2.1 ≠ d)) : Inv g (upd L i) (a.put (some d) v) w := by
  obtain ⟨i0, i4, i11, i14, i17, i18, i19, i13, i16⟩ := hi
  refine ⟨h.defers, by rw [size_put]; exact h.size, fun t ht1 ht2 => ?_, fun p hpm hl => ?_, ?_, ?_, ?_, ?_, h.bel⟩
  · rw [tmps_put _ _ _ _ (by omega)]; exact h.rest t ht1 ht2
  · by_cases hpi : p.1 = i
    · rw [(hu p hpm).1 hpi]
      exact eval_same _ _ _ (by rw [h.size]; omega)
    · rw [eval_other _ _ _ _ ((hu p hpm).2 hpi)]
      rw [upd_ne hpi] at hl
      exact h.sure p hpm hl
  · rw [upd_ne (Ne.symm i13), eval_other _ _ _ _ (by omega)]; exact h.j13
  · rw [upd_ne (Ne.symm i16), eval_other _ _ _ _ (by omega)]; exact h.j16
  · rw [upd_ne (Ne.symm i0)]
    exact fun h0 => (h.made h0).put v ⟨i0, i4, i11, i14, i17, i18, i19⟩ ⟨by omega, by omega, by omega⟩ (fun _ _ _ _ x => x)
  · exact last_upd h.last (.inr (.inr ⟨i11, i18, i19⟩))

theorem tab_at {g : Given} {k d : Nat} {v : Value} {L : Nat → Bool} {a : Act} {w : World} (h : Inv g L a w) (hp : (k, d, v) ∈ g.tab) (hl : L k = true) : a.eval (.tmp d) = v := h.sure _ hp hl

/-- THE MAP IS MADE. -/
theorem Inv.makeStep {g : Given} {L : Nat → Bool} {a : Act} {w : World} (h : Inv g L a w) (h0 : L 0 = false) :
    Inv g (upd L 0) (a.put (some 75) (.map (some w.heap.size))) (w.alloc (.map #[] 0)) := by
  have hs := h.bel.size
  have n11 : L 11 = false := by cases e : L 11 with
    | false => rfl
    | true => rw [h.last 11 (by decide) e] at h0; cases h0
  have n18 : L 18 = false := by cases e : L 18 with
    | false => rfl
    | true => rw [h.last 18 (by decide) e] at h0; cases h0
  have n19 : L 19 = false := by cases e : L 19 with
    | false => rfl
    | true => rw [h.last 19 (by decide) e] at h0; cases h0
  have hut : ∀ p ∈ g.tab, p.1 ≠ 0 ∧ p.2.1 ≠ 75 := by simp [Given.tab, tab]
  refine ⟨h.defers, by rw [size_put]; exact h.size, fun t ht1 ht2 => ?_, fun p hpm hl => ?_, ?_, ?_, fun _ => ?_, ?_, h.bel.alloc hs _⟩
  · rw [tmps_put _ _ _ _ (by omega)]; exact h.rest t ht1 ht2
  · rw [eval_other _ _ _ _ (hut p hpm).2]
    rw [upd_ne (hut p hpm).1] at hl
    exact h.sure p hpm hl
  · rw [upd_ne (by decide), eval_other _ _ _ _ (by decide)]; exact h.j13
  · rw [upd_ne (by decide), eval_other _ _ _ _ (by decide)]; exact h.j16
  · refine ⟨w.heap.size, 0, .map [], eval_same _ _ _ (by rw [h.size]; decide), hs, World.ownsMap_made _ _ _ _, Nat.zero_le _, isMap_empty, ?_, ?_, ?_⟩
    · rw [upd_ne (by decide), n11]; intro e; cases e
    · rw [upd_ne (by decide), n18]; intro e; cases e
    · rw [upd_ne (by decide), n19]; intro e; cases e
  · exact last_upd h.last (.inl rfl)

/-- AN ENTRY IS LAID. -/
theorem Inv.entryStep {g : Given} {L : Nat → Bool} {a : Act} {w : World} (h : Inv g L a w) {i : Nat} (hLi : L i = false) (hi : i = 4 ∨ i = 11 ∨ i = 14 ∨ i = 17) (h0 : L 0 = true) (key : ByteArray) (hk : key.size ≤ maxLen) (s : ByteArray) (hs : s.size ≤ maxLen)
    (hmax : i = 11 → key = MAXT ∧ s = g.sl) (hoth : i ≠ 11 → (Lit.string key.data.toList) ≠ KM) :
    ∃ w', (Instr.mapUpdate 36 (a.eval (.tmp 75)) (.string key) (.string s)).run Tryf.prog w = .ok () w' ∧ Inv g (upd L i) a w' := by
  obtain ⟨B, n, D, h1, h2, h3, h4, h5, h6, h7, h8⟩ := h.made h0
  have hc : cnt (upd L i) = cnt L + 1 := by
    rcases hi with rfl | rfl | rfl | rfl <;> simp [cnt, upd, hLi] <;> omega
  have hcb : cnt L ≤ 4 := by
    unfold cnt
    have := Bool.toNat_le (L 4); have := Bool.toNat_le (L 11); have := Bool.toNat_le (L 14); have := Bool.toNat_le (L 17)
    omega
  obtain ⟨w', hrun, hown, hgrow⟩ := h3.update law9 Tryf.underlying36 (by unfold maxLen; omega) (keyOf_string_mk Tryf.underlying9 hk) (plainElem_string Tryf.underlying9 hs)
  refine ⟨w', by rw [h1]; exact hrun, h.defers, h.size, h.rest, fun p hpm hl => ?_, ?_, ?_, fun _ => ?_, ?_, h.bel.grown hgrow h.bel.size (fun k hk' => by cases hk'; exact h2)⟩
  · have hpi : p.1 ≠ i := by
      have : ∀ p ∈ g.tab, p.1 ≠ 4 ∧ p.1 ≠ 11 ∧ p.1 ≠ 14 ∧ p.1 ≠ 17 := by simp [Given.tab, tab]
      have := this p hpm
      omega
    rw [upd_ne hpi] at hl
    exact h.sure p hpm hl
  · rw [upd_ne (by omega)]; exact h.j13
  · rw [upd_ne (by omega)]; exact h.j16
  · refine ⟨B, n + 1, _, h1, h2, hown, by omega, h5.put _ _, fun hl z => ?_, ?_, ?_⟩
    · by_cases e : i = 11
      · obtain ⟨rfl, rfl⟩ := hmax e
        exact atKey_put_same h5 (by simp [WideAt.IsKeyLit]) _ _
      · rw [atKey_put_other (Ne.symm (hoth e))]
        rw [upd_ne (Ne.symm e)] at hl
        exact h6 hl z
    · rw [upd_ne (by omega)]; exact h7
    · rw [upd_ne (by omega)]; exact h8
  · exact last_upd h.last (.inr (.inl h0))

/-- A CALL OF Join HAS COME BACK. -/
theorem Inv.joinStep {g : Given} {L : Nat → Bool} {a : Act} {w w' : World} (h : Inv g L a w) {i d : Nat} (hi : (i = 13 ∧ d = 86) ∨ (i = 16 ∧ d = 88)) (s : ByteArray) (hs : s.size ≤ maxLen) (hb : Below w.heap.size w w') :
    Inv g (upd L i) (a.put (some d) (.string s)) w' := by
  have hut : ∀ p ∈ g.tab, p.1 ≠ 13 ∧ p.1 ≠ 16 ∧ p.2.1 ≠ 86 ∧ p.2.1 ≠ 88 := by simp [Given.tab, tab]
  refine ⟨h.defers, by rw [size_put]; exact h.size, fun t ht1 ht2 => ?_, fun p hpm hl => ?_, ?_, ?_, ?_, ?_, h.bel.trans (hb.mono h.bel.size)⟩
  · rw [tmps_put _ _ _ _ (by omega)]; exact h.rest t ht1 ht2
  · have := hut p hpm
    rw [eval_other _ _ _ _ (by omega)]
    rw [upd_ne (by omega)] at hl
    exact h.sure p hpm hl
  · rcases hi with ⟨rfl, rfl⟩ | ⟨rfl, rfl⟩
    · exact fun _ => ⟨s, eval_same _ _ _ (by rw [h.size]; decide), hs⟩
    · rw [upd_ne (by decide), eval_other _ _ _ _ (by decide)]; exact h.j13
  · rcases hi with ⟨rfl, rfl⟩ | ⟨rfl, rfl⟩
    · rw [upd_ne (by decide), eval_other _ _ _ _ (by decide)]; exact h.j16
    · exact fun _ => ⟨s, eval_same _ _ _ (by rw [h.size]; decide), hs⟩
  · rw [upd_ne (by omega)]
    exact fun h0 => (h.made h0).put _ (by omega) (by omega) (fun B _ n D x => x.kept (grown_of_below hb) (by simp))
  · exact last_upd h.last (.inr (.inr (by omega)))

/-- THE MAP IS HANDED ON. -/
theorem Inv.handStep {g : Given} {L : Nat → Bool} {a : Act} {w : World} (h : Inv g L a w) (h0 : L 0 = true) : Inv g (upd L 18) (a.put (some 89) (a.eval (.tmp 75))) w := by
  have hut : ∀ p ∈ g.tab, p.1 ≠ 18 ∧ p.2.1 ≠ 89 := by simp [Given.tab, tab]
  obtain ⟨B, n, D, h1, h2, h3, h4, h5, h6, h7, h8⟩ := h.made h0
  refine ⟨h.defers, by rw [size_put]; exact h.size, fun t ht1 ht2 => ?_, fun p hpm hl => ?_, ?_, ?_, fun _ => ?_, ?_, h.bel⟩
  · rw [tmps_put _ _ _ _ (by omega)]; exact h.rest t ht1 ht2
  · rw [eval_other _ _ _ _ (hut p hpm).2]
    rw [upd_ne (hut p hpm).1] at hl
    exact h.sure p hpm hl
  · rw [upd_ne (by decide), eval_other _ _ _ _ (by decide)]; exact h.j13
  · rw [upd_ne (by decide), eval_other _ _ _ _ (by decide)]; exact h.j16
  · refine ⟨B, n, D, by rw [eval_other _ _ _ _ (by decide)]; exact h1, h2, h3, by rw [cnt_upd_ne (by decide) (by decide) (by decide) (by decide)]; exact h4, h5, ?_, fun _ => ?_, ?_⟩
    · rw [upd_ne (by decide)]; exact h6
    · rw [eval_same _ _ _ (by rw [h.size]; decide)]; exact h1
    · rw [upd_ne (by decide), eval_other _ _ _ _ (by decide)]; exact h8
  · exact last_upd h.last (.inr (.inl h0))

theorem Inv.endStep {g : Given} {L : Nat → Bool} {a : Act} {w : World} (h : Inv g L a w) (h18 : L 18 = true) : Inv g (upd L 19) (a.put (some 17) (a.eval (.tmp 89))) w := by
  have hut : ∀ p ∈ g.tab, p.1 ≠ 19 ∧ p.2.1 ≠ 17 := by simp [Given.tab, tab]
  have h0 := h.last 18 (by decide) h18
  obtain ⟨B, n, D, h1, h2, h3, h4, h5, h6, h7, h8⟩ := h.made h0
  refine ⟨h.defers, by rw [size_put]; exact h.size, fun t ht1 ht2 => ?_, fun p hpm hl => ?_, ?_, ?_, fun _ => ?_, ?_, h.bel⟩
  · rw [tmps_put _ _ _ _ ht1]; exact h.rest t ht1 ht2
  · rw [eval_other _ _ _ _ (hut p hpm).2]
    rw [upd_ne (hut p hpm).1] at hl
    exact h.sure p hpm hl
  · rw [upd_ne (by decide), eval_other _ _ _ _ (by decide)]; exact h.j13
  · rw [upd_ne (by decide), eval_other _ _ _ _ (by decide)]; exact h.j16
  · refine ⟨B, n, D, by rw [eval_other _ _ _ _ (by decide)]; exact h1, h2, h3, by rw [cnt_upd_ne (by decide) (by decide) (by decide) (by decide)]; exact h4, h5, ?_, ?_, fun _ => ?_⟩
    · rw [upd_ne (by decide)]; exact h6
    · rw [upd_ne (by decide), eval_other _ _ _ _ (by decide)]; exact h7
    · rw [eval_same _ _ _ (by rw [h.size]; decide)]; exact h7 h18
  · exact last_upd h.last (.inr (.inl h0))

end Go.Proofs.Qxb6605783aFmt.Env
