/-
  THE MAP LITERAL's REGION: on every order.
-/
import Derived.Test.Qxb6605783aFmtOwnInv
namespace Go.Proofs.Qxb6605783aFmt.Env
open Go.ChangeShapes Go.WideShapes Go.ChangeAt Go.RowKit Go.Maps Go.WideMaps
set_option linter.unusedVariables false

theorem enter19 : ∀ (args : Array Value) (w : World), (callFunc 19 args).run Tryf.prog w = .ok (.enter 19 args) w :=
  fun args w => run_enter (fn := Tryf.f19) Tryf.func19 (by kernel_rfl) rfl args w

theorem run_at (w : World) (b off n cap k : Nat) (z : Int) (hz : z = (k : Int)) (hk : k < n) : (Instr.indexAt 22 (.slice (some ⟨b, off, none⟩) n cap) (.int .i64 z)).run Tryf.prog w = .ok (.pointer (some ⟨b, off + k, none⟩)) w := by
  subst hz
  simp [go_sem, hk]

theorem run_ld (w : World) (b o : Nat) (s : ByteArray) (h : w.cell? ⟨b, o, none⟩ = some (.string s)) : (Instr.loadAt 9 (.pointer (some ⟨b, o, none⟩))).run Tryf.prog w = .ok (.string s) w := by
  simp [go_sem, h]

theorem run_len (w : World) (ty : TypeId) (p : Option Addr) (n cap : Nat) : (Builtin.len_ #[22] ty #[.slice p n cap]).run Tryf.prog w = .ok (.int .i64 n) w := by
  simp [go_sem]
theorem run_sub (w : World) (n : Nat) (hn : n ≤ 65536) : (binOp .sub 3 (.int .i64 (n : Int)) (.int .i64 1)).run Tryf.prog w = .ok (.int .i64 ((n : Int) - 1)) w := by
  have h : IntKind.i64.wrap ((n : Int) - 1) = (n : Int) - 1 := by rw [IntKind.wrap_i64]; omega
  simp [go_sem, h]

section
variable {a : Act} {w : World} {K : Act → World → Prop} {Q : Exit → Act → World → Prop} {o : Oper}

theorem op_at {x y : Operand} {b off n cap k : Nat} {z : Int} (ho : o.op = .indexAddr 22 x y) (hx : a.eval x = .slice (some ⟨b, off, none⟩) n cap) (hy : a.eval y = .int .i64 z) (hz : z = (k : Int)) (hk : k < n)
    (h : K (a.put o.dst (.pointer (some ⟨b, off + k, none⟩))) w) : o.wp Tryf.prog a w K Q :=
  op_val (w' := w) (by simp [execOp, ho, hx, hy, run_at w b off n cap k z hz hk, Result.andThen]) h
theorem op_ld {x : Operand} {b k : Nat} {s : ByteArray} (ho : o.op = .load 9 x) (hx : a.eval x = .pointer (some ⟨b, k, none⟩)) (hc : w.cell? ⟨b, k, none⟩ = some (.string s))
    (h : K (a.put o.dst (.string s)) w) : o.wp Tryf.prog a w K Q :=
  op_val (w' := w) (by simp [execOp, ho, hx, run_ld w b k s hc, Result.andThen]) h
theorem op_len {x : Operand} {p : Option Addr} {n cap : Nat} (ho : o.op = .call { callee := .builtin .len, args := #[x], argTypes := #[22] }) (hx : a.eval x = .slice p n cap)
    (h : K (a.put o.dst (.int .i64 n)) w) : o.wp Tryf.prog a w K Q :=
  op_val (w' := w) (by simp [execOp, ho, hx, resolve, invoke, builtin, run_len, Result.andThen]) h
theorem op_sub {x y : Operand} {n : Nat} (ho : o.op = .binOp .sub 3 x y 3) (hx : a.eval x = .int .i64 n) (hy : a.eval y = .int .i64 1) (hn : n ≤ 65536)
    (h : K (a.put o.dst (.int .i64 ((n : Int) - 1))) w) : o.wp Tryf.prog a w K Q :=
  op_val (w' := w) (by simp [execOp, ho, hx, hy, eqGuard, run_sub w n hn, Result.andThen]) h
end

theorem ne_min : Lit.string MINT.data.toList ≠ KM := by intro h; unfold KM at h; injection h with h; exact absurd h (by decide)
theorem ne_val : Lit.string VALS.data.toList ≠ KM := by intro h; unfold KM at h; injection h with h; exact absurd h (by decide)
theorem ne_aut : Lit.string AUTH.data.toList ≠ KM := by intro h; unfold KM at h; injection h with h; exact absurd h (by decide)

/-- Whichever operation comes up keeps the invariant. -/
theorem own_step (g : Given) (ok : g.Ok) {ops : Array Oper} (H : ops.toList.map view = want) {Q : Exit → Act → World → Prop} :
    ∀ L a w i o, Inv g L a w → L i = false → ops[i]? = some o → (∀ e ∈ o.after, Region.binds .any e = true → L e.on = true) → wpOp Tryf.prog ops Q i (Inv g (fun j => j == i || L j)) a w := by
  intro L a w i o hI hLi ho hd
  have hv := view_at H ho
  have hlt : i < 20 := by
    have h1 : i < want.length := (List.getElem?_eq_some_iff.1 hv).1
    exact h1
  have hV : g.VV = .slice (some ⟨g.b, g.off, none⟩) g.n g.cap := rfl
  have hR : g.RV = .slice g.ar g.nr g.capr := rfl
  have e2 : a.eval (.tmp 2) = g.VV := by
    rw [← ok.h2]; simp only [Act.eval, Array.getD_eq_getD_getElem?]; rw [hI.rest 2 (by decide) (by decide)]
  have e0 : a.eval (.tmp 0) = g.RV := by
    rw [← ok.h0]; simp only [Act.eval, Array.getD_eq_getD_getElem?]; rw [hI.rest 0 (by decide) (by decide)]
  have hcell : ∀ j, j < g.n → w.cell? ⟨g.b, g.off + j, none⟩ = some (.string (g.vs.getD j ByteArray.empty)) := fun j hj => (hI.bel.cell (p := ⟨g.b, g.off + j, none⟩) ok.hb).trans (ok.cells j hj)
  have hs : ∀ j, j < g.n → (g.vs.getD j ByteArray.empty).size ≤ maxLen := fun j hj => ok.vals.size j hj
  have key : ∀ v, want[i]? = some v → view o = v := fun v h => Option.some.inj (hv.symm.trans h)
  have hpos := ok.pos
  rcases (by omega : i = 0 ∨ i = 1 ∨ i = 2 ∨ i = 3 ∨ i = 4 ∨ i = 5 ∨ i = 6 ∨ i = 7 ∨ i = 8 ∨ i = 9 ∨ i = 10 ∨ i = 11 ∨ i = 12 ∨ i = 13 ∨ i = 14 ∨ i = 15 ∨ i = 16 ∨ i = 17 ∨ i = 18 ∨ i = 19) with
    rfl | rfl | rfl | rfl | rfl | rfl | rfl | rfl | rfl | rfl | rfl | rfl | rfl | rfl | rfl | rfl | rfl | rfl | rfl | rfl
  all_goals
    have hw := key _ rfl
    have hop : o.op = _ := congrArg (fun v => v.2.1) hw
    have hgd : o.guard = none := congrArg (fun v => v.2.2.1) hw
    have hdst : o.dst = _ := congrArg (fun v => v.1) hw
    refine wpOp_of ho hgd ?_
  · refine op_makeMap hop ?_
    rw [hdst]
    exact hI.makeStep hLi
  · refine op_move hop ?_
    rw [hdst, e2]
    exact hI.sureStep (i := 1) (d := 76) (v := g.VV) (by simp [Given.tab, tab]) (by decide) (by decide) (by simp [Given.tab, tab])
  · refine op_at hop (n := g.n) (cap := g.cap) (tab_at hI (k := 1) (d := 76) (v := g.VV) (by simp [Given.tab, tab]) (dep_of hw hd (k := 1) (by decide))) (show a.eval _ = .int .i64 0 from rfl) (k := 0) rfl hpos ?_
    rw [hdst, Nat.add_zero]
    exact hI.sureStep (i := 2) (d := 77) (v := .pointer (some ⟨g.b, g.off, none⟩)) (by simp [Given.tab, tab]) (by decide) (by decide) (by simp [Given.tab, tab])
  · refine op_ld hop (tab_at hI (k := 2) (d := 77) (v := .pointer (some ⟨g.b, g.off, none⟩)) (by simp [Given.tab, tab]) (dep_of hw hd (k := 2) (by decide))) (hcell 0 hpos) ?_
    rw [hdst]
    exact hI.sureStep (i := 3) (d := 78) (v := .string g.s0) (by simp [Given.tab, tab]) (by decide) (by decide) (by simp [Given.tab, tab])
  · have hm0 : L 0 = true := dep_of hw hd (by decide)
    have hev := tab_at hI (k := 3) (d := 78) (v := .string g.s0) (by simp [Given.tab, tab]) (dep_of hw hd (k := 3) (by decide))
    obtain ⟨w', hrun, hinv⟩ := hI.entryStep hLi (by decide) hm0 MINT (by decide) g.s0 (hs 0 hpos) (fun e => absurd e (by decide)) (fun _ => ne_min)
    refine op_insert hop (w' := w') ?_ ?_
    · rw [hev]; exact hrun
    · rw [hdst]; exact hinv
  · refine op_move hop ?_
    rw [hdst, e2]
    exact hI.sureStep (i := 5) (d := 79) (v := g.VV) (by simp [Given.tab, tab]) (by decide) (by decide) (by simp [Given.tab, tab])
  · refine op_move hop ?_
    rw [hdst, e2]
    exact hI.sureStep (i := 6) (d := 80) (v := g.VV) (by simp [Given.tab, tab]) (by decide) (by decide) (by simp [Given.tab, tab])
  · refine op_len hop (p := some ⟨g.b, g.off, none⟩) (n := g.n) (cap := g.cap) (tab_at hI (k := 6) (d := 80) (v := g.VV) (by simp [Given.tab, tab]) (dep_of hw hd (k := 6) (by decide))) ?_
    rw [hdst]
    exact hI.sureStep (i := 7) (d := 81) (v := .int .i64 g.n) (by simp [Given.tab, tab]) (by decide) (by decide) (by simp [Given.tab, tab])
  · refine op_sub hop (n := g.n) (tab_at hI (k := 7) (d := 81) (v := .int .i64 g.n) (by simp [Given.tab, tab]) (dep_of hw hd (k := 7) (by decide))) (show a.eval _ = .int .i64 1 from rfl) ok.small ?_
    rw [hdst]
    exact hI.sureStep (i := 8) (d := 82) (v := .int .i64 ((g.n : Int) - 1)) (by simp [Given.tab, tab]) (by decide) (by decide) (by simp [Given.tab, tab])
  · refine op_at hop (n := g.n) (cap := g.cap) (tab_at hI (k := 5) (d := 79) (v := g.VV) (by simp [Given.tab, tab]) (dep_of hw hd (k := 5) (by decide))) (tab_at hI (k := 8) (d := 82) (v := .int .i64 ((g.n : Int) - 1)) (by simp [Given.tab, tab]) (dep_of hw hd (k := 8) (by decide))) (k := g.n - 1) (by omega) (by omega) ?_
    rw [hdst]
    exact hI.sureStep (i := 9) (d := 83) (v := .pointer (some ⟨g.b, g.off + (g.n - 1), none⟩)) (by simp [Given.tab, tab]) (by decide) (by decide) (by simp [Given.tab, tab])
  · refine op_ld hop (tab_at hI (k := 9) (d := 83) (v := .pointer (some ⟨g.b, g.off + (g.n - 1), none⟩)) (by simp [Given.tab, tab]) (dep_of hw hd (k := 9) (by decide))) (hcell (g.n - 1) (by omega)) ?_
    rw [hdst]
    exact hI.sureStep (i := 10) (d := 84) (v := .string g.sl) (by simp [Given.tab, tab]) (by decide) (by decide) (by simp [Given.tab, tab])
  · have hm0 : L 0 = true := dep_of hw hd (by decide)
    have hev := tab_at hI (k := 10) (d := 84) (v := .string g.sl) (by simp [Given.tab, tab]) (dep_of hw hd (k := 10) (by decide))
    obtain ⟨w', hrun, hinv⟩ := hI.entryStep hLi (by decide) hm0 MAXT (by decide) g.sl (hs (g.n - 1) (by omega)) (fun _ => ⟨rfl, rfl⟩) (fun e => absurd rfl e)
    refine op_insert hop (w' := w') ?_ ?_
    · rw [hev]; exact hrun
    · rw [hdst]; exact hinv
  · refine op_move hop ?_
    rw [hdst, e2]
    exact hI.sureStep (i := 12) (d := 85) (v := g.VV) (by simp [Given.tab, tab]) (by decide) (by decide) (by simp [Given.tab, tab])
  · refine op_call2 hop enter19 ?_
    have hev := tab_at hI (k := 12) (d := 85) (v := g.VV) (by simp [Given.tab, tab]) (dep_of hw hd (k := 12) (by decide))
    rw [hev, hV]
    refine (join_any _ g.n g.cap g.vs w (ok.vals.keep hI.bel) ok.capn ok.totv ok.small).mono ?_
    rintro e w' ⟨s, rfl, hsz, hb⟩
    refine ⟨_, rfl, ?_⟩
    rw [hdst]
    exact hI.joinStep (i := 13) (d := 86) (by decide) s hsz hb
  · have hm0 : L 0 = true := dep_of hw hd (by decide)
    obtain ⟨s, hev, hsz⟩ := hI.j13 (dep_of hw hd (by decide))
    obtain ⟨w', hrun, hinv⟩ := hI.entryStep hLi (by decide) hm0 VALS (by decide) s hsz (fun e => absurd e (by decide)) (fun _ => ne_val)
    refine op_insert hop (w' := w') ?_ ?_
    · rw [hev]; exact hrun
    · rw [hdst]; exact hinv
  · refine op_move hop ?_
    rw [hdst, e0]
    exact hI.sureStep (i := 15) (d := 87) (v := g.RV) (by simp [Given.tab, tab]) (by decide) (by decide) (by simp [Given.tab, tab])
  · refine op_call2 hop enter19 ?_
    have hev := tab_at hI (k := 15) (d := 87) (v := g.RV) (by simp [Given.tab, tab]) (dep_of hw hd (k := 15) (by decide))
    rw [hev, hR]
    refine (join_any _ g.nr g.capr g.rs w (ok.reqs.keep hI.bel) ok.capr' ok.totr ok.smallr).mono ?_
    rintro e w' ⟨s, rfl, hsz, hb⟩
    refine ⟨_, rfl, ?_⟩
    rw [hdst]
    exact hI.joinStep (i := 16) (d := 88) (by decide) s hsz hb
  · have hm0 : L 0 = true := dep_of hw hd (by decide)
    obtain ⟨s, hev, hsz⟩ := hI.j16 (dep_of hw hd (by decide))
    obtain ⟨w', hrun, hinv⟩ := hI.entryStep hLi (by decide) hm0 AUTH (by decide) s hsz (fun e => absurd e (by decide)) (fun _ => ne_aut)
    refine op_insert hop (w' := w') ?_ ?_
    · rw [hev]; exact hrun
    · rw [hdst]; exact hinv
  · refine op_move hop ?_
    rw [hdst]
    exact hI.handStep (dep_of hw hd (by decide))
  · refine op_assign hop ?_
    rw [hdst]
    exact hI.endStep (dep_of hw hd (by decide))

/-- A frame that parts from another in the slots ds alone. -/
theorem frame_of (a : Act) (ds : List Nat) : ∀ (a0 : Act), a.defers = a0.defers → a.tmps.size = a0.tmps.size → (∀ t, t ∉ ds → a.tmps[t]? = a0.tmps[t]?) → a = ds.foldl (fun acc d => acc.put (some d) (a.eval (.tmp d))) a0 := by
  induction ds with
  | nil =>
    intro a0 hd hs hr
    obtain ⟨x, y⟩ := a
    obtain ⟨x0, y0⟩ := a0
    have h1 : x = x0 := by
      apply Array.ext_getElem?
      intro t
      exact hr t (by simp)
    have h2 : y = y0 := hd
    rw [h1, h2]
    rfl
  | cons d r ih =>
    intro a0 hd hs hr
    rw [List.foldl_cons]
    refine ih (a0.put (some d) (a.eval (.tmp d))) hd (by rw [size_put]; exact hs) (fun t ht => ?_)
    by_cases e : t = d
    · subst e
      by_cases hlt : t < a.tmps.size
      · have hlt0 : t < a0.tmps.size := by omega
        simp [Act.put, Act.eval, hlt, hlt0]
      · have hlt0 : ¬ t < a0.tmps.size := by omega
        simp [Act.put, hlt, hlt0]
    · rw [tmps_put _ _ _ _ e]
      exact hr t (by simp [e, ht])

def slots : List Nat := [75, 76, 77, 78, 79, 80, 81, 82, 83, 84, 85, 86, 87, 88, 89, 17]

/-- THE MAP LITERAL: on every order the map behind it holds the last value at _MAX_TRUST; nothing old has turned; of the frame the region's own slots alone. -/
theorem own_region (g : Given) (ok : g.Ok) {ops : Array Oper} (H : ops.toList.map view = want) {id : Nat} {Q : Exit → Act → World → Prop}
    (hQ : ∀ (u : Nat → Value) (B : Nat) (D : DataW Unit) (w' : World), u 17 = .map (some B) → g.W.heap.size ≤ B → w'.ownsMap Tryf.prog 9 (plainElem (H := Unit) Tryf.prog 9) B 4 D → (∀ z, D.atKey KM z = .lit (.string g.sl.data.toList)) → Below g.W.heap.size g.W w' →
      Q .normal (slots.foldl (fun acc d => acc.put (some d) (u d)) g.a0) w') : (Code.region id ops true).wp Tryf.prog Q g.a0 g.W := by
  have hsz : ops.size = 20 := by
    have := congrArg List.length H
    simpa [want] using this
  refine wp_region_inv (by kernel_rfl) (Inv g) (edges_back H) (own_step g ok H) ?_ ?_
  · intro L a w hI hall
    have hL : ∀ i, i < 20 → L i = true := fun i hi => hall i (by omega)
    obtain ⟨B, n, D, h1, h2, h3, h4, h5, h6, h7, h8⟩ := hI.made (hL 0 (by decide))
    have hc : cnt L = 4 := by simp [cnt, hL 4 (by decide), hL 11 (by decide), hL 14 (by decide), hL 17 (by decide)]
    have hf := frame_of a slots g.a0 hI.defers (by rw [hI.size, ok.size]) (fun t ht => hI.rest t (by intro e; subst e; exact ht (by decide)) (by
      by_cases hb : t < 75 ∨ 89 < t
      · exact hb
      · exfalso
        apply ht
        have : t = 75 ∨ t = 76 ∨ t = 77 ∨ t = 78 ∨ t = 79 ∨ t = 80 ∨ t = 81 ∨ t = 82 ∨ t = 83 ∨ t = 84 ∨ t = 85 ∨ t = 86 ∨ t = 87 ∨ t = 88 ∨ t = 89 := by omega
        simp only [slots, List.mem_cons]
        omega))
    rw [hf]
    exact hQ (fun d => a.eval (.tmp d)) B D w (h8 (hL 19 (by decide))) h2 (h3.mono (by omega)) (h6 (hL 11 (by decide))) hI.bel
  · refine ⟨rfl, ok.size, fun _ _ _ => rfl, fun _ _ h => ?_, fun h => ?_, fun h => ?_, fun h => ?_, fun _ _ h => ?_, (Below.refl _ _).drew⟩
    all_goals cases h

/-- The same, its givens one by one. -/
theorem own_region' (b off n cap : Nat) (vs : List ByteArray) (ar : Option Addr) (nr capr : Nat) (rs : List ByteArray) {a0 : Act} {W : World} {ops : Array Oper} {id : Nat} {Q : Exit → Act → World → Prop}
    (ok : (Given.mk a0 W b off n cap vs ar nr capr rs).Ok) (H : ops.toList.map view = want)
    (hQ : ∀ (u : Nat → Value) (B : Nat) (D : DataW Unit) (w' : World), W.heap.size ≤ B → w'.ownsMap Tryf.prog 9 (plainElem (H := Unit) Tryf.prog 9) B 4 D → (∀ z, D.atKey KM z = .lit (.string (at' vs (n - 1)).data.toList)) → Below W.heap.size W w' →
      Q .normal ((((((((((((((((a0.put (some 75) (u 75)).put (some 76) (u 76)).put (some 77) (u 77)).put (some 78) (u 78)).put (some 79) (u 79)).put (some 80) (u 80)).put (some 81) (u 81)).put (some 82) (u 82)).put (some 83) (u 83)).put (some 84) (u 84)).put (some 85) (u 85)).put (some 86) (u 86)).put (some 87) (u 87)).put (some 88) (u 88)).put (some 89) (u 89)).put (some 17) (.map (some B))) w') :
    (Code.region id ops true).wp Tryf.prog Q a0 W := by
  refine own_region ⟨a0, W, b, off, n, cap, vs, ar, nr, capr, rs⟩ ok H ?_
  intro u B D w' hu hB hown hmax hbel
  have h := hQ u B D w' hB hown hmax hbel
  rw [← hu] at h
  exact h

end Go.Proofs.Qxb6605783aFmt.Env
