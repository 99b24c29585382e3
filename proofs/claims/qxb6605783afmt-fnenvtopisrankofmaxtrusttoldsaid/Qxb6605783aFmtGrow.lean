/-
  FnEnvTopGrowsByOneWithANewValue: the walk.
-/
import Derived.Test.Qxb6605783aFmtUse
import Derived.Deep.RegionWith
namespace Go.Proofs.Qxb6605783aFmt.Env
open Go.ChangeShapes Go.WideShapes Go.ChangeAt Go.RowKit Go.Maps Go.WideMaps
set_option linter.unusedVariables false

theorem below_next {w W1 W2 : World} (h1 : Below w.heap.size w W1) (h2 : Below W1.heap.size W1 W2) : Below w.heap.size w W2 := h1.trans (h2.mono h1.size)
theorem below_drewN' {B : Nat} {a w : World} (h : Below B a w) (n : Nat) : Below B a (w.drewN n) := h.trans ⟨rfl, rfl, rfl, Nat.le_refl _, fun _ _ => rfl⟩
theorem strs_drewN {w : World} {a : Option Addr} {n : Nat} {ss : List ByteArray} (h : Strs w a n ss) (m : Nat) : Strs (w.drewN m) a n ss := h

theorem at_left (vs : List ByteArray) (x : ByteArray) (k : Nat) (h : k < vs.length) : at' (vs ++ [x]) k = at' vs k := by
  unfold at'
  rw [List.getD_eq_getElem?_getD, List.getElem?_append_left h, ← List.getD_eq_getElem?_getD]
theorem at_last (vs : List ByteArray) (x : ByteArray) : at' (vs ++ [x]) vs.length = x := by
  unfold at'
  rw [List.getD_eq_getElem?_getD, List.getElem?_append_right (Nat.le_refl _), Nat.sub_self]
  rfl

/-- A new value at the end: the query is taken still. -/
theorem acc_snoc {n0 n1 : Nat} {rs vs : List ByteArray} {x : ByteArray} (h : Acc n0 n1 rs vs) (hl : vs.length = n1) (hx : x.toList.isEmpty = false) (hn : ∀ j, j < n1 → ((at' vs j).toList == x.toList) = false) : Acc n0 (n1 + 1) rs (vs ++ [x]) := by
  obtain ⟨h1, h2, h3, h4⟩ := h
  refine ⟨h1, by omega, h3, fun k hk => ?_⟩
  by_cases e : k = n1
  · have hlast : at' (vs ++ [x]) k = x := by rw [e, ← hl]; exact at_last vs x
    rw [hlast]
    refine ⟨hx, fun j hj => ?_⟩
    rw [at_left vs x j (by omega)]
    exact hn j (by omega)
  · rw [at_left vs x k (by omega)]
    refine ⟨(h4 k (by omega)).1, fun j hj => ?_⟩
    rw [at_left vs x j (by omega)]
    exact (h4 k (by omega)).2 j hj

theorem EnvAt.keep {w w' w'' : World} {v VV : Value} {n : Nat} {vs : List ByteArray} (h : EnvAt w w' v VV n vs) (hb : Below w'.heap.size w' w'') : EnvAt w w'' v VV n vs := by
  obtain ⟨b, Bo, Br, D, h1, h2, h3, h4, h5, h6, h7, h8, h9, h10, h11⟩ := h
  exact ⟨b, Bo, Br, D, h1, h2, Nat.lt_of_lt_of_le h3 hb.size, (hb.cell (p := ⟨b, 1, none⟩) h3).trans h4, (hb.cell (p := ⟨b, 2, none⟩) h3).trans h5, (hb.cell (p := ⟨b, 3, none⟩) h3).trans h6, h7, h8,
    h9.kept (grown_of_below hb) (by simp), h10, h11.kept (grown_of_below hb) (by simp)⟩

theorem owns_cell {w : World} {B g n cap : Nat} {ss : List ByteArray} (h : w.ownsRow B 9 1 (.slice (some ⟨g, 0, none⟩) n cap) n (ss.map Value.string)) (j : Nat) (hj : j < n) : w.cell? ⟨g, 0 + j, none⟩ = some (.string (at' ss j)) := by
  have hl : ss.length = n := by have := h.1; simpa using this
  unfold at'
  rw [Nat.zero_add, h.cellAt j (by omega), List.getElem?_map, List.getD_eq_getElem?_getD, List.getElem?_eq_getElem (by omega)]
  rfl

theorem owns_lt {w : World} {B g n cap : Nat} {xs : List Value} (h : w.ownsRow B 9 1 (.slice (some ⟨g, 0, none⟩) n cap) n xs) : g < w.heap.size := (h.lt g rfl).2

/-- The look-up of _MAX_TRUST, in a world some draws on. -/
theorem own_q (b Bo m : Nat) (D : DataW Unit) (s : ByteArray) (w : World) (hc : w.cell? ⟨b, 1, none⟩ = some (.map (some Bo))) (h : w.ownsMap Tryf.prog 9 (plainElem (H := Unit) Tryf.prog 9) Bo m D) (hat : ∀ z, D.atKey KM z = .lit (.string s.data.toList)) (q : Nat) :
    Calls Tryf.prog 11 #[.pointer (some ⟨b, 0, none⟩), .string { data := #[95, 77, 65, 88, 95, 84, 82, 85, 83, 84] }] (w.drewN q) fun e w' => e = .returned (.string s) ∧ w' = w.drewN q := by
  refine (own_any b Bo m D MAXT s (w.drewN q) hc h ?_ hat).mono ?_
  · show 10 ≤ _
    unfold maxLen; omega
  · rintro e w' ⟨rfl, rfl⟩
    exact ⟨rfl, rfl⟩

theorem owns_step {w : World} {B : Nat} {v : Value} {vs : List ByteArray} {k : Nat} {s : ByteArray} (hk : k < vs.length) (hs : s = at' vs k) (h : w.ownsRow B 9 1 v (k + 1) ((vs.map Value.string).take k ++ [Value.string s])) :
    w.ownsRow B 9 1 v (k + 1) ((vs.take (k + 1)).map Value.string) := by
  rw [← List.map_take] at h
  rw [take_snoc vs k hk, List.map_append]
  have e : vs.getD k ByteArray.empty = s := hs.symm
  rw [e]
  exact h

theorem owns_snoc {w : World} {B : Nat} {v : Value} {out : List ByteArray} {x : ByteArray} (h : w.ownsRow B 9 1 v (out.length + 1) (out.map Value.string ++ [Value.string x])) :
    w.ownsRow B 9 1 v (out ++ [x]).length ((out ++ [x]).map Value.string) := by
  simpa using h

theorem owns_form {w : World} {B : Nat} {v : Value} {n : Nat} {xs : List Value} (h : w.ownsRow B 9 1 v n xs) (hn : 0 < n) : ∃ g cap, v = .slice (some ⟨g, 0, none⟩) n cap ∧ n ≤ cap := by
  rcases h.2 with ⟨_, h0⟩ | ⟨g, cap, cur, hv, _, _, hc, _⟩
  · omega
  · exact ⟨g, cap, hv, hc⟩

set_option maxRecDepth 100000 in
set_option maxHeartbeats 4000000 in
theorem grow_walk (a0 : Option Addr) (n0 c0 : Nat) (rs : List ByteArray) (a1 : Option Addr) (n1 c1 : Nat) (vs : List ByteArray) (x : ByteArray) (w : World)
    (h0 : Strs w a0 n0 rs) (h1 : Strs w a1 n1 vs) (w0 : n0 ≤ 65536) (w1 : n1 ≤ 4096) (w2 : x.size ≤ 65536) :
    Calls Tryf.prog 4 #[.slice a0 n0 c0, .slice a1 n1 c1, .string x] w fun e w' => e = .returned (.bool true) ∧ Below w.heap.size w w' := by
  have H0 : Hid (Strs w a0 n0 rs) := h0
  have H1 : Hid (Strs w a1 n1 vs) := h1
  clear h0 h1
  obtain ⟨i0, hi, hz0, hz1, hz2⟩ := info_parts info9
  go_enter Tryf.func4, Tryf.ntmps4
  go_wp2_with fail
  refine (sized13 a0 n0 c0 rs a1 n1 c1 vs x w H0.out H1.out (by unfold maxLen; omega) (by unfold maxLen; omega) (by unfold maxLen; omega)).mono ?_
  rintro e w' ⟨⟨b, rfl⟩, rfl⟩
  cases b
  · go_wp2_with fail
    go_ret
    exact ⟨rfl, Below.refl _ _⟩
  go_wp2_with fail
  refine (strBytes_any a0 n0 c0 rs w w0 H0.out).mono ?_
  rintro e w' ⟨r0, rfl, r0a, r0b, r0c, rfl⟩
  go_wp2_with fail
  refine (strBytes_any a1 n1 c1 vs w (by omega) H1.out).mono ?_
  rintro e w' ⟨r1, rfl, r1a, r1b, r1c, rfl⟩
  by_cases hsum : 1048576 < r0 + r1 + x.size
  · go_wp2_with fail
    go_ret
    exact ⟨rfl, Below.refl _ _⟩
  have t0 : tot rs ≤ 1048576 := r0c (by omega)
  have t1 : tot vs ≤ 1048576 := r1c (by omega)
  clear r0c r1c
  go_wp2_with fail
  refine (acc_any a0 n0 c0 rs a1 n1 c1 vs w H0.out H1.out w0 (by omega)).mono ?_
  rintro e w' ⟨⟨b, rfl, hacc⟩, m, hm⟩
  obtain ⟨V, hV⟩ : ∃ V, V = w' := ⟨_, rfl⟩
  rw [← hV]
  have HB0 : Hid (Below w.heap.size w V) := by rw [hV, hm]; exact below_drewN' (Below.refl _ _) m
  have S0 : Hid (Strs V a0 n0 rs) := by rw [hV, hm]; exact strs_drewN H0.out m
  have S1 : Hid (Strs V a1 n1 vs) := by rw [hV, hm]; exact strs_drewN H1.out m
  have hVs : V.heap.size = w.heap.size := by rw [hV, hm]; rfl
  have HVs : Hid (V.heap.size = w.heap.size) := hVs
  clear hV hm H0 H1 hVs
  cases b
  · clear hacc
    go_wp2_with fail
    go_ret
    exact ⟨rfl, HB0.out⟩
  have HA : Hid (Acc n0 n1 rs vs) := hacc.1 rfl
  clear hacc
  cases hx : x.toList.isEmpty
  · have p0 : 0 < n0 := HA.out.1
    have p1 : 0 < n1 := HA.out.2.1
    obtain ⟨b0, o0, -, rfl, hb0, -, -, -⟩ := S0.out.at 0 p0
    obtain ⟨b1, o1, -, rfl, hb1, -, -, -⟩ := S1.out.at 0 p1
    go_wp2_with fail
    go_loop [7] (fun i => ∃ k : Nat, k ≤ n1 ∧ i = .int .i64 k ∧ Hid (∀ j, j < k → ((at' vs j).toList == x.toList) = false)) (fun i => n1 - (intOf i).toNat)
    case atStart => exact ⟨0, Nat.zero_le _, rfl, fun j hj => absurd hj (by omega)⟩
    case round =>
      obtain ⟨k, hk, rfl, HN⟩ := hrel
      by_cases hlt : k < n1
      · obtain ⟨bb, oo, s, hbo, -, hck, -, hsk⟩ := S1.out.at k hlt
        have hbo' := Option.some.inj hbo
        simp only [Addr.mk.injEq, and_true] at hbo'
        obtain ⟨rfl, rfl⟩ := hbo'
        have HSk : Hid (s = at' vs k) := hsk
        clear hbo hsk
        cases hq : (s.toList == x.toList)
        · go_wp2
          go_round
          case rel =>
            refine ⟨k + 1, by omega, by go_num, fun j hj => ?_⟩
            by_cases e : j = k
            · subst e; rw [← HSk.out]; exact hq
            · exact HN.out j (by omega)
          case measure => simp [intOf]; omega
        · go_wp2
          go_ret
          exact ⟨rfl, HB0.out⟩
      · have HNall : Hid (∀ j, j < n1 → ((at' vs j).toList == x.toList) = false) := fun j hj => HN.out j (by omega)
        have HL : Hid (vs.length = n1) := S1.out.1
        clear HN
        go_wp2_with fail
        refine (clone_some ⟨b0, o0, none⟩ n0 c0 rs V w0 S0.out).mono ?_
        rintro e W1 ⟨rfl, ho1, hbl1⟩
        have hv1 := hbl1.size
        have HO1 : Hid (W1.ownsRow V.heap.size 9 1 (.slice (some ⟨V.heap.size, 0, none⟩) n0 n0) n0 (rs.map Value.string)) := ho1
        have T1 : Hid (Strs W1 (some ⟨b1, o1, none⟩) n1 vs) := S1.out.keep hbl1
        have HB1 : Hid (Below w.heap.size w W1) := by
          have h := HB0.out; have e := HVs.out; rw [e] at hbl1; exact h.trans (hbl1.mono (Nat.le_refl _))
        have Zr : Hid (∀ s ∈ rs, s.size ≤ maxLen) := S0.out.2.1
        have Zv : Hid (∀ s ∈ vs, s.size ≤ maxLen) := S1.out.2.1
        clear ho1 hbl1 S0 S1 HB0
        go_wp2_with fail
        refine (clone_some ⟨b1, o1, none⟩ n1 c1 vs W1 (by omega) T1.out).mono ?_
        rintro e W2 ⟨rfl, ho2, hbl2⟩
        have hv2 := hbl2.size
        have HO2 : Hid (W2.ownsRow W1.heap.size 9 1 (.slice (some ⟨W1.heap.size, 0, none⟩) n1 n1) n1 (vs.map Value.string)) := ho2
        have HP2 : Hid (W2.ownsRow V.heap.size 9 1 (.slice (some ⟨V.heap.size, 0, none⟩) n0 n0) n0 (rs.map Value.string)) := owns_keep HO1.out hbl2
        have HB2 : Hid (Below w.heap.size w W2) := below_next HB1.out hbl2
        clear ho2 hbl2 T1 HO1 HB1 hb0 hb1
        go_wp2_with fail
        refine (clone_some ⟨W1.heap.size, 0, none⟩ n1 n1 vs W2 (by omega) (strs_of_owns HO2.out Zv.out)).mono ?_
        rintro e W3 ⟨rfl, ho3, hbl3⟩
        have hv3 := hbl3.size
        have HF3 : Hid (W3.ownsRow W2.heap.size 9 1 (.slice (some ⟨W2.heap.size, 0, none⟩) n1 n1) n1 (vs.map Value.string)) := ho3
        have HO3 : Hid (W3.ownsRow W1.heap.size 9 1 (.slice (some ⟨W1.heap.size, 0, none⟩) n1 n1) n1 (vs.map Value.string)) := owns_keep HO2.out hbl3
        have HP3 : Hid (W3.ownsRow V.heap.size 9 1 (.slice (some ⟨V.heap.size, 0, none⟩) n0 n0) n0 (rs.map Value.string)) := owns_keep HP2.out hbl3
        have HB3 : Hid (Below w.heap.size w W3) := below_next HB2.out hbl3
        clear ho3 hbl3 HO2 HP2 HB2
        go_wp2_with (at_make; refine wpList_make_own _ rfl (.const (.int .i64 0)) (.tmp 72) 22 rfl W3.heap.size 9 i0 (.string ⟨#[]⟩) 1 Tryf.underlying22 hi hz0 hz1 _ _ _ (n1 + 1) rfl rfl (by simp) (by rw [hz2]; omega) (by unfold maxLen; omega) (Nat.le_refl _) ?_)
        intro W4 ho4 hg4
        have hbl4 : Below W3.heap.size W3 W4 := (Below.refl _ _).grown hg4 (Nat.le_refl _) (fun k h => by cases h)
        have HS4 : Hid (W4.ownsRow W3.heap.size 9 1 (.slice (some ⟨W3.heap.size, 0, none⟩) 0 (n1 + 1)) 0 (([] : List ByteArray).map Value.string)) := ho4
        have HBL4 : Hid (Below W3.heap.size W3 W4) := hbl4
        clear ho4 hg4 hbl4
        have hg1 : W1.heap.size < W3.heap.size := owns_lt HO3.out
        go_wp2_with fail
        go_loopw [9, 10] (fun v i wr => ∃ k2 : Nat, k2 ≤ n1 ∧ i = .int .i64 k2 ∧ Hid (wr.ownsRow W3.heap.size 9 1 v k2 ((vs.take k2).map Value.string)) ∧ Hid (Below W3.heap.size W3 wr)) (fun _ i _ => n1 - (intOf i).toNat)
        case atStart => exact ⟨0, Nat.zero_le _, rfl, HS4, HBL4⟩
        case round =>
          obtain ⟨k2, hk2, rfl, HOk, HBk⟩ := hrel
          have hbs := HBk.out.size
          by_cases hlt2 : k2 < n1
          · obtain ⟨s, hs⟩ : ∃ s, s = at' vs k2 := ⟨_, rfl⟩
            have hck : wr.cell? ⟨W1.heap.size, k2, none⟩ = some (.string s) := by
              have h := owns_cell HO3.out k2 hlt2
              rw [Nat.zero_add] at h
              rw [hs, HBk.out.cell (p := ⟨W1.heap.size, k2, none⟩) hg1]
              exact h
            have HSk : Hid (s = at' vs k2) := hs
            clear hs
            go_wp2_with (at_builtin; refine wpList_append_own _ rfl (.tmp 80) (.tmp 85) 22 rfl W3.heap.size 9 i0 (.string ⟨#[]⟩) 1 16 Tryf.underlying22 hi hz0 hz1 hz2 rfl (by decide) _ _ _ rfl (HOk.out.alloc _) ⟨wr.heap.size, 0, none⟩ 1 1 [.string s] rfl rfl (cell_one_new _ _ _) (by intro u hu; simp at hu; subst hu; rfl) (by unfold maxLen; omega) (by omega) (by simp; omega) ?_)
            intro v5 W5 ho5 hg5 _
            have HN5 : Hid (W5.ownsRow W3.heap.size 9 1 v5 (k2 + 1) ((vs.take (k2 + 1)).map Value.string)) := owns_step (by rw [HL.out]; exact hlt2) HSk.out ho5
            have HB5 : Hid (Below W3.heap.size W3 W5) := (HBk.out.alloc hbs _).grown hg5 (by simp; omega) (fun q hq => (HOk.out.lt q hq).1)
            clear ho5 hg5
            go_wp2
            go_roundw
            case rel => exact ⟨k2 + 1, by omega, by go_num, HN5, HB5⟩
            case measure => simp [intOf]; omega
          · have hkn : k2 = n1 := by omega
            have HE : Hid (wr.ownsRow W3.heap.size 9 1 u9 n1 (vs.map Value.string)) := by
              have h := HOk.out
              rw [hkn, List.take_of_length_le (by rw [HL.out]; exact Nat.le_refl _)] at h
              exact h
            clear hkn HOk
            go_wp2_with (at_builtin; refine wpList_append_own _ rfl (.tmp 87) (.tmp 89) 22 rfl W3.heap.size 9 i0 (.string ⟨#[]⟩) 1 16 Tryf.underlying22 hi hz0 hz1 hz2 rfl (by decide) _ _ _ rfl (HE.out.alloc _) ⟨wr.heap.size, 0, none⟩ 1 1 [.string x] rfl rfl (cell_one_new _ _ _) (by intro u hu; simp at hu; subst hu; rfl) (by unfold maxLen; omega) (by omega) (by simp; omega) ?_)
            intro v6 W6 ho6 hg6 _
            have ho6' : W6.ownsRow W3.heap.size 9 1 v6 (n1 + 1) ((vs ++ [x]).map Value.string) := by
              rw [List.map_append]; exact ho6
            have hb36 : Below W3.heap.size W3 W6 := (HBk.out.alloc hbs _).grown hg6 (by simp; omega) (fun q hq => (HE.out.lt q hq).1)
            obtain ⟨g2, cp2, hv6, hcp2⟩ := owns_form ho6' (by omega)
            rw [hv6] at ho6'
            rw [hv6]
            have HS6 : Hid (W6.ownsRow W3.heap.size 9 1 (.slice (some ⟨g2, 0, none⟩) (n1 + 1) cp2) (n1 + 1) ((vs ++ [x]).map Value.string)) := ho6'
            have HF6 : Hid (W6.ownsRow W2.heap.size 9 1 (.slice (some ⟨W2.heap.size, 0, none⟩) n1 n1) n1 (vs.map Value.string)) := owns_keep HF3.out hb36
            have HP6 : Hid (W6.ownsRow V.heap.size 9 1 (.slice (some ⟨V.heap.size, 0, none⟩) n0 n0) n0 (rs.map Value.string)) := owns_keep HP3.out hb36
            have HB6 : Hid (Below w.heap.size w W6) := below_next HB3.out hb36
            have HX : Hid (Acc n0 (n1 + 1) rs (vs ++ [x])) := acc_snoc HA.out HL.out hx HNall.out
            have HT : Hid (tot (vs ++ [x]) ≤ 4194304) := by rw [Hid, tot_snoc]; omega
            have Zx : Hid (∀ s ∈ vs ++ [x], s.size ≤ maxLen) := by
              intro s hs
              rcases List.mem_append.1 hs with h | h
              · exact Zv.out s h
              · simp at h; subst h; unfold maxLen; omega
            clear ho6 ho6' hg6 hb36 hv6 HE HBk hbs HF3 HP3 HO3 HB3 HBL4 HS4 HNall
            go_wp2_with fail
            refine (zznew_ok V.heap.size 0 n0 n0 rs W2.heap.size 0 n1 n1 vs W6 HA.out (strs_of_owns HP6.out Zr.out) (strs_of_owns HF6.out Zv.out) (owns_lt HF6.out) (owns_cell HP6.out) (owns_cell HF6.out) w0 (by omega) (Nat.le_refl _) (Nat.le_refl _) (by omega) (by omega)).mono ?_
            rintro e W7 ⟨q1, rfl, henv1, hb67⟩
            have HE1 : Hid (EnvAt W6 W7 q1 (.slice (some ⟨W2.heap.size, 0, none⟩) n1 n1) n1 vs) := henv1
            have HS7 : Hid (W7.ownsRow W3.heap.size 9 1 (.slice (some ⟨g2, 0, none⟩) (n1 + 1) cp2) (n1 + 1) ((vs ++ [x]).map Value.string)) := owns_keep HS6.out hb67
            have HF7 : Hid (W7.ownsRow W2.heap.size 9 1 (.slice (some ⟨W2.heap.size, 0, none⟩) n1 n1) n1 (vs.map Value.string)) := owns_keep HF6.out hb67
            have HP7 : Hid (W7.ownsRow V.heap.size 9 1 (.slice (some ⟨V.heap.size, 0, none⟩) n0 n0) n0 (rs.map Value.string)) := owns_keep HP6.out hb67
            have HB7 : Hid (Below w.heap.size w W7) := below_next HB6.out hb67
            clear henv1 hb67 HS6 HF6 HP6 HB6
            go_wp2_with fail
            refine (zznew_ok V.heap.size 0 n0 n0 rs g2 0 (n1 + 1) cp2 (vs ++ [x]) W7 HX.out (strs_of_owns HP7.out Zr.out) (strs_of_owns HS7.out Zx.out) (owns_lt HS7.out) (owns_cell HP7.out) (owns_cell HS7.out) w0 (by omega) (Nat.le_refl _) hcp2 (by omega) HT.out).mono ?_
            rintro e W8 ⟨q2, rfl, henv2, hb78⟩
            have HE2 : Hid (EnvAt W7 W8 q2 (.slice (some ⟨g2, 0, none⟩) (n1 + 1) cp2) (n1 + 1) (vs ++ [x])) := henv2
            have HE1' : Hid (EnvAt W6 W8 q1 (.slice (some ⟨W2.heap.size, 0, none⟩) n1 n1) n1 vs) := HE1.out.keep hb78
            have HS8 : Hid (W8.ownsRow W3.heap.size 9 1 (.slice (some ⟨g2, 0, none⟩) (n1 + 1) cp2) (n1 + 1) ((vs ++ [x]).map Value.string)) := owns_keep HS7.out hb78
            have HF8 : Hid (W8.ownsRow W2.heap.size 9 1 (.slice (some ⟨W2.heap.size, 0, none⟩) n1 n1) n1 (vs.map Value.string)) := owns_keep HF7.out hb78
            have HB8 : Hid (Below w.heap.size w W8) := below_next HB7.out hb78
            clear henv2 hb78 HE1 HS7 HF7 HP7 HB7
            obtain ⟨eb1, Bo1, Br1, D1, hq1, -, -, x1, x2, -, -, -, ow1, mx1, -⟩ := HE1'.out
            obtain ⟨eb2, Bo2, Br2, D2, hq2, -, -, y1, y2, -, -, -, ow2, mx2, -⟩ := HE2.out
            rw [hq1, hq2]
            have OW1 : Hid (W8.ownsMap Tryf.prog 9 (plainElem (H := Unit) Tryf.prog 9) Bo1 4 D1) := ow1
            have OW2 : Hid (W8.ownsMap Tryf.prog 9 (plainElem (H := Unit) Tryf.prog 9) Bo2 4 D2) := ow2
            have MX1 : Hid (∀ z, D1.atKey KM z = .lit (.string (at' vs (n1 - 1)).data.toList)) := mx1
            have MX2 : Hid (∀ z, D2.atKey KM z = .lit (.string x.data.toList)) := by
              intro z
              have h := mx2 z
              rw [show n1 + 1 - 1 = vs.length by rw [HL.out]; omega, at_last] at h
              exact h
            clear ow1 ow2 mx1 mx2 hq1 hq2 HE1' HE2
            go_wp2_with fail
            refine (top_any eb1 _ n1 n1 W8 x2 p1 (by omega)).mono ?_
            rintro e w8 ⟨rfl, rfl⟩
            go_wp2_with fail
            refine (top_any eb2 _ (n1 + 1) cp2 W8 y2 (by omega) (by omega)).mono ?_
            rintro e w8 ⟨rfl, rfl⟩
            go_wp2_with fail
            have c2 : W8.cell? ⟨g2, n1, none⟩ = some (.string x) := by
              have h := owns_cell HS8.out n1 (by omega)
              rw [Nat.zero_add, show at' (vs ++ [x]) n1 = x by rw [← HL.out]; exact at_last vs x] at h
              exact h
            obtain ⟨sl, hsl⟩ : ∃ sl, sl = at' vs (n1 - 1) := ⟨_, rfl⟩
            have c1' : W8.cell? ⟨W2.heap.size, n1 - 1, none⟩ = some (.string sl) := by
              have h := owns_cell HF8.out (n1 - 1) (by omega)
              rw [Nat.zero_add] at h
              rw [hsl]
              exact h
            have OQ1 : Hid (∀ q, Calls Tryf.prog 11 #[.pointer (some ⟨eb1, 0, none⟩), .string { data := #[95, 77, 65, 88, 95, 84, 82, 85, 83, 84] }] (W8.drewN q) fun e w' => e = .returned (.string sl) ∧ w' = W8.drewN q) := by
              rw [hsl]; exact own_q eb1 Bo1 4 D1 _ W8 x1 OW1.out MX1.out
            have OQ2 : Hid (∀ q, Calls Tryf.prog 11 #[.pointer (some ⟨eb2, 0, none⟩), .string { data := #[95, 77, 65, 88, 95, 84, 82, 85, 83, 84] }] (W8.drewN q) fun e w' => e = .returned (.string x) ∧ w' = W8.drewN q) :=
              own_q eb2 Bo2 4 D2 x W8 y1 OW2.out MX2.out
            clear hsl OW1 OW2 MX1 MX2 HS8 HF8 x1 x2 y1 y2
            go_quiet (first | (go_at_call_of 11 (Value.pointer (some ⟨eb2, 0, none⟩)); exact Calls.quiet_of_same (OQ2.out _)) | (go_at_call_of 11 (Value.pointer (some ⟨eb1, 0, none⟩)); exact Calls.quiet_of_same (OQ1.out _)))
            go_wp2
            go_ret
            exact ⟨rfl, below_drewN' HB8.out _⟩
  · go_wp2_with fail
    go_ret
    exact ⟨rfl, HB0.out⟩

end Go.Proofs.Qxb6605783aFmt.Env
