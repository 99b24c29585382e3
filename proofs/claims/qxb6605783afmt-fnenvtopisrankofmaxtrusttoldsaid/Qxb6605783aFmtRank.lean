/-
  FnEnvTopIsRankOfMaxTrust: the walk.
-/
import Derived.Test.Qxb6605783aFmtRefuse
namespace Go.Proofs.Qxb6605783aFmt.Env
open Go.ChangeShapes Go.WideShapes Go.ChangeAt Go.RowKit Go.Maps Go.WideMaps
open Go.Extern.Stop Go.Stop Go.Extern
set_option linter.unusedVariables false

theorem owns_at {w : World} {B : Nat} {a : Option Addr} {n : Nat} {xs : List Value} (h : w.ownsRow B 9 1 (.slice a n n) n xs) (hn : 0 < n) : ∃ g, a = some ⟨g, 0, none⟩ := by
  obtain ⟨g, cap, hv, _⟩ := owns_form h hn
  injection hv with h1 h2 h3
  exact ⟨g, h1⟩

theorem owns_drewN {w : World} {B : Nat} {v : Value} {n : Nat} {xs : List Value} (h : w.ownsRow B 9 1 v n xs) (m : Nat) : (w.drewN m).ownsRow B 9 1 v n xs :=
  owns_keep h (below_drewN' (Below.refl _ _) m)

/-- The look-ups of the ranks. -/
theorem rank_q (b Br n : Nat) (vs : List ByteArray) (w : World) (hc : w.cell? ⟨b, 3, none⟩ = some (.map (some Br))) (h : w.ownsMap Tryf.prog 9 (plainElem (H := Unit) Tryf.prog 3) Br n (rk vs n))
    (hd : ∀ k, k < n → ∀ j, j < k → ((at' vs j).toList == (at' vs k).toList) = false) (hz : ∀ k, k < n → (at' vs k).size ≤ maxLen) (k : Nat) (hk : k < n) (s : ByteArray) (hs : s = at' vs k) :
    Calls Tryf.prog 12 #[.pointer (some ⟨b, 0, none⟩), .string s] w fun e w' => e = .returned (.tuple #[.int .i64 k, .bool true]) ∧ w = w' := by
  subst hs
  exact rank_any b Br n (rk vs n) (at' vs k) k w hc h (hz k hk) (fun z => rk_at vs n hd k hk z)

set_option maxRecDepth 100000 in
set_option maxHeartbeats 4000000 in
theorem rank_walk (F : Interp) (a0 : Option Addr) (n0 c0 : Nat) (rs : List ByteArray) (a1 : Option Addr) (n1 c1 : Nat) (vs : List ByteArray) (w : World) (hF : F.answers w.tape)
    (h0 : Strs w a0 n0 rs) (h1 : Strs w a1 n1 vs) (w0 : n0 ≤ 65536) (w1 : n1 ≤ 4096) :
    Calls Tryf.prog 3 #[.slice a0 n0 c0, .slice a1 n1 c1] w fun e w' => e = .returned (.bool true) ∧ Below w.heap.size w w' := by
  have HF : Hid (F.answers w.tape) := hF
  have H0 : Hid (Strs w a0 n0 rs) := h0
  have H1 : Hid (Strs w a1 n1 vs) := h1
  clear h0 h1 hF
  go_enter Tryf.func3, Tryf.ntmps3
  go_wp2_with fail
  refine (sized5 a0 n0 c0 rs a1 n1 c1 vs w H0.out H1.out (by unfold maxLen; omega) (by unfold maxLen; omega)).mono ?_
  rintro e w' ⟨⟨b, rfl⟩, rfl⟩
  cases b
  · go_wp2_with fail
    go_ret
    exact ⟨rfl, Below.refl _ _⟩
  go_wp2_with fail
  refine (strBytes_any a0 n0 c0 rs w w0 H0.out).mono ?_
  rintro e w' ⟨r0, rfl, r0a, r0b, r0c, rfl⟩
  go_wp2_with fail
  refine (strBytes_any a1 n1 c1 vs w (by omega) H1.out).mono ?_
  rintro e w' ⟨r1, rfl, r1a, r1b, r1c, rfl⟩
  by_cases hsum : 1048576 < r0 + r1
  · go_wp2_with fail
    go_ret
    exact ⟨rfl, Below.refl _ _⟩
  have t0 : tot rs ≤ 1048576 := r0c (by omega)
  have t1 : tot vs ≤ 1048576 := r1c (by omega)
  clear r0c r1c
  have Zr : Hid (∀ s ∈ rs, s.size ≤ maxLen) := H0.out.2.1
  have Zv : Hid (∀ s ∈ vs, s.size ≤ maxLen) := H1.out.2.1
  have HZ : Hid (∀ k, k < n1 → (at' vs k).size ≤ maxLen) := H1.out.size
  go_wp2_with fail
  refine (clone_any a0 n0 c0 rs w w0 H0.out).mono ?_
  rintro e W1 ⟨x0, rfl, ho1, hbl1⟩
  have HO1 : Hid (W1.ownsRow w.heap.size 9 1 (.slice x0 n0 n0) n0 (rs.map Value.string)) := ho1
  have T1 : Hid (Strs W1 a1 n1 vs) := H1.out.keep hbl1
  have HB1 : Hid (Below w.heap.size w W1) := hbl1
  clear ho1 hbl1 H0 H1
  go_wp2_with fail
  refine (clone_any a1 n1 c1 vs W1 (by omega) T1.out).mono ?_
  rintro e W2 ⟨x1, rfl, ho2, hbl2⟩
  have HO2 : Hid (W2.ownsRow W1.heap.size 9 1 (.slice x1 n1 n1) n1 (vs.map Value.string)) := ho2
  have HP2 : Hid (W2.ownsRow w.heap.size 9 1 (.slice x0 n0 n0) n0 (rs.map Value.string)) := owns_keep HO1.out hbl2
  have HB2 : Hid (Below w.heap.size w W2) := below_next HB1.out hbl2
  clear ho2 hbl2 T1 HO1 HB1
  go_wp2_with fail
  refine (acc_any x0 n0 n0 rs x1 n1 n1 vs W2 (strs_of_owns HP2.out Zr.out) (strs_of_owns HO2.out Zv.out) w0 (by omega)).mono ?_
  rintro e w' ⟨⟨b, rfl, hacc⟩, m, hm⟩
  obtain ⟨V, hV⟩ : ∃ V, V = w' := ⟨_, rfl⟩
  rw [← hV]
  have HB : Hid (Below w.heap.size w V) := by rw [hV, hm]; exact below_drewN' HB2.out m
  have HO : Hid (V.ownsRow W1.heap.size 9 1 (.slice x1 n1 n1) n1 (vs.map Value.string)) := by rw [hV, hm]; exact owns_drewN HO2.out m
  have HP : Hid (V.ownsRow w.heap.size 9 1 (.slice x0 n0 n0) n0 (rs.map Value.string)) := by rw [hV, hm]; exact owns_drewN HP2.out m
  clear hV hm HO2 HP2 HB2
  have HFV : Hid (F.answers V.tape) := answers_below HF.out HB.out
  cases b
  · have HN : Hid (¬ Acc n0 n1 rs vs) := fun h => absurd (hacc.2 h) (by simp)
    clear hacc
    go_wp2_with fail
    refine (zznew_no F x0 n0 n0 rs x1 n1 n1 vs V HFV.out HN.out (strs_of_owns HP.out Zr.out) (strs_of_owns HO.out Zv.out) w0 (by omega)).mono ?_
    rintro e W3 ⟨⟨x, rfl⟩, hb3⟩
    have HB3 : Hid (Below w.heap.size w W3) := below_next HB.out hb3
    clear hb3
    go_wp2_with fail
    go_ret
    exact ⟨rfl, HB3.out⟩
  have HA : Hid (Acc n0 n1 rs vs) := hacc.1 rfl
  clear hacc
  have p0 : 0 < n0 := HA.out.1
  have p1 : 0 < n1 := HA.out.2.1
  obtain ⟨g0, rfl⟩ := owns_at HP.out p0
  obtain ⟨g1, rfl⟩ := owns_at HO.out p1
  go_wp2_with fail
  refine (zznew_ok g0 0 n0 n0 rs g1 0 n1 n1 vs V HA.out (strs_of_owns HP.out Zr.out) (strs_of_owns HO.out Zv.out) (owns_lt HO.out) (owns_cell HP.out) (owns_cell HO.out) w0 (by omega) (Nat.le_refl _) (Nat.le_refl _) (by omega) (by omega)).mono ?_
  rintro e W3 ⟨q1, rfl, henv, hb3⟩
  have HO3 : Hid (W3.ownsRow W1.heap.size 9 1 (.slice (some ⟨g1, 0, none⟩) n1 n1) n1 (vs.map Value.string)) := owns_keep HO.out hb3
  have HB3 : Hid (Below w.heap.size w W3) := below_next HB.out hb3
  obtain ⟨eb, Bo, Br, D, hq, -, -, e1, e2, e3, -, -, ow, mx, orr⟩ := henv
  rw [hq]
  have OQ : Hid (∀ q, Calls Tryf.prog 11 #[.pointer (some ⟨eb, 0, none⟩), .string { data := #[95, 77, 65, 88, 95, 84, 82, 85, 83, 84] }] (W3.drewN q) fun e w' => e = .returned (.string (at' vs (n1 - 1))) ∧ w' = W3.drewN q) :=
    own_q eb Bo 4 D _ W3 e1 ow mx
  have RQ : Hid (∀ m, ∀ k, k < n1 → ∀ s, s = at' vs k → Calls Tryf.prog 12 #[.pointer (some ⟨eb, 0, none⟩), .string s] (W3.drewN m) fun e w' => e = .returned (.tuple #[.int .i64 k, .bool true]) ∧ W3.drewN m = w') :=
    fun m => rank_q eb Br n1 vs (W3.drewN m) e3 (orr.kept (grown_of_below (below_drewN' (Below.refl _ _) m)) (by simp)) (fun k hk => (HA.out.2.2.2 k hk).2) HZ.out
  clear ow mx orr hq hb3 e1 e3 HO HP HB
  go_wp2_with fail
  refine (top_any eb _ n1 n1 W3 e2 p1 (by omega)).mono ?_
  rintro e w8 ⟨rfl, rfl⟩
  clear e2
  obtain ⟨sl, hsl⟩ : ∃ sl, sl = at' vs (n1 - 1) := ⟨_, rfl⟩
  have c1' : W3.cell? ⟨g1, n1 - 1, none⟩ = some (.string sl) := by
    have h := owns_cell HO3.out (n1 - 1) (by omega)
    rw [Nat.zero_add] at h
    rw [hsl]
    exact h
  have OQ1 : Hid (∀ q, Calls Tryf.prog 11 #[.pointer (some ⟨eb, 0, none⟩), .string { data := #[95, 77, 65, 88, 95, 84, 82, 85, 83, 84] }] (W3.drewN q) fun e w' => e = .returned (.string sl) ∧ w' = W3.drewN q) := by
    rw [hsl]; exact OQ.out
  clear hsl OQ
  go_wp2_with fail
  go_quiet (first | (go_at_call_of 11 (Value.pointer (some ⟨eb, 0, none⟩)); exact Calls.quiet_of_same (OQ1.out _)))
  go_wp2_with fail
  go_loop [9] (fun i => ∃ k : Nat, k ≤ n1 ∧ i = .int .i64 k) (fun i => n1 - (intOf i).toNat)
  case atStart => exact ⟨0, Nat.zero_le _, rfl⟩
  case round =>
    obtain ⟨k, hk, rfl⟩ := hrel
    by_cases hlt : k < n1
    · obtain ⟨s, hs⟩ : ∃ s, s = at' vs k := ⟨_, rfl⟩
      have hck : W3.cell? ⟨g1, k, none⟩ = some (.string s) := by
        have h := owns_cell HO3.out k hlt
        rw [Nat.zero_add] at h
        rw [hs]
        exact h
      have HS : Hid (s = at' vs k) := hs
      clear hs
      go_wp2_with fail
      refine (RQ.out _ k hlt s HS.out).mono ?_
      rintro e w8 ⟨rfl, rfl⟩
      go_wp2_with fail
      go_round
      case rel => exact ⟨k + 1, by omega, by go_num⟩
      case measure => simp [intOf]; omega
    · go_wp2
      go_ret
      exact ⟨rfl, below_drewN' HB3.out _⟩

set_option maxRecDepth 100000 in
set_option maxHeartbeats 1000000 in
theorem rank_long (a0 : Option Addr) (n0 c0 : Nat) (rs : List ByteArray) (a1 : Option Addr) (n1 c1 : Nat) (vs : List ByteArray) (w : World)
    (h0 : Strs w a0 n0 rs) (h1 : Strs w a1 n1 vs) (w0 : n0 ≤ maxLen) (w1 : n1 ≤ maxLen) (h : 65536 < n0 ∨ (n0 ≤ 65536 ∧ 4096 < n1)) :
    Calls Tryf.prog 3 #[.slice a0 n0 c0, .slice a1 n1 c1] w fun e w' => e = .returned (.bool true) ∧ Below w.heap.size w w' := by
  have H0 : Hid (Strs w a0 n0 rs) := h0
  have H1 : Hid (Strs w a1 n1 vs) := h1
  clear h0 h1
  have v0 := w0
  have v1 := w1
  unfold maxLen at v0 v1
  rcases h with h | ⟨ha, hb⟩
  all_goals
    go_enter Tryf.func3, Tryf.ntmps3
    go_wp2_with fail
    refine (sized5 a0 n0 c0 rs a1 n1 c1 vs w H0.out H1.out w0 w1).mono ?_
    rintro e w' ⟨⟨b, rfl⟩, rfl⟩
    cases b
    · go_wp2_with fail
      go_ret
      exact ⟨rfl, Below.refl _ _⟩
    · go_wp2_with fail
      go_ret
      exact ⟨rfl, Below.refl _ _⟩

theorem rank_all (F : Interp) (a0 : Option Addr) (n0 c0 : Nat) (rs : List ByteArray) (a1 : Option Addr) (n1 c1 : Nat) (vs : List ByteArray) (w : World) (hF : F.answers w.tape)
    (h0 : Strs w a0 n0 rs) (h1 : Strs w a1 n1 vs) (w0 : n0 ≤ maxLen) (w1 : n1 ≤ maxLen) :
    Calls Tryf.prog 3 #[.slice a0 n0 c0, .slice a1 n1 c1] w fun e w' => e = .returned (.bool true) ∧ Below w.heap.size w w' := by
  by_cases h : 65536 < n0 ∨ (n0 ≤ 65536 ∧ 4096 < n1)
  · exact rank_long a0 n0 c0 rs a1 n1 c1 vs w h0 h1 w0 w1 h
  · exact rank_walk F a0 n0 c0 rs a1 n1 c1 vs w hF h0 h1 (by omega) (by omega)

end Go.Proofs.Qxb6605783aFmt.Env
