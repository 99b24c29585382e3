/-
  newEnv, where it takes the query.
-/
import Derived.Test.Qxb6605783aFmtOwnRegion
import Derived.Maps.OwnOps
import Derived.Laws.IdiomRangeMap
namespace Go.Proofs.Qxb6605783aFmt.Env
open Go.ChangeShapes Go.WideShapes Go.ChangeAt Go.RowKit Go.Maps Go.WideMaps
set_option linter.unusedVariables false

/-- The key that a text reads as. -/
def ky (s : ByteArray) : Lit := .string s.data.toList

/-- The map 'ranks' behind k rounds. -/
def rk (vs : List ByteArray) : Nat → DataW Unit
  | 0 => .map []
  | k + 1 => (rk vs k).put (ky (at' vs k)) (.lit (.int .i64 k))

theorem ky_inj {s t : ByteArray} (h : ky s = ky t) : s.toList = t.toList := by
  unfold ky at h
  injection h with h
  rw [ByteArray.toList_eq, ByteArray.toList_eq, h]

theorem isKey_ky (s : ByteArray) : WideAt.IsKeyLit (ky s) := by simp [ky, WideAt.IsKeyLit]

theorem rk_isMap (vs : List ByteArray) (k : Nat) : IsMap (rk vs k) := by
  induction k with
  | zero => exact isMap_empty
  | succ k ih => exact ih.put _ _

theorem rk_not (vs : List ByteArray) (k : Nat) (s : ByteArray) (h : ∀ j, j < k → ((at' vs j).toList == s.toList) = false) : Maps.has (rk vs k) (ky s) = false := by
  induction k with
  | zero => rfl
  | succ k ih =>
    have hne : ky s ≠ ky (at' vs k) := by
      intro e
      have := h k (by omega)
      rw [ky_inj e] at this
      simp at this
    show Maps.has ((rk vs k).put _ _) _ = false
    rw [has_put_other hne]
    exact ih (fun j hj => h j (by omega))

theorem rk_has (vs : List ByteArray) (k j : Nat) (hj : j < k) : Maps.has (rk vs k) (ky (at' vs j)) = true := by
  induction k with
  | zero => omega
  | succ k ih =>
    show Maps.has ((rk vs k).put _ _) _ = true
    by_cases e : ky (at' vs j) = ky (at' vs k)
    · rw [e]; exact has_put_same (rk_isMap vs k) (isKey_ky _) _
    · rw [has_put_other e]
      by_cases ej : j = k
      · subst ej; exact absurd rfl e
      · exact ih (by omega)

/-- Each value's rank is its place. -/
theorem rk_at (vs : List ByteArray) (n : Nat) (hd : ∀ k, k < n → ∀ j, j < k → ((at' vs j).toList == (at' vs k).toList) = false) (i : Nat) (hi : i < n) (z : DataW Unit) : (rk vs n).atKey (ky (at' vs i)) z = .lit (.int .i64 i) := by
  induction n with
  | zero => omega
  | succ n ih =>
    show ((rk vs n).put _ _).atKey _ _ = _
    by_cases e : i = n
    · subst e; exact atKey_put_same (rk_isMap vs _) (isKey_ky _) _ _
    · have hne : ky (at' vs i) ≠ ky (at' vs n) := by
        intro h
        have := hd n (by omega) i (by omega)
        rw [ky_inj h] at this
        simp at this
      rw [atKey_put_other hne]
      exact ih (fun k hk => hd k (by omega)) (by omega)

theorem makeHint (w : World) (n : Int) : (Instr.makeMap 38 (some (.int .i64 n))).run Tryf.prog w = .ok (.map (some w.heap.size)) (w.alloc (.map #[] 0)) := by
  simp [Instr.makeMap, run_underlying Tryf.underlying38]
  rfl

theorem zero3 (w : World) : (zeroValue 3).run Tryf.prog w = .ok (.int .i64 0) w := by kernel_rfl

/-- What newEnv hands back where it takes the query: a struct in new memory that leads to the values, to 'own' and to 'ranks'. -/
def EnvAt (w w' : World) (v : Value) (VV : Value) (n : Nat) (vs : List ByteArray) : Prop :=
  ∃ (b Bo Br : Nat) (D : DataW Unit), v = .pointer (some ⟨b, 0, none⟩) ∧ w.heap.size ≤ b ∧ b < w'.heap.size ∧ w'.cell? ⟨b, 1, none⟩ = some (.map (some Bo)) ∧ w'.cell? ⟨b, 2, none⟩ = some VV ∧ w'.cell? ⟨b, 3, none⟩ = some (.map (some Br)) ∧
    w.heap.size ≤ Bo ∧ w.heap.size ≤ Br ∧ w'.ownsMap Tryf.prog 9 (plainElem (H := Unit) Tryf.prog 9) Bo 4 D ∧ (∀ z, D.atKey KM z = .lit (.string (at' vs (n - 1)).data.toList)) ∧ w'.ownsMap Tryf.prog 9 (plainElem (H := Unit) Tryf.prog 3) Br n (rk vs n)

set_option maxHeartbeats 2000000 in
theorem new_ok (b0 o0 nr cr : Nat) (rs : List ByteArray) (b1 o1 n cv : Nat) (vs : List ByteArray) (w : World) (hacc : Acc nr n rs vs) (hr : Strs w (some ⟨b0, o0, none⟩) nr rs) (hv : Strs w (some ⟨b1, o1, none⟩) n vs)
    (hb1 : b1 < w.heap.size) (hc0 : ∀ j, j < nr → w.cell? ⟨b0, o0 + j, none⟩ = some (.string (at' rs j))) (hc1 : ∀ j, j < n → w.cell? ⟨b1, o1 + j, none⟩ = some (.string (at' vs j)))
    (hnr : nr ≤ 65536) (hn : n ≤ 65536) (hcr : nr ≤ cr) (hcv : n ≤ cv) (htr : tot rs ≤ 4194304) (htv : tot vs ≤ 4194304) :
    Calls Tryf.prog 14 #[.slice (some ⟨b0, o0, none⟩) nr cr, .map none, .slice (some ⟨b1, o1, none⟩) n cv] w fun e w' =>
      ∃ v, e = .returned (.tuple #[v, .nilIface]) ∧ EnvAt w w' v (.slice (some ⟨b1, o1, none⟩) n cv) n vs ∧ Below w.heap.size w w' := by
  have HA : Hid (Acc nr n rs vs) := hacc
  have HR : Hid (Strs w (some ⟨b0, o0, none⟩) nr rs) := hr
  have HV : Hid (Strs w (some ⟨b1, o1, none⟩) n vs) := hv
  have HC0 : Hid (∀ j, j < nr → w.cell? ⟨b0, o0 + j, none⟩ = some (.string (at' rs j))) := hc0
  have HC1 : Hid (∀ j, j < n → w.cell? ⟨b1, o1 + j, none⟩ = some (.string (at' vs j))) := hc1
  have p0 : 0 < nr := hacc.1
  have p1 : 0 < n := hacc.2.1
  clear hacc hr hv hc0 hc1
  have h0 : ((nr : Int) == 0) = false := by rw [beq_eq_false_iff_ne]; omega
  have h1 : ((n : Int) == 0) = false := by rw [beq_eq_false_iff_ne]; omega
  have hrn := fun (W : World) => run_range_nilMap (P := Tryf.prog) W 36 9 9 Tryf.underlying36
  have hmk := fun (W : World) (z : Int) => makeHint W z
  go_enter Tryf.func14, Tryf.ntmps14
  go_wp2
  go_loop [24] (fun i => ∃ k : Nat, k ≤ nr ∧ i = .int .i64 k) (fun i => nr - (intOf i).toNat)
  case atStart => exact ⟨0, Nat.zero_le _, rfl⟩
  case round =>
    obtain ⟨k, hk, rfl⟩ := hrel
    by_cases hlt : k < nr
    · obtain ⟨s, hs⟩ : ∃ s, s = at' rs k := ⟨_, rfl⟩
      have hck : w.cell? ⟨b0, o0 + k, none⟩ = some (.string s) := by rw [hs]; exact HC0.out k hlt
      have he : s.toList.isEmpty = false := by rw [hs]; exact HA.out.2.2.1 k hlt
      clear hs
      go_wp2
      go_round
      case rel => exact ⟨k + 1, by omega, by go_num⟩
      case measure => simp [intOf]; omega
    · have hnx := fun (ty : TypeId) => run_next_nilMap (P := Tryf.prog) w ty 0 0 #[]
      go_wp2
      refine wp_loop_rounds 1 ?_
      rw [rounds_succ]
      go_wp2
      clear hnx hrn hmk
      have HM : Hid (((w.alloc (.mapIter none 0 #[] 0)).alloc (.map #[] 0)).ownsMap Tryf.prog 9 (plainElem (H := Unit) Tryf.prog 3) (w.heap.size + 1) 0 (rk vs 0)) := by
        have h := World.ownsMap_made (H := Unit) (w.alloc (.mapIter none 0 #[] 0)) Tryf.prog 9 (plainElem Tryf.prog 3)
        rw [World.size_alloc] at h
        exact h
      go_loopw [52] (fun i wr => ∃ k : Nat, k ≤ n ∧ i = .int .i64 k ∧ Hid (wr.ownsMap Tryf.prog 9 (plainElem (H := Unit) Tryf.prog 3) (w.heap.size + 1) k (rk vs k)) ∧ Hid (Below w.heap.size w wr)) (fun i _ => n - (intOf i).toNat)
      case atStart => exact ⟨0, Nat.zero_le _, rfl, HM, ((Below.refl _ _).alloc (Nat.le_refl _) _).alloc (by simp) _⟩
      case round =>
        obtain ⟨k2, hk2, rfl, HO, HB⟩ := hrel
        by_cases hlt2 : k2 < n
        · obtain ⟨s, hs⟩ : ∃ s, s = at' vs k2 := ⟨_, rfl⟩
          have hck : wr.cell? ⟨b1, o1 + k2, none⟩ = some (.string s) := by rw [hs, HB.out.cell (p := ⟨b1, o1 + k2, none⟩) hb1]; exact HC1.out k2 hlt2
          have he : s.toList.isEmpty = false := by rw [hs]; exact (HA.out.2.2.2 k2 hlt2).1
          have hsz : s.size ≤ maxLen := by rw [hs]; exact HV.out.size k2 hlt2
          have hhas : Maps.has (rk vs k2) (.string s.data.toList) = false := rk_not vs k2 s (fun j hj => by rw [hs]; exact (HA.out.2.2.2 k2 hlt2).2 j hj)
          have HN : Hid ((rk vs k2).put (.string s.data.toList) (.lit (.int .i64 k2)) = rk vs (k2 + 1)) := by rw [hs]; rfl
          have hbs := HB.out.size
          clear hs
          go_wp2_with (first
            | (at_lookup; refine wpList_lookup_own_ok_int _ rfl (.tmp 61) (.tmp 62) 38 rfl 9 3 .i64 law9 Tryf.underlying38 Tryf.underlying3 (zero3 _) (w.heap.size + 1) k2 (rk vs k2) rfl HO.out _ _ rfl (keyOf_string_mk Tryf.underlying9 hsz) ?_; intro c hat hwc)
            | (at_mapUpdate; refine wpList_mapUpdate_own _ rfl (.tmp 71) (.tmp 72) (.tmp 73) 38 rfl 9 3 law9 Tryf.underlying38 (plainElem (H := Unit) Tryf.prog 3) (w.heap.size + 1) k2 (rk vs k2) rfl HO.out (by unfold maxLen; omega) _ _ _ rfl rfl (keyOf_string_mk Tryf.underlying9 hsz) _ [] (plainElem_int Tryf.underlying3 (WalkArith.wf_i64 (by omega))) ?_; intro w1 hown1 hgrow1))
          go_roundw
          case rel => exact ⟨k2 + 1, by omega, by go_num, by rw [← HN.out]; exact hown1, HB.out.grown hgrow1 hbs (fun q hq => by cases hq; omega)⟩
          case measure => simp [intOf]; omega
        · have hkn : k2 = n := by omega
          have HE : Hid (wr.ownsMap Tryf.prog 9 (plainElem (H := Unit) Tryf.prog 3) (w.heap.size + 1) n (rk vs n)) := by
            have := HO.out
            rw [hkn] at this
            exact this
          clear hkn HO
          have hbs := HB.out.size
          go_wp2_with fail
          refine own_region' b1 o1 n cv vs (some ⟨b0, o0, none⟩) nr cr rs ⟨rfl, rfl, rfl, p1, hn, hcv, Nat.lt_of_lt_of_le hb1 hbs, HV.out.keep HB.out, fun j hj => (HB.out.cell (p := ⟨b1, o1 + j, none⟩) hb1).trans (HC1.out j hj), htv, hnr, hcr, HR.out.keep HB.out, htr⟩ (by kernel_rfl) ?_
          intro u B D w2 hB hown hmax hbel
          have HOW : Hid (w2.ownsMap Tryf.prog 9 (plainElem (H := Unit) Tryf.prog 9) B 4 D) := hown
          have HMX : Hid (∀ z, D.atKey KM z = .lit (.string (at' vs (n - 1)).data.toList)) := hmax
          have HRK : Hid (w2.ownsMap Tryf.prog 9 (plainElem (H := Unit) Tryf.prog 3) (w.heap.size + 1) n (rk vs n)) := HE.out.kept (grown_of_below hbel) (by simp)
          have HB2 : Hid (Below w.heap.size w w2) := HB.out.trans (hbel.mono hbs)
          have hbs2 := HB2.out.size
          clear hown hmax hbel HE HB
          go_wp2
          go_ret2
          refine ⟨_, rfl, ⟨w2.heap.size, B, w.heap.size + 1, D, rfl, hbs2, by simp, by simp, by simp, by simp, by omega, by omega, HOW.out.alloc _, HMX.out, HRK.out.alloc _⟩, HB2.out.alloc hbs2 _⟩

end Go.Proofs.Qxb6605783aFmt.Env
