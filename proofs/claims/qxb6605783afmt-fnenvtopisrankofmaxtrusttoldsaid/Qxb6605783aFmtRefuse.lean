/-
  newEnv, where it refuses the query.
-/
import Derived.Test.Qxb6605783aFmtErrorf
import Derived.Test.Qxb6605783aFmtGrow
namespace Go.Proofs.Qxb6605783aFmt.Env
open Go.ChangeShapes Go.WideShapes Go.ChangeAt Go.RowKit Go.Maps Go.WideMaps
open Go.Extern.Stop Go.Stop Go.Extern
set_option linter.unusedVariables false

/-- The call hands back no env and an error that is not nil. -/
def Refused (e : Ending) : Prop := ∃ x : Addr, e = .returned (.tuple #[.pointer none, .iface 45 (.pointer (some x))])

theorem Refused.mk (x : Addr) : Refused (.returned (.tuple #[.pointer none, .iface 45 (.pointer (some x))])) := ⟨x, rfl⟩

/-- No place of the map for a key: no value ahead is that key. -/
theorem rk_fresh (vs : List ByteArray) (k : Nat) (s : ByteArray) (h : Maps.has (rk vs k) (ky s) = false) (j : Nat) (hj : j < k) : ((at' vs j).toList == s.toList) = false := by
  cases hq : ((at' vs j).toList == s.toList)
  · rfl
  · have e : (at' vs j).toList = s.toList := by simpa using hq
    have e2 : ky s = ky (at' vs j) := by
      unfold ky
      rw [ByteArray.toList_eq, ByteArray.toList_eq] at e
      rw [e]
    rw [e2, rk_has vs k j hj] at h
    cases h

theorem answers_below {F : Interp} {B : Nat} {w w' : World} (h : F.answers w.tape) (hb : Below B w w') : F.answers w'.tape := by
  rw [hb.tape]; exact h

set_option maxHeartbeats 400000 in
theorem new_no0 (a0 : Option Addr) (cr : Nat) (a1 : Option Addr) (n cv : Nat) (w : World) :
    Calls Tryf.prog 14 #[.slice a0 0 cr, .map none, .slice a1 n cv] w fun e w' => Refused e ∧ Below w.heap.size w w' := by
  go_enter Tryf.func14, Tryf.ntmps14
  go_wp2_with fail
  refine (errnew _ _).mono ?_
  rintro e w' ⟨rfl, rfl⟩
  go_wp2_with fail
  go_ret2
  exact ⟨Refused.mk _, (Below.refl _ _).alloc (Nat.le_refl _) _⟩

set_option maxHeartbeats 2000000 in
theorem new_no1 (b0 o0 nr cr : Nat) (rs : List ByteArray) (a1 : Option Addr) (cv : Nat) (w : World) (p0 : 0 < nr) (hnr : nr ≤ 65536)
    (hc0 : ∀ j, j < nr → w.cell? ⟨b0, o0 + j, none⟩ = some (.string (at' rs j))) :
    Calls Tryf.prog 14 #[.slice (some ⟨b0, o0, none⟩) nr cr, .map none, .slice a1 0 cv] w fun e w' => Refused e ∧ Below w.heap.size w w' := by
  have HC0 : Hid (∀ j, j < nr → w.cell? ⟨b0, o0 + j, none⟩ = some (.string (at' rs j))) := hc0
  clear hc0
  have h0 : ((nr : Int) == 0) = false := by rw [beq_eq_false_iff_ne]; omega
  have hrn := fun (W : World) => run_range_nilMap (P := Tryf.prog) W 36 9 9 Tryf.underlying36
  go_enter Tryf.func14, Tryf.ntmps14
  go_wp2
  go_loop [24] (fun i => ∃ k : Nat, k ≤ nr ∧ i = .int .i64 k) (fun i => nr - (intOf i).toNat)
  case atStart => exact ⟨0, Nat.zero_le _, rfl⟩
  case round =>
    obtain ⟨k, hk, rfl⟩ := hrel
    by_cases hlt : k < nr
    · obtain ⟨s, hs⟩ : ∃ s, s = at' rs k := ⟨_, rfl⟩
      have hck : w.cell? ⟨b0, o0 + k, none⟩ = some (.string s) := by rw [hs]; exact HC0.out k hlt
      clear hs
      cases he : s.toList.isEmpty
      · go_wp2
        go_round
        case rel => exact ⟨k + 1, by omega, by go_num⟩
        case measure => simp [intOf]; omega
      · go_wp2_with fail
        refine (errnew _ _).mono ?_
        rintro e w' ⟨rfl, rfl⟩
        go_wp2_with fail
        go_ret2
        exact ⟨Refused.mk _, (Below.refl _ _).alloc (Nat.le_refl _) _⟩
    · have hnx := fun (ty : TypeId) => run_next_nilMap (P := Tryf.prog) w ty 0 0 #[]
      go_wp2
      refine wp_loop_rounds 1 ?_
      rw [rounds_succ]
      go_wp2_with fail
      refine (errnew _ _).mono ?_
      rintro e w' ⟨rfl, rfl⟩
      go_wp2_with fail
      go_ret2
      exact ⟨Refused.mk _, ((Below.refl _ _).alloc (Nat.le_refl _) _).alloc (by simp) _⟩

set_option maxHeartbeats 4000000 in
theorem new_no2 (F : Interp) (b0 o0 nr cr : Nat) (rs : List ByteArray) (b1 o1 n cv : Nat) (vs : List ByteArray) (w : World) (hF : F.answers w.tape) (hna : ¬ Acc nr n rs vs)
    (p0 : 0 < nr) (p1 : 0 < n) (hz : ∀ k, k < n → (at' vs k).size ≤ maxLen) (hb1 : b1 < w.heap.size) (hc0 : ∀ j, j < nr → w.cell? ⟨b0, o0 + j, none⟩ = some (.string (at' rs j))) (hc1 : ∀ j, j < n → w.cell? ⟨b1, o1 + j, none⟩ = some (.string (at' vs j)))
    (hnr : nr ≤ 65536) (hn : n ≤ 65536) :
    Calls Tryf.prog 14 #[.slice (some ⟨b0, o0, none⟩) nr cr, .map none, .slice (some ⟨b1, o1, none⟩) n cv] w fun e w' => Refused e ∧ Below w.heap.size w w' := by
  have HA : Hid (¬ Acc nr n rs vs) := hna
  have HF : Hid (F.answers w.tape) := hF
  have HZ : Hid (∀ k, k < n → (at' vs k).size ≤ maxLen) := hz
  have HC0 : Hid (∀ j, j < nr → w.cell? ⟨b0, o0 + j, none⟩ = some (.string (at' rs j))) := hc0
  have HC1 : Hid (∀ j, j < n → w.cell? ⟨b1, o1 + j, none⟩ = some (.string (at' vs j))) := hc1
  clear hna hF hz hc0 hc1
  have h0 : ((nr : Int) == 0) = false := by rw [beq_eq_false_iff_ne]; omega
  have h1 : ((n : Int) == 0) = false := by rw [beq_eq_false_iff_ne]; omega
  have hrn := fun (W : World) => run_range_nilMap (P := Tryf.prog) W 36 9 9 Tryf.underlying36
  have hmk := fun (W : World) (z : Int) => makeHint W z
  go_enter Tryf.func14, Tryf.ntmps14
  go_wp2
  go_loop [24] (fun i => ∃ k : Nat, k ≤ nr ∧ i = .int .i64 k ∧ Hid (∀ j, j < k → (at' rs j).toList.isEmpty = false)) (fun i => nr - (intOf i).toNat)
  case atStart => exact ⟨0, Nat.zero_le _, rfl, fun j hj => absurd hj (by omega)⟩
  case round =>
    obtain ⟨k, hk, rfl, HR⟩ := hrel
    by_cases hlt : k < nr
    · obtain ⟨s, hs⟩ : ∃ s, s = at' rs k := ⟨_, rfl⟩
      have hck : w.cell? ⟨b0, o0 + k, none⟩ = some (.string s) := by rw [hs]; exact HC0.out k hlt
      have HSk : Hid (s = at' rs k) := hs
      clear hs
      cases he : s.toList.isEmpty
      · go_wp2
        go_round
        case rel =>
          refine ⟨k + 1, by omega, by go_num, fun j hj => ?_⟩
          by_cases e : j = k
          · subst e; rw [← HSk.out]; exact he
          · exact HR.out j (by omega)
        case measure => simp [intOf]; omega
      · go_wp2_with fail
        refine (errnew _ _).mono ?_
        rintro e w' ⟨rfl, rfl⟩
        go_wp2_with fail
        go_ret2
        exact ⟨Refused.mk _, (Below.refl _ _).alloc (Nat.le_refl _) _⟩
    · have HRall : Hid (∀ j, j < nr → (at' rs j).toList.isEmpty = false) := fun j hj => HR.out j (by omega)
      clear HR
      have hnx := fun (ty : TypeId) => run_next_nilMap (P := Tryf.prog) w ty 0 0 #[]
      go_wp2
      refine wp_loop_rounds 1 ?_
      rw [rounds_succ]
      go_wp2
      clear hnx hrn hmk
      have HM : Hid (((w.alloc (.mapIter none 0 #[] 0)).alloc (.map #[] 0)).ownsMap Tryf.prog 9 (plainElem (H := Unit) Tryf.prog 3) (w.heap.size + 1) 0 (rk vs 0)) := by
        have h := World.ownsMap_made (H := Unit) (w.alloc (.mapIter none 0 #[] 0)) Tryf.prog 9 (plainElem Tryf.prog 3)
        rw [World.size_alloc] at h
        exact h
      go_loopw [52] (fun i wr => ∃ k : Nat, k ≤ n ∧ i = .int .i64 k ∧ Hid (wr.ownsMap Tryf.prog 9 (plainElem (H := Unit) Tryf.prog 3) (w.heap.size + 1) k (rk vs k)) ∧ Hid (Below w.heap.size w wr) ∧ Hid (∀ i, i < k → (at' vs i).toList.isEmpty = false ∧ ∀ j, j < i → ((at' vs j).toList == (at' vs i).toList) = false)) (fun i _ => n - (intOf i).toNat)
      case atStart => exact ⟨0, Nat.zero_le _, rfl, HM, ((Below.refl _ _).alloc (Nat.le_refl _) _).alloc (by simp) _, fun j hj => absurd hj (by omega)⟩
      case round =>
        obtain ⟨k2, hk2, rfl, HO, HB, HV⟩ := hrel
        by_cases hlt2 : k2 < n
        · obtain ⟨s, hs⟩ : ∃ s, s = at' vs k2 := ⟨_, rfl⟩
          have hck : wr.cell? ⟨b1, o1 + k2, none⟩ = some (.string s) := by rw [hs, HB.out.cell (p := ⟨b1, o1 + k2, none⟩) hb1]; exact HC1.out k2 hlt2
          have hsz : s.size ≤ maxLen := by rw [hs]; exact HZ.out k2 hlt2
          have HN : Hid ((rk vs k2).put (.string s.data.toList) (.lit (.int .i64 k2)) = rk vs (k2 + 1)) := by rw [hs]; rfl
          have HSk : Hid (s = at' vs k2) := hs
          have hbs := HB.out.size
          have HF2 : Hid (F.answers wr.tape) := answers_below HF.out HB.out
          clear hs
          cases he : s.toList.isEmpty
          · cases hhas : Maps.has (rk vs k2) (.string s.data.toList)
            · go_wp2_with (first
                | (at_lookup; refine wpList_lookup_own_ok_int _ rfl (.tmp 61) (.tmp 62) 38 rfl 9 3 .i64 law9 Tryf.underlying38 Tryf.underlying3 (zero3 _) (w.heap.size + 1) k2 (rk vs k2) rfl HO.out _ _ rfl (keyOf_string_mk Tryf.underlying9 hsz) ?_; intro c hat hwc)
                | (at_mapUpdate; refine wpList_mapUpdate_own _ rfl (.tmp 71) (.tmp 72) (.tmp 73) 38 rfl 9 3 law9 Tryf.underlying38 (plainElem (H := Unit) Tryf.prog 3) (w.heap.size + 1) k2 (rk vs k2) rfl HO.out (by unfold maxLen; omega) _ _ _ rfl rfl (keyOf_string_mk Tryf.underlying9 hsz) _ [] (plainElem_int Tryf.underlying3 (WalkArith.wf_i64 (by omega))) ?_; intro w1 hown1 hgrow1))
              go_roundw
              case rel =>
                refine ⟨k2 + 1, by omega, by go_num, by rw [← HN.out]; exact hown1, HB.out.grown hgrow1 hbs (fun q hq => by cases hq; omega), fun i hi => ?_⟩
                by_cases e : i = k2
                · subst e; rw [← HSk.out]; exact ⟨he, rk_fresh vs i s hhas⟩
                · exact HV.out i (by omega)
              case measure => simp [intOf]; omega
            · go_wp2_with (at_lookup; refine wpList_lookup_own_ok_int _ rfl (.tmp 61) (.tmp 62) 38 rfl 9 3 .i64 law9 Tryf.underlying38 Tryf.underlying3 (zero3 _) (w.heap.size + 1) k2 (rk vs k2) rfl HO.out _ _ rfl (keyOf_string_mk Tryf.underlying9 hsz) ?_; intro c hat hwc)
              refine (errorf_dup F s _ _ (by exact HF2.out) (by go_simp)).mono ?_
              rintro e w' ⟨rfl, rfl⟩
              go_wp2_with fail
              go_ret2
              exact ⟨Refused.mk _, ((HB.out.alloc hbs _).alloc (by simp; omega) _).drew⟩
          · go_wp2_with fail
            refine (errnew _ _).mono ?_
            rintro e w' ⟨rfl, rfl⟩
            go_wp2_with fail
            go_ret2
            exact ⟨Refused.mk _, HB.out.alloc hbs _⟩
        · exact absurd (show Acc nr n rs vs from ⟨p0, p1, HRall.out, fun i hi => HV.out i (by omega)⟩) HA.out

/-- newEnv refuses whatever envAccepts refuses. -/
theorem new_no (F : Interp) (a0 : Option Addr) (nr cr : Nat) (rs : List ByteArray) (a1 : Option Addr) (n cv : Nat) (vs : List ByteArray) (w : World) (hF : F.answers w.tape) (hna : ¬ Acc nr n rs vs) (hr : Strs w a0 nr rs) (hv : Strs w a1 n vs) (hnr : nr ≤ 65536) (hn : n ≤ 65536) :
    Calls Tryf.prog 14 #[.slice a0 nr cr, .map none, .slice a1 n cv] w fun e w' => Refused e ∧ Below w.heap.size w w' := by
  by_cases z0 : nr = 0
  · subst z0; exact new_no0 a0 cr a1 n cv w
  have hz := hv.size
  obtain ⟨_, _, h | ⟨b0, o0, rfl, _, hc0⟩⟩ := hr
  · exact absurd h z0
  by_cases z1 : n = 0
  · subst z1; exact new_no1 b0 o0 nr cr rs a1 cv w (by omega) hnr hc0
  obtain ⟨_, _, h | ⟨b1, o1, rfl, hb1, hc1⟩⟩ := hv
  · exact absurd h z1
  exact new_no2 F b0 o0 nr cr rs b1 o1 n cv vs w hF hna (by omega) (by omega) hz hb1 hc0 hc1 hnr hn

set_option maxHeartbeats 400000 in
theorem zznew_no (F : Interp) (a0 : Option Addr) (nr cr : Nat) (rs : List ByteArray) (a1 : Option Addr) (n cv : Nat) (vs : List ByteArray) (w : World) (hF : F.answers w.tape) (hna : ¬ Acc nr n rs vs) (hr : Strs w a0 nr rs) (hv : Strs w a1 n vs) (hnr : nr ≤ 65536) (hn : n ≤ 65536) :
    Calls Tryf.prog 9 #[.slice a0 nr cr, .map none, .slice a1 n cv] w fun e w' => Refused e ∧ Below w.heap.size w w' := by
  have HH : Hid (Calls Tryf.prog 14 #[.slice a0 nr cr, .map none, .slice a1 n cv] w fun e w' => Refused e ∧ Below w.heap.size w w') := new_no F a0 nr cr rs a1 n cv vs w hF hna hr hv hnr hn
  clear hF hna hr hv
  go_enter Tryf.func9, Tryf.ntmps9
  go_wp2_with fail
  refine HH.out.mono ?_
  rintro e w' ⟨⟨x, rfl⟩, hbel⟩
  have HB : Hid (Below w.heap.size w w') := hbel
  clear hbel HH
  go_wp2
  go_ret2
  exact ⟨Refused.mk _, HB.out⟩

end Go.Proofs.Qxb6605783aFmt.Env
