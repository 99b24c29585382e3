import Derived.Test.Qxb6605783aFmtClone
namespace Go.Proofs.Qxb6605783aFmt.Env
open Go.ChangeShapes Go.WideShapes Go.ChangeAt Go.RowKit
set_option linter.unusedVariables false

def at' (ss : List ByteArray) (k : Nat) : ByteArray := ss.getD k ByteArray.empty

/-- The query is one that newEnv takes. -/
def Acc (n0 n1 : Nat) (rs vs : List ByteArray) : Prop :=
  0 < n0 ∧ 0 < n1 ∧ (∀ k, k < n0 → (at' rs k).toList.isEmpty = false) ∧ ∀ k, k < n1 → (at' vs k).toList.isEmpty = false ∧ ∀ j, j < k → ((at' vs j).toList == (at' vs k).toList) = false

/-- The call returns a bool that is true just if p. -/
def RetP (e : Ending) (p : Prop) : Prop := ∃ b : Bool, e = .returned (.bool b) ∧ (b = true ↔ p)

theorem RetP.yes {p : Prop} (h : p) : RetP (.returned (.bool true)) p := ⟨true, rfl, by simp [h]⟩
theorem RetP.no {p : Prop} (h : ¬ p) : RetP (.returned (.bool false)) p := ⟨false, rfl, by simp [h]⟩

set_option maxHeartbeats 400000 in
theorem acc_zero0 (a0 : Option Addr) (c0 : Nat) (a1 : Option Addr) (n1 c1 : Nat) (rs vs : List ByteArray) (w : World) :
    Calls Tryf.prog 8 #[.slice a0 0 c0, .slice a1 n1 c1] w fun e w' => RetP e (Acc 0 n1 rs vs) ∧ ∃ m, w' = w.drewN m := by
  go_enter Tryf.func8, Tryf.ntmps8
  go_wp2
  go_ret
  exact ⟨RetP.no (fun h => absurd h.1 (by omega)), 0, rfl⟩

set_option maxHeartbeats 400000 in
theorem acc_zero1 (a0 : Option Addr) (n0 c0 : Nat) (a1 : Option Addr) (c1 : Nat) (rs vs : List ByteArray) (w : World) (hn : 0 < n0) (hm : n0 ≤ 65536) :
    Calls Tryf.prog 8 #[.slice a0 n0 c0, .slice a1 0 c1] w fun e w' => RetP e (Acc n0 0 rs vs) ∧ ∃ m, w' = w.drewN m := by
  have h0 : ((n0 : Int) == 0) = false := by rw [beq_eq_false_iff_ne]; omega
  go_enter Tryf.func8, Tryf.ntmps8
  go_wp2
  go_ret
  exact ⟨RetP.no (fun h => absurd h.2.1 (by omega)), 0, rfl⟩

set_option maxHeartbeats 2000000 in
theorem acc_main (b0 o0 n0 c0 b1 o1 n1 c1 : Nat) (rs vs : List ByteArray) (w : World) (hn0 : 0 < n0) (hm0 : n0 ≤ 65536) (hn1 : 0 < n1) (hm1 : n1 ≤ 65536)
    (hc0 : ∀ j, j < n0 → w.cell? ⟨b0, o0 + j, none⟩ = some (.string (rs.getD j ByteArray.empty))) (hc1 : ∀ j, j < n1 → w.cell? ⟨b1, o1 + j, none⟩ = some (.string (vs.getD j ByteArray.empty))) :
    Calls Tryf.prog 8 #[.slice (some ⟨b0, o0, none⟩) n0 c0, .slice (some ⟨b1, o1, none⟩) n1 c1] w fun e w' => RetP e (Acc n0 n1 rs vs) ∧ ∃ m, w' = w.drewN m := by
  have HC0 : Hid (∀ j, j < n0 → w.cell? ⟨b0, o0 + j, none⟩ = some (.string (at' rs j))) := hc0
  have HC1 : Hid (∀ j, j < n1 → w.cell? ⟨b1, o1 + j, none⟩ = some (.string (at' vs j))) := hc1
  clear hc0 hc1
  have h0 : ((n0 : Int) == 0) = false := by rw [beq_eq_false_iff_ne]; omega
  have h1 : ((n1 : Int) == 0) = false := by rw [beq_eq_false_iff_ne]; omega
  go_enter Tryf.func8, Tryf.ntmps8
  go_wp2
  go_loop [5] (fun i => ∃ k : Nat, k ≤ n0 ∧ i = .int .i64 k ∧ Hid (∀ j, j < k → (at' rs j).toList.isEmpty = false)) (fun i => n0 - (intOf i).toNat)
  case atStart => exact ⟨0, Nat.zero_le _, rfl, fun j hj => absurd hj (by omega)⟩
  case round =>
    obtain ⟨k, hk, rfl, HR⟩ := hrel
    by_cases hlt : k < n0
    · obtain ⟨s, hs⟩ : ∃ s, s = at' rs k := ⟨_, rfl⟩
      have hck : w.cell? ⟨b0, o0 + k, none⟩ = some (.string s) := by rw [hs]; exact HC0.out k hlt
      have HSk : Hid (s = at' rs k) := hs
      clear hs
      cases he : s.toList.isEmpty
      · go_wp2
        go_round
        case rel =>
          refine ⟨k + 1, by omega, by go_num, fun j hj => ?_⟩
          by_cases e : j = k
          · subst e; rw [← HSk.out]; exact he
          · exact HR.out j (by omega)
        case measure => simp [intOf]; omega
      · go_wp2
        go_ret
        exact ⟨RetP.no (fun h => by have := h.2.2.1 k hlt; rw [← HSk.out, he] at this; cases this), 0, rfl⟩
    · have HRall : Hid (∀ j, j < n0 → (at' rs j).toList.isEmpty = false) := fun j hj => HR.out j (by omega)
      clear HR
      go_wp2
      go_loopw [6] (fun i wr => ∃ k m : Nat, k ≤ n1 ∧ i = .int .i64 k ∧ wr = w.drewN m ∧ Hid (∀ i, i < k → (at' vs i).toList.isEmpty = false ∧ ∀ j, j < i → ((at' vs j).toList == (at' vs i).toList) = false)) (fun i _ => n1 - (intOf i).toNat)
      case atStart => exact ⟨0, 0, Nat.zero_le _, rfl, rfl, fun j hj => absurd hj (by omega)⟩
      case round =>
        obtain ⟨k1, m1, hk1, rfl, rfl, HV⟩ := hrel
        by_cases hlt1 : k1 < n1
        · obtain ⟨s, hs⟩ : ∃ s, s = at' vs k1 := ⟨_, rfl⟩
          have hck : w.cell? ⟨b1, o1 + k1, none⟩ = some (.string s) := by rw [hs]; exact HC1.out k1 hlt1
          have HSk : Hid (s = at' vs k1) := hs
          clear hs
          cases he : s.toList.isEmpty
          · go_wp2
            go_loopw [7] (fun i wr => ∃ j m : Nat, j ≤ k1 ∧ i = .int .i64 j ∧ wr = w.drewN m ∧ Hid (∀ i, i < j → ((at' vs i).toList == s.toList) = false)) (fun i _ => k1 - (intOf i).toNat)
            case atStart => exact ⟨0, m1, Nat.zero_le _, rfl, rfl, fun j hj => absurd hj (by omega)⟩
            case round =>
              obtain ⟨j1, m2, hj1, rfl, rfl, HJ⟩ := hrel
              by_cases hlt2 : j1 < k1
              · obtain ⟨u, hu⟩ : ∃ u, u = at' vs j1 := ⟨_, rfl⟩
                have hcu : w.cell? ⟨b1, o1 + j1, none⟩ = some (.string u) := by rw [hu]; exact HC1.out j1 (by omega)
                have HUk : Hid (u = at' vs j1) := hu
                have hj1n : j1 < n1 := by omega
                clear hu
                cases hq : (u.toList == s.toList)
                · go_wp2_with fail
                  go_quiet (fail)
                  go_wp2
                  go_roundw
                  case rel =>
                    refine ⟨j1 + 1, _, by omega, by go_num, rfl, fun i hi => ?_⟩
                    by_cases e : i = j1
                    · subst e; rw [← HUk.out]; exact hq
                    · exact HJ.out i (by omega)
                  case measure => simp [intOf]; omega
                · go_wp2_with fail
                  go_quiet (fail)
                  go_wp2
                  go_ret
                  exact ⟨RetP.no (fun h => by have := (h.2.2.2 k1 hlt1).2 j1 hlt2; rw [← HUk.out, ← HSk.out, hq] at this; cases this), _, World.drewN_drewN _ _ _⟩
              · go_wp2
                go_roundw
                case rel =>
                  refine ⟨k1 + 1, _, by omega, by go_num, rfl, fun i hi => ?_⟩
                  by_cases e : i = k1
                  · subst e; rw [← HSk.out]; exact ⟨he, fun j hj => HJ.out j (by omega)⟩
                  · exact HV.out i (by omega)
                case measure => simp [intOf]; omega
          · go_wp2
            go_ret
            exact ⟨RetP.no (fun h => by have := (h.2.2.2 k1 hlt1).1; rw [← HSk.out, he] at this; cases this), _, rfl⟩
        · go_wp2
          go_ret
          exact ⟨RetP.yes ⟨hn0, hn1, HRall.out, fun i hi => HV.out i (by omega)⟩, _, rfl⟩

theorem acc_any (a0 : Option Addr) (n0 c0 : Nat) (rs : List ByteArray) (a1 : Option Addr) (n1 c1 : Nat) (vs : List ByteArray) (w : World) (h0 : Strs w a0 n0 rs) (h1 : Strs w a1 n1 vs) (hm0 : n0 ≤ 65536) (hm1 : n1 ≤ 65536) :
    Calls Tryf.prog 8 #[.slice a0 n0 c0, .slice a1 n1 c1] w fun e w' => RetP e (Acc n0 n1 rs vs) ∧ ∃ m, w' = w.drewN m := by
  obtain ⟨_, _, h | ⟨b0, o0, rfl, _, hc0⟩⟩ := h0
  · subst h; exact acc_zero0 a0 c0 a1 n1 c1 rs vs w
  · by_cases hz : n0 = 0
    · subst hz; exact acc_zero0 _ c0 a1 n1 c1 rs vs w
    · obtain ⟨_, _, h | ⟨b1, o1, rfl, _, hc1⟩⟩ := h1
      · subst h; exact acc_zero1 _ n0 c0 a1 c1 rs vs w (by omega) hm0
      · by_cases hz1 : n1 = 0
        · subst hz1; exact acc_zero1 _ n0 c0 _ c1 rs vs w (by omega) hm0
        · exact acc_main b0 o0 n0 c0 b1 o1 n1 c1 rs vs w (by omega) hm0 (by omega) hm1 hc0 hc1

end Go.Proofs.Qxb6605783aFmt.Env
