import Derived.Test.Qxb6605783aFmtCards
import Derived.WalkKit
import Derived.ProofKit
import Derived.OpenShut
import Derived.ShutString
import Derived.Handy
import Derived.Outline
import Derived.WalkSpells
import Derived.Deep.QuietTactic
import Derived.BigQuiet
import Derived.Maps.AppendAt
namespace Go.Proofs.Qxb6605783aFmt.Env
open Go.ChangeShapes Go.WideShapes Go.ChangeAt Go.RowKit
set_option linter.unusedVariables false

/-- The first n elements of the slice at 'a' are the texts ss. -/
def Strs (w : World) (a : Option Addr) (n : Nat) (ss : List ByteArray) : Prop :=
  ss.length = n ∧ (∀ s ∈ ss, s.size ≤ maxLen) ∧
  (n = 0 ∨ ∃ b off, a = some ⟨b, off, none⟩ ∧ b < w.heap.size ∧ ∀ j, j < n → w.cell? ⟨b, off + j, none⟩ = some (.string (ss.getD j ByteArray.empty)))

def tot : List ByteArray → Nat
  | [] => 0
  | s :: r => 16 + s.size + tot r

theorem tot_snoc (l : List ByteArray) (s : ByteArray) : tot (l ++ [s]) = tot l + (16 + s.size) := by
  induction l with
  | nil => simp [tot]
  | cons x r ih => simp only [List.cons_append, tot, ih]; omega

theorem take_snoc (ss : List ByteArray) (k : Nat) (h : k < ss.length) : ss.take (k + 1) = ss.take k ++ [ss.getD k ByteArray.empty] := by
  rw [List.take_succ_eq_append_getElem h, List.getD_eq_getElem?_getD, List.getElem?_eq_getElem h]
  rfl

theorem tot_take_succ (ss : List ByteArray) (k : Nat) (h : k < ss.length) : tot (ss.take (k + 1)) = tot (ss.take k) + (16 + (ss.getD k ByteArray.empty).size) := by
  rw [take_snoc ss k h, tot_snoc]

theorem Strs.size {w : World} {a : Option Addr} {n : Nat} {ss : List ByteArray} (h : Strs w a n ss) (k : Nat) (hk : k < n) : (ss.getD k ByteArray.empty).size ≤ maxLen := by
  have hk' : k < ss.length := by have := h.1; omega
  rw [List.getD_eq_getElem?_getD, List.getElem?_eq_getElem hk']
  exact h.2.1 _ (List.getElem_mem hk')

set_option maxHeartbeats 400000 in
theorem strBytes_zero (a : Option Addr) (cap : Nat) (w : World) :
    Calls Tryf.prog 6 #[.slice a 0 cap] w fun e w' => e = .returned (.int .i64 0) ∧ w = w' := by
  go_enter Tryf.func6, Tryf.ntmps6
  go_wp2
  go_rounds 1
  go_ret
  exact ⟨rfl, rfl⟩

set_option maxHeartbeats 400000 in
theorem strBytes_some (b off n cap : Nat) (ss : List ByteArray) (w : World) (hn : n ≤ 65536) (hl : ss.length = n) (hsz : ∀ k, k < n → (ss.getD k ByteArray.empty).size ≤ maxLen)
    (hc : ∀ j, j < n → w.cell? ⟨b, off + j, none⟩ = some (.string (ss.getD j ByteArray.empty))) :
    Calls Tryf.prog 6 #[.slice (some ⟨b, off, none⟩) n cap] w fun e w' => ∃ r : Int, e = .returned (.int .i64 r) ∧ 0 ≤ r ∧ r ≤ 2097152 ∧ (r ≤ 1048576 → tot ss ≤ 1048576) ∧ w = w' := by
  have HC : Hid (∀ j, j < n → w.cell? ⟨b, off + j, none⟩ = some (.string (ss.getD j ByteArray.empty))) := hc
  have HZ : Hid (∀ k, k < n → (ss.getD k ByteArray.empty).size ≤ maxLen) := hsz
  have HL : Hid (ss.length = n) := hl
  clear hc hsz hl
  go_enter Tryf.func6, Tryf.ntmps6
  go_wp2
  go_loop [3, 4] (fun t i => ∃ k r : Nat, k ≤ n ∧ r ≤ 1048576 ∧ i = .int .i64 k ∧ t = .int .i64 r ∧ Hid (tot (ss.take k) = r)) (fun _ i => n - (intOf i).toNat)
  case atStart => exact ⟨0, 0, Nat.zero_le _, Nat.zero_le _, rfl, rfl, rfl⟩
  case round =>
    obtain ⟨k, r, hk, hr, rfl, rfl, HT⟩ := hrel
    by_cases hlt : k < n
    · obtain ⟨s, hs⟩ : ∃ s, s = ss.getD k ByteArray.empty := ⟨_, rfl⟩
      have hck : w.cell? ⟨b, off + k, none⟩ = some (.string s) := by rw [hs]; exact HC.out k hlt
      have hz : s.size ≤ maxLen := by rw [hs]; exact HZ.out k hlt
      have HN : Hid (tot (ss.take (k + 1)) = r + (16 + s.size)) := by
        show tot (ss.take (k + 1)) = _
        rw [tot_take_succ ss k (by rw [HL.out]; exact hlt), HT.out, hs]
      unfold maxLen at hz
      clear hs
      by_cases h1 : 1048576 < s.size
      · go_wp2
        go_ret
        exact ⟨2097152, rfl, by decide, by decide, fun h => absurd h (by decide), rfl⟩
      · by_cases h2 : 1048576 < r + (16 + s.size)
        · go_wp2
          go_ret
          exact ⟨2097152, rfl, by decide, by decide, fun h => absurd h (by decide), rfl⟩
        · go_wp2
          go_round
          case rel => exact ⟨k + 1, r + (16 + s.size), by omega, by omega, by go_num, by go_num, HN⟩
          case measure => simp [intOf]; omega
    · have HF : Hid (tot ss = r) := by
        show tot ss = r
        rw [← HT.out, List.take_of_length_le (by rw [HL.out]; omega)]
      go_wp2
      go_ret
      exact ⟨r, rfl, by omega, by omega, fun _ => by rw [HF.out]; omega, rfl⟩

theorem strBytes_any (a : Option Addr) (n cap : Nat) (ss : List ByteArray) (w : World) (hn : n ≤ 65536) (hs : Strs w a n ss) :
    Calls Tryf.prog 6 #[.slice a n cap] w fun e w' => ∃ r : Int, e = .returned (.int .i64 r) ∧ 0 ≤ r ∧ r ≤ 2097152 ∧ (r ≤ 1048576 → tot ss ≤ 1048576) ∧ w = w' := by
  have hz := hs.size
  obtain ⟨hl, _, h0 | ⟨b, off, rfl, _, hc⟩⟩ := hs
  · subst h0
    refine (strBytes_zero a cap w).mono ?_
    rintro e w' ⟨rfl, rfl⟩
    obtain rfl : ss = [] := List.eq_nil_of_length_eq_zero hl
    exact ⟨0, rfl, by decide, by decide, fun _ => by simp [tot], rfl⟩
  · exact strBytes_some b off n cap ss w hn hl hz hc

end Go.Proofs.Qxb6605783aFmt.Env
