import Derived.Test.Qxb6605783aFmtBase
namespace Go.Proofs.Qxb6605783aFmt.Env
open Go.ChangeShapes Go.WideShapes Go.ChangeAt Go.RowKit
set_option linter.unusedVariables false

/-- The call returns some bool. -/
def RetB (e : Ending) : Prop := ∃ b : Bool, e = .returned (.bool b)

theorem Strs.at {w : World} {a : Option Addr} {n : Nat} {ss : List ByteArray} (h : Strs w a n ss) (k : Nat) (hk : k < n) :
    ∃ b off s, a = some ⟨b, off, none⟩ ∧ b < w.heap.size ∧ w.cell? ⟨b, off + k, none⟩ = some (.string s) ∧ s.size ≤ maxLen ∧ s = ss.getD k ByteArray.empty := by
  have hz := h.size k hk
  obtain ⟨_, _, h0 | ⟨b, off, rfl, hb, hc⟩⟩ := h
  · omega
  · exact ⟨b, off, _, rfl, hb, hc k hk, hz, rfl⟩

set_option maxHeartbeats 1000000 in
theorem sized13 (a0 : Option Addr) (n0 c0 : Nat) (s0 : List ByteArray) (a1 : Option Addr) (n1 c1 : Nat) (s1 : List ByteArray) (x : ByteArray) (w : World)
    (h0 : Strs w a0 n0 s0) (h1 : Strs w a1 n1 s1) (w0 : n0 ≤ maxLen) (w1 : n1 ≤ maxLen) (w2 : x.size ≤ maxLen) :
    Calls Tryf.prog 13 #[.slice a0 n0 c0, .slice a1 n1 c1, .string x] w fun e w' => RetB e ∧ w = w' := by
  have H0 : Hid (Strs w a0 n0 s0) := h0
  have H1 : Hid (Strs w a1 n1 s1) := h1
  clear h0 h1
  unfold maxLen at w0 w1 w2
  by_cases l0 : 1048576 < n0
  · go_enter Tryf.func13, Tryf.ntmps13
    go_wp2
    go_ret
    exact ⟨⟨_, rfl⟩, rfl⟩
  go_enter Tryf.func13, Tryf.ntmps13
  go_wp2
  go_loop [7, 8] (fun t i => ∃ k r : Nat, k ≤ n0 ∧ r ≤ 1048576 ∧ i = .int .i64 k ∧ t = .int .i64 r) (fun _ i => n0 - (intOf i).toNat)
  case atStart => exact ⟨0, n0, Nat.zero_le _, by omega, rfl, rfl⟩
  case round =>
    obtain ⟨k, r, hk, hr, rfl, rfl⟩ := hrel
    by_cases hlt : k < n0
    · obtain ⟨b, off, s, rfl, hb, hck, hz, -⟩ := H0.out.at k hlt
      unfold maxLen at hz
      by_cases h1 : 1048576 < s.size
      · go_wp2
        go_ret
        exact ⟨⟨_, rfl⟩, rfl⟩
      · by_cases h2 : 1048576 < r + s.size
        · go_wp2
          go_ret
          exact ⟨⟨_, rfl⟩, rfl⟩
        · go_wp2
          go_round
          case rel => exact ⟨k + 1, r + s.size, by omega, by omega, by go_num, by go_num⟩
          case measure => simp [intOf]; omega
    · by_cases l1 : 1048576 < n1
      · go_wp2
        go_ret
        exact ⟨⟨_, rfl⟩, rfl⟩
      by_cases l2 : 1048576 < r + n1
      · go_wp2
        go_ret
        exact ⟨⟨_, rfl⟩, rfl⟩
      go_wp2
      go_loop [7, 9] (fun t i => ∃ k r : Nat, k ≤ n1 ∧ r ≤ 1048576 ∧ i = .int .i64 k ∧ t = .int .i64 r) (fun _ i => n1 - (intOf i).toNat)
      case atStart => exact ⟨0, r + n1, Nat.zero_le _, by omega, rfl, by go_num⟩
      case round =>
        obtain ⟨k1, r1, hk1, hr1, rfl, rfl⟩ := hrel
        by_cases hlt1 : k1 < n1
        · obtain ⟨b, off, s, rfl, hb, hck, hz, -⟩ := H1.out.at k1 hlt1
          unfold maxLen at hz
          by_cases h1 : 1048576 < s.size
          · go_wp2
            go_ret
            exact ⟨⟨_, rfl⟩, rfl⟩
          · by_cases h2 : 1048576 < r1 + s.size
            · go_wp2
              go_ret
              exact ⟨⟨_, rfl⟩, rfl⟩
            · go_wp2
              go_round
              case rel => exact ⟨k1 + 1, r1 + s.size, by omega, by omega, by go_num, by go_num⟩
              case measure => simp [intOf]; omega
        · go_wp2
          all_goals
            go_ret
            exact ⟨⟨_, rfl⟩, rfl⟩

set_option maxHeartbeats 1000000 in
theorem sized5 (a0 : Option Addr) (n0 c0 : Nat) (s0 : List ByteArray) (a1 : Option Addr) (n1 c1 : Nat) (s1 : List ByteArray) (w : World)
    (h0 : Strs w a0 n0 s0) (h1 : Strs w a1 n1 s1) (w0 : n0 ≤ maxLen) (w1 : n1 ≤ maxLen) :
    Calls Tryf.prog 5 #[.slice a0 n0 c0, .slice a1 n1 c1] w fun e w' => RetB e ∧ w = w' := by
  have H0 : Hid (Strs w a0 n0 s0) := h0
  have H1 : Hid (Strs w a1 n1 s1) := h1
  clear h0 h1
  unfold maxLen at w0 w1
  by_cases l0 : 1048576 < n0
  · go_enter Tryf.func5, Tryf.ntmps5
    go_wp2
    go_ret
    exact ⟨⟨_, rfl⟩, rfl⟩
  go_enter Tryf.func5, Tryf.ntmps5
  go_wp2
  go_loop [5, 6] (fun t i => ∃ k r : Nat, k ≤ n0 ∧ r ≤ 1048576 ∧ i = .int .i64 k ∧ t = .int .i64 r) (fun _ i => n0 - (intOf i).toNat)
  case atStart => exact ⟨0, n0, Nat.zero_le _, by omega, rfl, rfl⟩
  case round =>
    obtain ⟨k, r, hk, hr, rfl, rfl⟩ := hrel
    by_cases hlt : k < n0
    · obtain ⟨b, off, s, rfl, hb, hck, hz, -⟩ := H0.out.at k hlt
      unfold maxLen at hz
      by_cases h1 : 1048576 < s.size
      · go_wp2
        go_ret
        exact ⟨⟨_, rfl⟩, rfl⟩
      · by_cases h2 : 1048576 < r + s.size
        · go_wp2
          go_ret
          exact ⟨⟨_, rfl⟩, rfl⟩
        · go_wp2
          go_round
          case rel => exact ⟨k + 1, r + s.size, by omega, by omega, by go_num, by go_num⟩
          case measure => simp [intOf]; omega
    · by_cases l1 : 1048576 < n1
      · go_wp2
        go_ret
        exact ⟨⟨_, rfl⟩, rfl⟩
      by_cases l2 : 1048576 < r + n1
      · go_wp2
        go_ret
        exact ⟨⟨_, rfl⟩, rfl⟩
      go_wp2
      go_loop [5, 7] (fun t i => ∃ k r : Nat, k ≤ n1 ∧ r ≤ 1048576 ∧ i = .int .i64 k ∧ t = .int .i64 r) (fun _ i => n1 - (intOf i).toNat)
      case atStart => exact ⟨0, r + n1, Nat.zero_le _, by omega, rfl, by go_num⟩
      case round =>
        obtain ⟨k1, r1, hk1, hr1, rfl, rfl⟩ := hrel
        by_cases hlt1 : k1 < n1
        · obtain ⟨b, off, s, rfl, hb, hck, hz, -⟩ := H1.out.at k1 hlt1
          unfold maxLen at hz
          by_cases h1 : 1048576 < s.size
          · go_wp2
            go_ret
            exact ⟨⟨_, rfl⟩, rfl⟩
          · by_cases h2 : 1048576 < r1 + s.size
            · go_wp2
              go_ret
              exact ⟨⟨_, rfl⟩, rfl⟩
            · go_wp2
              go_round
              case rel => exact ⟨k1 + 1, r1 + s.size, by omega, by omega, by go_num, by go_num⟩
              case measure => simp [intOf]; omega
        · go_wp2
          all_goals
            go_ret
            exact ⟨⟨_, rfl⟩, rfl⟩

end Go.Proofs.Qxb6605783aFmt.Env
