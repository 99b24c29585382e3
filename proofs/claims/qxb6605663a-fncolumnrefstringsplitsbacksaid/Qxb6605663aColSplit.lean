import Derived.Test.Qxb6605663aColWalks
import Derived.Maps.AppendAt
namespace Go.Proofs.Qxb6605663a.fnColumnRefStringSplitsBack
open Go.ChangeShapes Go.WideShapes Go.ChangeAt Go.RowKit
set_option linter.unusedVariables false

theorem info9 : (Try.prog.info? 9).map (fun i => (i.zero, i.size, i.bytes)) = some (some (.string ⟨#[]⟩), 1, 16) := by kernel_rfl

/-- What one append leaves: one text more. -/
theorem owns_snoc {w : World} {B : Nat} {v : Value} {n : Nat} {out : List ByteArray} {x : ByteArray} (h : w.ownsRow B 9 1 v (out.length + 1) (out.map Value.string ++ [Value.string x])) :
    w.ownsRow B 9 1 v (out ++ [x]).length ((out ++ [x]).map Value.string) := by
  simpa using h

set_option maxHeartbeats 800000 in
theorem split_any (s : ByteArray) (w : World) (hs : s.size ≤ 1000000) :
    Calls Try.prog 8 #[.string s] w fun e w' => ∃ v, e = .returned v ∧ w'.ownsRow w.heap.size 9 1 v (splAll s).length ((splAll s).map Value.string) ∧ Below w.heap.size w w' := by
  obtain ⟨i0, hi, hz0, hz1, hz2⟩ := info_parts info9
  go_enter Try.func8, Try.ntmps8
  go_wp2
  go_loopw [3, 4, 5] (fun v st i wr => ∃ (k : Nat) (out : List ByteArray) (p : Nat), k ≤ s.size ∧ i = .int .i64 k ∧ st = .int .i64 p ∧ Hid (spl s k = (out, p)) ∧ wr.ownsRow w.heap.size 9 1 v out.length (out.map Value.string) ∧ Below w.heap.size w wr)
    (fun _ _ i _ => s.size - (intOf i).toNat)
  case atStart => exact ⟨0, [], 0, Nat.zero_le _, rfl, rfl, rfl, World.ownsRow_nil _ _ _ _, Below.refl _ _⟩
  case round =>
    obtain ⟨k, out, p, hk, rfl, rfl, HS, hown, hbel⟩ := hrel
    have hsz := hbel.size
    have hpk : p ≤ k := by have := (spl_le s k).1; rw [HS.out] at this; exact this
    have hol : out.length ≤ k := by have := (spl_le s k).2; rw [HS.out] at this; exact this
    by_cases hlt : k < s.size
    · by_cases he : s[k] = 46
      · have hb := byte_eq he
        have HN : Hid (spl s (k + 1) = (out ++ [s.extract p k], k + 1)) := by
          show spl s (k + 1) = _
          rw [spl_dot s k (by rw [getD_byte s k hlt]; exact he), HS.out]
        clear he
        go_wp2_with (at_builtin; refine wpList_append_own _ rfl (.tmp 16) (.tmp 21) 28 rfl w.heap.size 9 i0 (.string ⟨#[]⟩) 1 16 Try.underlying28 hi hz0 hz1 hz2 rfl (by decide) _ _ _ rfl (hown.alloc _) ⟨wr.heap.size, 0, none⟩ 1 1 [.string (s.extract p k)] rfl rfl (cell_one_new _ _ _) ?c2 ?c3 ?c4 ?c5 ?_)
        case c2 => intro u hu; simp at hu; subst hu; rfl
        case c3 => unfold maxLen; omega
        case c4 => omega
        case c5 => simp; omega
        intro v1 w1 hown1 hgrow1 _
        have R := owns_snoc (n := out.length) hown1
        have B1 : Below w.heap.size w w1 := (hbel.alloc hsz _).grown hgrow1 (by simp; omega) (fun q hq => (hown.lt q hq).1)
        clear hown1 hgrow1 hown hbel
        go_wp2
        go_roundw
        case rel => exact ⟨k + 1, out ++ [s.extract p k], k + 1, by omega, by go_num, by go_num, HN, R, B1⟩
        case measure => simp [intOf]; omega
      · have hb := byte_ne he
        have HN : Hid (spl s (k + 1) = (out, p)) := by
          show spl s (k + 1) = _
          rw [spl_plain s k (by rw [getD_byte s k hlt]; exact he), HS.out]
        clear he
        go_wp2
        go_roundw
        case rel => exact ⟨k + 1, out, p, by omega, by go_num, rfl, HN, hown, hbel⟩
        case measure => simp [intOf]; omega
    · have hks : k = s.size := by omega
      have HF : Hid (splAll s = out ++ [s.extract p s.size]) := by
        show splAll s = _
        unfold splAll
        rw [← hks, HS.out]
      clear hks
      go_wp2_with (at_builtin; refine wpList_append_own _ rfl (.tmp 25) (.tmp 29) 28 rfl w.heap.size 9 i0 (.string ⟨#[]⟩) 1 16 Try.underlying28 hi hz0 hz1 hz2 rfl (by decide) _ _ _ rfl (hown.alloc _) ⟨wr.heap.size, 0, none⟩ 1 1 [.string (s.extract p s.size)] rfl rfl (cell_one_new _ _ _) ?c2 ?c3 ?c4 ?c5 ?_)
      case c2 => intro u hu; simp at hu; subst hu; rfl
      case c3 => unfold maxLen; omega
      case c4 => omega
      case c5 => simp; omega
      intro v1 w1 hown1 hgrow1 _
      have R := owns_snoc (n := out.length) hown1
      have B1 : Below w.heap.size w w1 := (hbel.alloc hsz _).grown hgrow1 (by simp; omega) (fun q hq => (hown.lt q hq).1)
      clear hown1 hgrow1 hown hbel
      go_wp2
      go_ret
      exact ⟨_, rfl, by rw [HF.out]; exact R, B1⟩

end Go.Proofs.Qxb6605663a.fnColumnRefStringSplitsBack
