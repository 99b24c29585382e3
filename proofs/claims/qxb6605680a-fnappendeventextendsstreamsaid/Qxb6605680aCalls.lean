import Derived.Test.Qxb6605680aRows
import Derived.Test.Qxb6605680aLaws
import Derived.WalkKit
import Derived.ProofKit
import Derived.OpenShut
import Derived.ShutString
import Derived.Handy
import Derived.Outline
import Derived.WalkSpells
import Derived.Deep.QuietTactic
import Derived.BigQuiet
import Derived.Maps.AppendAt
import Derived.Laws.CopyOwn
import Derived.Laws.AppendOwnNone
namespace Go.Proofs.Qxb6605680a.fnAppendEventExtendsStream
open Go.ChangeShapes Go.WideShapes Go.ChangeAt Go.RowKit Go.Lib
set_option linter.unusedVariables false

theorem info5 : (Try.prog.info? 5).map (fun i => (i.zero, i.size, i.bytes)) = some (some (.int .u8 0), 1, 1) := by kernel_rfl
theorem size5 : (Try.prog.info? 5).map (·.size) = some 1 := by kernel_rfl

theorem grown_of_below {w w' : World} (h : Below w.heap.size w w') : w.grownBy w' none := ⟨h.os, h.tape, h.output, h.size, fun k hk _ => h.block k hk⟩
theorem owns_keep {w w' : World} {B : Nat} {v : Value} {n : Nat} {xs : List Value} (h : w.ownsRow B 5 1 v n xs) (hb : Below w.heap.size w w') : w'.ownsRow B 5 1 v n xs :=
  h.kept (grown_of_below hb) (by cases v.ownBlock <;> simp)
theorem below_of_grown {B : Nat} {w W w1 : World} {v : Value} {n : Nat} {xs : List Value} (hb : Below B w W) (hB : B ≤ W.heap.size) (ho : W.ownsRow B 5 1 v n xs) (hg : W.grownBy w1 v.ownBlock) : Below B w w1 :=
  hb.grown hg hB (fun q hq => (ho.lt q hq).1)
theorem below_drewN' {B : Nat} {a w : World} (h : Below B a w) (n : Nat) : Below B a (w.drewN n) := h.trans ⟨rfl, rfl, rfl, Nat.le_refl _, fun _ _ => rfl⟩

/-- The row behind the copy. -/
theorem owns_row_copied {w : World} {B g : Nat} {cur : List Value} {len : Nat} {xs : List Value} (hB : B ≤ g) (hlen : len ≤ maxLen) (hg : w.heap[g]? = some (.cells (splice cur 0 xs).toArray 5 (0, 0))) (hc : cur.length = len) (hx : xs.length = len) :
    w.ownsRow B 5 1 (.slice (some ⟨g, 0, none⟩) len len) len xs := by
  have hs : splice cur 0 xs = xs := by
    unfold splice
    rw [List.drop_eq_nil_of_le (by omega)]
    simp
  rw [hs] at hg
  exact ⟨by simpa using hx, .inr ⟨g, len, _, rfl, hB, hg, Nat.le_refl _, hlen, by simp [hx], by simp [← hx]⟩⟩

theorem made_cur {w : World} {B g n : Nat} {xs : List Value} (h : w.ownsRow B 5 1 (.slice (some ⟨g, 0, none⟩) n n) n xs) : ∃ cur, w.heap[g]? = some (.cells cur 5 (0, 0)) ∧ cur.size = n := by
  rcases h.2 with ⟨h', _⟩ | ⟨g', cap', cur, h', _, hg, _, _, hcs, _⟩
  · simp at h'
  · simp only [Value.slice.injEq, Option.some.injEq, Addr.mk.injEq, and_true, true_and] at h'
    obtain ⟨rfl, rfl⟩ := h'
    exact ⟨cur, hg, by simpa using hcs⟩

set_option maxHeartbeats 400000 in
theorem clone_nil (w : World) :
    Calls Try.prog 7 #[.slice none 0 0] w fun e w' => e = .returned (.slice none 0 0) ∧ w = w' := by
  have q22 : ∀ (w : World) (a : Option Addr) (n c n' c' : Nat), (binOp .eql 22 (.slice a n c) (.slice none n' c')).run Try.prog w = .ok (.bool a.isNone) w := fun w a n c n' c' => Lib.run_eql_slice_nil w _ _ a n c n' c' Try.underlying22
  go_enter Try.func7, Try.ntmps7
  go_wp2
  go_ret
  exact ⟨rfl, rfl⟩

set_option maxHeartbeats 400000 in
theorem clone_some (x : Addr) (len cap : Nat) (xs : List Value) (w : World) (hlen : len ≤ 1048576) (hcap : len ≤ cap) (hx : xs.length = len) (hcell : ∀ j u, xs[j]? = some u → w.cell? (x.add j) = some u) (hone : ∀ u ∈ xs, u.oneCell' = true) :
    Calls Try.prog 7 #[.slice (some x) len cap] w fun e w' => e = .returned (.slice (some ⟨w.heap.size, 0, none⟩) len len) ∧ w'.ownsRow w.heap.size 5 1 (.slice (some ⟨w.heap.size, 0, none⟩) len len) len xs ∧ Below w.heap.size w w' := by
  have q22 : ∀ (w : World) (a : Option Addr) (n c n' c' : Nat), (binOp .eql 22 (.slice a n c) (.slice none n' c')).run Try.prog w = .ok (.bool a.isNone) w := fun w a n c n' c' => Lib.run_eql_slice_nil w _ _ a n c n' c' Try.underlying22
  obtain ⟨i0, hi, hz0, hz1, hz2⟩ := info_parts info5
  have HC : Hid (∀ j u, xs[j]? = some u → w.cell? (x.add j) = some u) := hcell
  clear hcell
  go_enter Try.func7, Try.ntmps7
  go_wp2_with (at_make; refine wpList_make_full _ rfl (.tmp 7) (.tmp 7) 22 rfl w.heap.size 5 i0 (.int .u8 0) 1 Try.underlying22 hi hz0 hz1 _ _ _ _ len rfl rfl rfl rfl (by rw [hz2]; omega) (by unfold maxLen; omega) (Nat.le_refl _) ?_)
  intro w1 hown1 hgrow1
  have hb1 : Below w.heap.size w w1 := (Below.refl _ _).grown hgrow1 (Nat.le_refl _) (fun k h => by cases h)
  obtain ⟨cur, hcur, hcs⟩ := made_cur hown1
  have HC1 : Hid (∀ j u, xs[j]? = some u → w1.cell? (x.add j) = some u) := fun j u hu => hgrow1.cell (HC.out j u hu) (by simp)
  clear hown1 hgrow1 HC
  go_wp2_with (refine wpList_copy_splice rfl (.tmp 9) (.tmp 10) 22 22 rfl 5 Try.underlying22 size5 _ _ len len len cap rfl rfl w.heap.size 0 cur.toList 5 (by simpa using hcur) xs (by rw [hx]; exact (Nat.min_self len).symm) (fun _ => ⟨rfl, x, rfl, HC1.out⟩) (by simp; omega) hone w.heap.size w hb1 (Nat.le_refl _) ?_)
  intro w2 HG2 hB2
  have HR : Hid (w2.ownsRow w.heap.size 5 1 (.slice (some ⟨w.heap.size, 0, none⟩) len len) len xs) := owns_row_copied (Nat.le_refl _) (by unfold maxLen; omega) HG2.out (by simpa using hcs) hx
  have HB : Hid (Below w.heap.size w w2) := hB2
  clear hB2 HG2 hb1 hcur HC1
  go_wp2
  go_ret
  exact ⟨rfl, HR.out, HB.out⟩

end Go.Proofs.Qxb6605680a.fnAppendEventExtendsStream
