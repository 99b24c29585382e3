/-
  strings.Join's contract at this dump, in plain words: written by the shelf's two tools (lay-shelf.mjs, lay-plain.mjs) for this program; the parts on the Builder's other methods left out; and what this seat wants of it.
-/
import Derived.Shelf.Strings.OnBuilder
import Derived.Test.Qxb6605783aFmtAcc
namespace Go.Proofs
open Go.Shelf
def Tryf.lays156_ren : Go.Shelf.Ren := ⟨fun | 156 => 19 | 165 => 25 | 166 => 26 | 169 => 27 | 240 => 31 | 241 => 32 | 276 => 33 | 277 => 34 | n => n, fun | 31 => 22 | 9 => 9 | 3 => 3 | 4 => 4 | 0 => 0 | 20 => 20 | 72 => 56 | 76 => 58 | 70 => 53 | 37 => 54 | 75 => 28 | 127 => 61 | 164 => 62 | 5 => 5 | 80 => 60 | n => n, fun | n => n⟩
theorem Tryf.lays156 : Go.Proofs.Lays.n156 Tryf.prog Tryf.lays156_ren := {
  mixed := by kernel_rfl
  f156 := Tryf.func19.trans (congrArg some (by kernel_rfl))
  f165 := Tryf.func25.trans (congrArg some (by kernel_rfl))
  f166 := Tryf.func26.trans (congrArg some (by kernel_rfl))
  f169 := Tryf.func27.trans (congrArg some (by kernel_rfl))
  f240 := Tryf.func31.trans (congrArg some (by kernel_rfl))
  f241 := Tryf.func32.trans (congrArg some (by kernel_rfl))
  f276 := Tryf.func33.trans (congrArg some (by kernel_rfl))
  f277 := Tryf.func34.trans (congrArg some (by kernel_rfl))
  t0 := Tryf.underlying0
  a0 := Tryf.isAgg0
  z0 := Tryf.sizeOf0
  v0 := Tryf.zeroValue0
  t3 := Tryf.underlying3
  a3 := Tryf.isAgg3
  z3 := Tryf.sizeOf3
  v3 := Tryf.zeroValue3
  t4 := Tryf.underlying4
  a4 := Tryf.isAgg4
  z4 := Tryf.sizeOf4
  v4 := Tryf.zeroValue4
  t9 := Tryf.underlying9
  a9 := Tryf.isAgg9
  z9 := Tryf.sizeOf9
  v9 := Tryf.zeroValue9
  t20 := Tryf.underlying20
  a20 := Tryf.isAgg20
  z20 := Tryf.sizeOf20
  v20 := Tryf.zeroValue20
  t31 := Tryf.underlying22
  a31 := Tryf.isAgg22
  z31 := Tryf.sizeOf22
  v31 := Tryf.zeroValue22
  t37 := Tryf.underlying54
  a37 := Tryf.isAgg54
  z37 := Tryf.sizeOf54
  v37 := Tryf.zeroValue54
  t70 := Tryf.underlying53
  a70 := Tryf.isAgg53
  z70 := Tryf.sizeOf53
  v70 := Tryf.zeroValue53
  t72 := Tryf.underlying56
  a72 := Tryf.isAgg56
  z72 := Tryf.sizeOf56
  v72 := Tryf.zeroValue56
  t75 := Tryf.underlying28
  a75 := Tryf.isAgg28
  z75 := Tryf.sizeOf28
  v75 := Tryf.zeroValue28
  t76 := Tryf.underlying58
  a76 := Tryf.isAgg58
  z76 := Tryf.sizeOf58
  v76 := Tryf.zeroValue58
  t127 := Tryf.underlying61
  a127 := Tryf.isAgg61
  z127 := Tryf.sizeOf61
  v127 := Tryf.zeroValue61
  t164 := Tryf.underlying62
  a164 := Tryf.isAgg62
  z164 := Tryf.sizeOf62
  v164 := Tryf.zeroValue62 }
theorem Tryf.Builder_Extra_156 : Builder.Extra Tryf.prog Tryf.lays156_ren := {
  sizeBuilder := by kernel_rfl
  liesBuilder := by kernel_rfl
  t5 := Tryf.underlying5
  a5 := Tryf.isAgg5
  z5 := Tryf.sizeOf5
  v5 := Tryf.zeroValue5
  infoByte := by kernel_rfl
  cellsByte := by kernel_rfl
  sizeByte := by kernel_rfl
  neB5 := by decide }
open Go.RowKit in
theorem Tryf.strings_Join_none (a : Option Addr) (c : Nat) (sep : ByteArray) (w : World) :
    Calls Tryf.prog 19 #[.slice a 0 c, .string sep] w fun e w' => e = .returned (.string ⟨#[]⟩) ∧ w' = w := Any.strings_Join_none Tryf.lays156 Tryf.Builder_Extra_156 a c sep w
open Go.RowKit in
theorem Tryf.strings_Join (bk o c : Nat) (xs : List ByteArray) (sep : ByteArray) (w : World) (hcells : ∀ (j : Nat) x, xs[j]? = some x → w.cell? ⟨bk, o + j, none⟩ = some (.string x)) (hbk : bk < w.heap.size) (hN : xs.length ≤ 140737488355328) (hcap : xs.length ≤ c) (hlen : (Lib.join (xs.map (·.data.toList)) sep.data.toList).length ≤ 140737488355328) :
    Calls Tryf.prog 19 #[.slice (some ⟨bk, o, none⟩) xs.length c, .string sep] w fun e w' => e = .returned (.string ⟨(Lib.join (xs.map (·.data.toList)) sep.data.toList).toArray⟩) ∧ Below w.heap.size w w' := Any.strings_Join Tryf.lays156 Tryf.Builder_Extra_156 bk o c xs sep w hcells hbk hN hcap hlen
end Go.Proofs

namespace Go.Proofs.Qxb6605783aFmt.Env
open Go.RowKit

theorem joinTail_len (ss : List ByteArray) (sep : List UInt8) (h1 : sep.length ≤ 1) : (Lib.joinTail sep (ss.map (fun s => s.data.toList))).length ≤ tot ss := by
  induction ss with
  | nil => simp [Lib.joinTail, tot]
  | cons x r ih =>
    have hx : x.data.toList.length = x.size := by simp
    simp only [Lib.joinTail, List.map_cons, List.flatten_cons, List.length_append, tot] at ih ⊢
    omega

theorem join_len (ss : List ByteArray) (sep : List UInt8) (h1 : sep.length ≤ 1) : (Lib.join (ss.map (fun s => s.data.toList)) sep).length ≤ tot ss := by
  cases ss with
  | nil => simp [Lib.join_nil, tot]
  | cons x r =>
    have hx : x.data.toList.length = x.size := by simp
    have ht := joinTail_len r sep h1
    rw [List.map_cons, Lib.join_cons, List.length_append]
    simp only [tot]
    omega

/-- strings.Join by a comma: some text; nothing old has turned. -/
theorem join_any (a : Option Addr) (n cap : Nat) (ss : List ByteArray) (w : World) (hs : Strs w a n ss) (hcap : n ≤ cap) (ht : tot ss ≤ 4194304) (hn : n ≤ 65536) :
    Calls Tryf.prog 19 #[.slice a n cap, .string ⟨#[44]⟩] w fun e w' => ∃ s : ByteArray, e = .returned (.string s) ∧ s.size ≤ maxLen ∧ Below w.heap.size w w' := by
  obtain ⟨hl, hz, h0 | ⟨b, off, rfl, hb, hc⟩⟩ := hs
  · subst h0
    refine (Tryf.strings_Join_none a cap _ w).mono ?_
    rintro e w' ⟨rfl, rfl⟩
    exact ⟨_, rfl, by decide, Below.refl _ _⟩
  · have hj := join_len ss [44] (by decide)
    subst hl
    refine (Tryf.strings_Join b off cap ss ⟨#[44]⟩ w (fun j x hx => ?_) hb (by omega) hcap ?_).mono ?_
    · have hj : j < ss.length := (List.getElem?_eq_some_iff.1 hx).1
      rw [hc j hj, List.getD_eq_getElem?_getD, hx]
      rfl
    · exact Nat.le_trans hj (by omega)
    · rintro e w' ⟨rfl, hb'⟩
      refine ⟨_, rfl, ?_, hb'⟩
      show (Lib.join (ss.map (fun s => s.data.toList)) [44]).toArray.size ≤ maxLen
      rw [List.size_toArray]
      unfold maxLen
      omega

end Go.Proofs.Qxb6605783aFmt.Env
