/-
  The small functions round an env: ZZnewEnv (where the query is taken), ZZenvTop, ZZenvOwn, ZZenvRank.
-/
import Derived.Test.Qxb6605783aFmtNew
namespace Go.Proofs.Qxb6605783aFmt.Env
open Go.ChangeShapes Go.WideShapes Go.ChangeAt Go.RowKit Go.Maps Go.WideMaps
set_option linter.unusedVariables false

set_option maxHeartbeats 400000 in
theorem zznew_ok (b0 o0 nr cr : Nat) (rs : List ByteArray) (b1 o1 n cv : Nat) (vs : List ByteArray) (w : World) (hacc : Acc nr n rs vs) (hr : Strs w (some ⟨b0, o0, none⟩) nr rs) (hv : Strs w (some ⟨b1, o1, none⟩) n vs)
    (hb1 : b1 < w.heap.size) (hc0 : ∀ j, j < nr → w.cell? ⟨b0, o0 + j, none⟩ = some (.string (at' rs j))) (hc1 : ∀ j, j < n → w.cell? ⟨b1, o1 + j, none⟩ = some (.string (at' vs j)))
    (hnr : nr ≤ 65536) (hn : n ≤ 65536) (hcr : nr ≤ cr) (hcv : n ≤ cv) (htr : tot rs ≤ 4194304) (htv : tot vs ≤ 4194304) :
    Calls Tryf.prog 9 #[.slice (some ⟨b0, o0, none⟩) nr cr, .map none, .slice (some ⟨b1, o1, none⟩) n cv] w fun e w' =>
      ∃ v, e = .returned (.tuple #[v, .nilIface]) ∧ EnvAt w w' v (.slice (some ⟨b1, o1, none⟩) n cv) n vs ∧ Below w.heap.size w w' := by
  have HC := new_ok b0 o0 nr cr rs b1 o1 n cv vs w hacc hr hv hb1 hc0 hc1 hnr hn hcr hcv htr htv
  have HH : Hid (Calls Tryf.prog 14 #[.slice (some ⟨b0, o0, none⟩) nr cr, .map none, .slice (some ⟨b1, o1, none⟩) n cv] w fun e w' =>
      ∃ v, e = .returned (.tuple #[v, .nilIface]) ∧ EnvAt w w' v (.slice (some ⟨b1, o1, none⟩) n cv) n vs ∧ Below w.heap.size w w') := HC
  clear HC hacc hr hv hc0 hc1
  go_enter Tryf.func9, Tryf.ntmps9
  go_wp2_with fail
  refine HH.out.mono ?_
  rintro e w' ⟨v, rfl, henv, hbel⟩
  have HE : Hid (EnvAt w w' v (.slice (some ⟨b1, o1, none⟩) n cv) n vs) := henv
  have HB : Hid (Below w.heap.size w w') := hbel
  clear henv hbel HH
  go_wp2
  go_ret2
  exact ⟨v, rfl, HE.out, HB.out⟩

set_option maxHeartbeats 400000 in
theorem top_any (b : Nat) (p : Option Addr) (n cap : Nat) (w : World) (hc : w.cell? ⟨b, 2, none⟩ = some (.slice p n cap)) (hn : 0 < n) (hm : n ≤ 65536) :
    Calls Tryf.prog 10 #[.pointer (some ⟨b, 0, none⟩)] w fun e w' => e = .returned (.int .i64 ((n : Int) - 1)) ∧ w = w' := by
  go_enter Tryf.func10, Tryf.ntmps10
  go_wp2
  go_ret
  exact ⟨rfl, rfl⟩

theorem zero9 (w : World) : (zeroValue 9).run Tryf.prog w = .ok (.string ⟨#[]⟩) w := by kernel_rfl

/-- The plain datum that a datum is. -/
def litOf : DataW Unit → Lit
  | .lit l => l
  | _ => .bool false
def bytesOf : Lit → List UInt8
  | .string l => l
  | _ => []
def numOf : Lit → Int
  | .int _ n => n
  | _ => 0

/-- What a look-up in a made map of texts gives. -/
theorem look_text {w : World} {B m : Nat} {D : DataW Unit} (h : w.ownsMap Tryf.prog 9 (plainElem (H := Unit) Tryf.prog 9) B m D) (k s : ByteArray) (hk : k.size ≤ maxLen) (hat : ∀ z, D.atKey (ky k) z = .lit (.string s.data.toList)) :
    (Instr.lookup 36 (.map (some B)) (.string k) false).run Tryf.prog w = .ok (.string s) w := by
  obtain ⟨v, ps, hrun, hv⟩ := h.lookup law9 Tryf.underlying36 (zero9 w) (plainElem_string Tryf.underlying9 (s := ⟨#[]⟩) (Nat.zero_le _)) (keyOf_string_mk Tryf.underlying9 hk)
  obtain ⟨s', hs', hz, _⟩ := plainElem_string_inv Tryf.underlying9 hv
  subst hs'
  have h1 := congrArg Prod.fst hz
  have h2 : D.atKey (ky k) _ = .lit (.string s'.data.toList) := h1
  rw [hat] at h2
  replace h2 : s.data.toList = s'.data.toList := congrArg (fun d => bytesOf (litOf d)) h2
  have h3 : s = s' := by
    apply ByteArray.ext
    exact Array.toList_inj.1 h2
  rw [hrun, h3]

set_option maxHeartbeats 400000 in
theorem own_any (b Bo m : Nat) (D : DataW Unit) (k s : ByteArray) (w : World) (hc : w.cell? ⟨b, 1, none⟩ = some (.map (some Bo))) (h : w.ownsMap Tryf.prog 9 (plainElem (H := Unit) Tryf.prog 9) Bo m D) (hk : k.size ≤ maxLen) (hat : ∀ z, D.atKey (ky k) z = .lit (.string s.data.toList)) :
    Calls Tryf.prog 11 #[.pointer (some ⟨b, 0, none⟩), .string k] w fun e w' => e = .returned (.string s) ∧ w = w' := by
  have hl := look_text h k s hk hat
  clear h hat
  go_enter Tryf.func11, Tryf.ntmps11
  go_wp2
  go_ret
  exact ⟨rfl, rfl⟩

/-- What a look-up with 'ok' in a made map of numbers gives. -/
theorem look_int {w : World} {B m : Nat} {D : DataW Unit} (h : w.ownsMap Tryf.prog 9 (plainElem (H := Unit) Tryf.prog 3) B m D) (k : ByteArray) (i : Int) (hk : k.size ≤ maxLen) (hat : ∀ z, D.atKey (ky k) z = .lit (.int .i64 i)) :
    (Instr.lookup 38 (.map (some B)) (.string k) true).run Tryf.prog w = .ok (.tuple #[.int .i64 i, .bool true]) w := by
  obtain ⟨v, ps, hrun, hv⟩ := h.look_ok law9 Tryf.underlying38 (zero3 w) (plainElem_int Tryf.underlying3 (WalkArith.wf_i64 (by omega))) (keyOf_string_mk Tryf.underlying9 hk)
  obtain ⟨c, hc', hz, _⟩ := plainElem_int_inv Tryf.underlying3 hv
  subst hc'
  have h1 := congrArg Prod.fst hz
  have h2 : D.atKey (ky k) _ = .lit (.int .i64 c) := h1
  rw [hat] at h2
  replace h2 : i = c := congrArg (fun d => numOf (litOf d)) h2
  have hh : Maps.has D (ky k) = true := has_true_of_atKey hat
  rw [hrun, ← h2]
  have h3 : Maps.has D (.string k.data.toList) = true := hh
  rw [h3]

set_option maxHeartbeats 400000 in
theorem rank_any (b Br m : Nat) (D : DataW Unit) (k : ByteArray) (i : Int) (w : World) (hc : w.cell? ⟨b, 3, none⟩ = some (.map (some Br))) (h : w.ownsMap Tryf.prog 9 (plainElem (H := Unit) Tryf.prog 3) Br m D) (hk : k.size ≤ maxLen) (hat : ∀ z, D.atKey (ky k) z = .lit (.int .i64 i)) :
    Calls Tryf.prog 12 #[.pointer (some ⟨b, 0, none⟩), .string k] w fun e w' => e = .returned (.tuple #[.int .i64 i, .bool true]) ∧ w = w' := by
  have hl := look_int h k i hk hat
  clear h hat
  go_enter Tryf.func12, Tryf.ntmps12
  go_wp2
  go_ret2
  exact ⟨rfl, rfl⟩

end Go.Proofs.Qxb6605783aFmt.Env
