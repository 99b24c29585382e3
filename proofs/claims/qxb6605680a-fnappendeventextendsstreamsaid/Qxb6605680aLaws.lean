/-
  Two laws that the road wants: 'append(full, s...)' with s not empty onto a slice whose capacity is its length: the new row lies in a new block, nothing old is written; and the same, at the operation.
-/
import Derived.Lib.AppendStr
import Derived.OwnWalk
import Derived.Below
import Derived.Laws.AppendOwnNone
namespace Go.Proofs.Qxb6605680a.fnAppendEventExtendsStream
open Go.RowKit Go.Lib

/-- Nil, or a row at its block's head without spare. -/
def Full (v : Value) (n : Nat) : Prop := (v = .slice none 0 0 ∧ n = 0) ∨ ∃ g, v = .slice (some ⟨g, 0, none⟩) n n

section
variable {P : Program} (w : World)

theorem run_append_full_string (B : Nat) (t u ty e : TypeId) (i : TypeInfo) (ht : P.underlying t = some (.slice e)) (hu : P.underlying u = some .string) (hi : P.info? e = some i) (hz : i.zero = some (.int .u8 0))
    (hsize : i.size = 1) (hby : i.bytes = 1)
    (v : Value) (n : Nat) (xs : List Value) (hown : w.ownsRow B e 1 v n xs) (hfull : Full v n) (s : ByteArray) (hs0 : 0 < s.size)
    (h63 : n + s.size ≤ maxLen) (hbytes : n + s.size ≤ 140737488355328) :
    ∃ v' w', (Builtin.append_ #[t, u] ty #[v, .string s]).run P w = .ok v' w' ∧ w'.ownsRow w.heap.size e 1 v' (n + s.size) (xs ++ strCells s) ∧ w.grownBy w' none := by
  have hsmall : n + s.size ≤ 9223372036854775807 := by simp only [maxLen] at h63; omega
  have hxl : xs.length = n := by simpa using hown.1
  have hlen : (xs ++ strCells s).length = (n + s.size) * 1 := by rw [List.length_append, hxl, strCells_length, Nat.mul_one]
  rcases hfull with ⟨rfl, rfl⟩ | ⟨g, rfl⟩
  · obtain rfl : xs = [] := List.eq_nil_of_length_eq_zero hxl
    obtain ⟨v', w', hr, h2, h3, _⟩ := run_append_own_string (P := P) w w.heap.size t u ty e i ht hu hi hz hsize hby _ 0 [] (World.ownsRow_nil _ _ _ _) s h63 hbytes (Nat.le_refl _)
    exact ⟨v', w', hr, h2, h3⟩
  · have holds : ∀ j u, xs[j]? = some u → w.cell? ((⟨g, 0, none⟩ : Addr).add j) = some u := hown.cells (g := g) rfl
    have hr := run_append_grow_string (P := P) w t u ty e i (.int .u8 0) ht hu hi hz ⟨g, 0, none⟩ n n xs (by rw [hsize]; simpa using hxl) holds s (by omega) (by omega) (by rw [hby]; exact growslice_fits (by omega) (by omega))
    have hge := grownCap_ge w (n + s.size) n e
    have hcm : grownCap w (n + s.size) n e ≤ maxLen := grownCap_le_maxLen w (n + s.size) n e h63
    refine ⟨_, _, hr, ⟨hlen, .inr ⟨w.heap.size, _, _, rfl, Nat.le_refl _, heap_alloc_new w.drew _, hge, hcm, ?_, ?_⟩⟩, ⟨rfl, rfl, rfl, by simp, fun k hk _ => heap_alloc_old w.drew _ k hk⟩⟩
    · have hz1 : (Value.int IntKind.u8 0).cells.size = 1 := rfl
      simp only [Array.size_append, List.size_toArray, size_zeroCells, hz1, hxl, strCells_length]
      omega
    · simp only [Array.toList_append, List.append_assoc]
      rw [← List.append_assoc, ← hlen]
      exact List.take_left

theorem wpList_append_full_string {ops : Array Oper} {rest : List Oper} {o : Oper} {a : Act} {Q : Exit → Act → World → Prop} (hgd : o.guard = none) (sl x : Operand) (t u : TypeId)
    (ho : o.op = .call { callee := .builtin .append, args := #[sl, x], argTypes := #[t, u] })
    (B : Nat) (e : TypeId) (i : TypeInfo) (ht : P.underlying t = some (.slice e)) (hu : P.underlying u = some .string) (hi : P.info? e = some i) (hz : i.zero = some (.int .u8 0))
    (hsize : i.size = 1) (hby : i.bytes = 1)
    (v : Value) (n : Nat) (xs : List Value) (hs : a.eval sl = v) (hown : w.ownsRow B e 1 v n xs) (hfull : Full v n) (s : ByteArray) (hx : a.eval x = .string s) (hs0 : 0 < s.size)
    (h63 : n + s.size ≤ maxLen) (hbytes : n + s.size ≤ 140737488355328)
    (h : ∀ v' w', w'.ownsRow w.heap.size e 1 v' (n + s.size) (xs ++ strCells s) → w.grownBy w' none → wpList P ops Q rest (a.put o.dst v') w') : wpList P ops Q (o :: rest) a w := by
  refine wpList_plain hgd fun K hK => ?_
  obtain ⟨v', w', hr, h2, h3⟩ := run_append_full_string (P := P) w B t u o.type e i ht hu hi hz hsize hby v n xs hown hfull s hs0 h63 hbytes
  unfold Oper.wp execOp
  simp only [ho, resolve, invoke, builtin, Sem.run_bind, Sem.run_pure, Result.andThen_ok, List.map_toArray, List.map_cons, List.map_nil, hs, hx, hr]
  exact hK _ _ (h v' w' h2 h3)

/-- 'append(own, xs...)', xs a slice whose row is known (nil or not). -/
theorem wpList_append_own_row {ops : Array Oper} {rest : List Oper} {o : Oper} {a : Act} {Q : Exit → Act → World → Prop} (hgd : o.guard = none) (s x : Operand) (t : TypeId)
    (ho : o.op = .call { callee := .builtin .append, args := #[s, x], argTypes := #[t, t] })
    (base : Nat) (e : TypeId) (i : TypeInfo) (z : Value) (bytes : Nat) (ht : P.underlying t = some (.slice e)) (hi : P.info? e = some i) (hz : i.zero = some z)
    (hsize : i.size = 1) (hby : i.bytes = bytes) (hzs : z.cells.size = 1)
    (v : Value) (n : Nat) (xs : List Value) (hs : a.eval s = v) (hown : w.ownsRow base e 1 v n xs)
    (Bd : Nat) (da : Option Addr) (m c : Nat) (ys : List Value) (hx : a.eval x = .slice da m c) (hd : w.ownsRow Bd e 1 (.slice da m c) m ys) (h1 : ∀ u ∈ ys, u.oneCell' = true)
    (h63 : n + m ≤ maxLen) (hbytes : (n + m) * bytes ≤ 140737488355328) (hbase : base ≤ w.heap.size)
    (h : ∀ v' w', w'.ownsRow base e 1 v' (n + m) (xs ++ ys) → w.grownBy w' v.ownBlock → wpList P ops Q rest (a.put o.dst v') w') : wpList P ops Q (o :: rest) a w := by
  rcases hd.2 with ⟨hv, hm0⟩ | ⟨g, cap, cur, hv, _⟩
  · simp only [Value.slice.injEq] at hv
    obtain ⟨rfl, rfl, rfl⟩ := hv
    have hy : ys = [] := List.eq_nil_of_length_eq_zero (by simpa using hd.1)
    subst hy
    refine wpList_append_own_none hgd s x t ho base e i 1 ht hi v n xs hs hown hx ?_
    exact h v w (by simpa using hown) ⟨rfl, rfl, rfl, Nat.le_refl _, fun _ _ _ => rfl⟩
  · simp only [Value.slice.injEq] at hv
    obtain ⟨rfl, _, rfl⟩ := hv
    refine wpList_append_own w hgd s x t ho base e i z 1 bytes ht hi hz hsize hby hzs (by decide) v n xs hs hown ⟨g, 0, none⟩ m c ys hx hd.1 (hd.cells rfl) h1 h63 hbytes hbase ?_
    intro v' w' h2 h3 _
    exact h v' w' h2 h3
end

end Go.Proofs.Qxb6605680a.fnAppendEventExtendsStream
