/-
  A REGION THAT DRAWS ITS ORDER, BY AN INVARIANT: what holds at the start, is kept by whichever operation may come up next, and gives the end when all have come up, holds on every order. (No order is walked.) Over any program.
-/
import Derived.RegionTactic
import Derived.Orders
namespace Go.Proofs.Qxb6605783aFmt.Env
open Go

theorem count_set (l : List Bool) (i : Nat) (h : l[i]? = some false) : (l.set i true).count false + 1 = l.count false := by
  induction l generalizing i with
  | nil => simp at h
  | cons x r ih =>
    cases i with
    | zero =>
      have hx : x = false := by simpa using h
      subst hx
      simp
    | succ i =>
      have := ih i (by simpa using h)
      rw [List.set_cons_succ, List.count_cons, List.count_cons]
      omega

theorem count_zero {l : List Bool} (h : l.count false = 0) (i : Nat) : l[i]? ≠ some false := by
  intro hi
  have := List.count_eq_zero.1 h
  exact this (List.mem_of_getElem? hi)

section
variable {P : Program} {ops : Array Oper} {Q : Exit → Act → World → Prop}

theorem wpAny_inv (I : (Nat → Bool) → Act → World → Prop)
    (hacyc : ∀ (i : Nat) o, ops[i]? = some o → ∀ e ∈ o.after, e.on < i)
    (hstep : ∀ L a w i o, I L a w → L i = false → ops[i]? = some o → (∀ e ∈ o.after, Region.binds .any e = true → L e.on = true) → wpOp P ops Q i (I (fun j => j == i || L j)) a w)
    (hend : ∀ L a w, I L a w → (∀ i, i < ops.size → L i = true) → Q .normal a w) :
    ∀ (fuel : Nat) (listed : Array Bool) (L : Nat → Bool) (a : Act) (w : World), listed.size = ops.size → (∀ i, i < ops.size → listed[i]? = some (L i)) → listed.toList.count false ≤ fuel → I L a w →
      wpAny P .any ops Q fuel listed a w := by
  have fin : ∀ (listed : Array Bool) (L : Nat → Bool), listed.size = ops.size → (∀ i, i < ops.size → listed[i]? = some (L i)) → Region.ready .any ops listed = [] → ∀ i, i < ops.size → L i = true := by
    intro listed L hs hL hr i
    induction i using Nat.strongRecOn with
    | _ i ih =>
      intro hi
      cases hLi : L i with
      | true => rfl
      | false =>
        exfalso
        have hm : i ∈ Region.ready .any ops listed := by
          rw [mem_ready]
          refine ⟨by simp [hL i hi, hLi], ops[i], Array.getElem?_eq_getElem hi, fun e he _ => ?_⟩
          have hlt := hacyc i _ (Array.getElem?_eq_getElem hi) e he
          have := ih e.on hlt (by omega)
          simp [hL e.on (by omega), this]
        rw [hr] at hm
        cases hm
  intro fuel
  induction fuel with
  | zero =>
    intro listed L a w hs hL hc hI
    have hr : Region.ready .any ops listed = [] := by
      cases hr : Region.ready .any ops listed with
      | nil => rfl
      | cons x xs =>
        exfalso
        have hx : x ∈ Region.ready .any ops listed := by rw [hr]; simp
        obtain ⟨h0, o, ho, _⟩ := mem_ready.1 hx
        have hlt : x < ops.size := (Array.getElem?_eq_some_iff.1 ho).1
        have hxL := hL x hlt
        simp [hxL] at h0
        rw [h0] at hxL
        exact count_zero (Nat.le_zero.1 hc) x (by rw [Array.getElem?_toList]; exact hxL)
    exact ⟨hr, hend L a w hI (fin listed L hs hL hr)⟩
  | succ fuel ih =>
    intro listed L a w hs hL hc hI
    refine ⟨fun hr => hend L a w hI (fin listed L hs hL hr), fun i hi => ?_⟩
    obtain ⟨h0, o, ho, hall⟩ := mem_ready.1 hi
    have hlt : i < ops.size := (Array.getElem?_eq_some_iff.1 ho).1
    have hiL := hL i hlt
    have hLi : L i = false := by simpa [hiL] using h0
    rw [hLi] at hiL
    refine wpOp_mono (fun a' w' hI' => ?_) (hstep L a w i o hI hLi ho (fun e he hb => ?_))
    · refine ih _ (fun j => j == i || L j) a' w' (by simpa using hs) (fun j hj => ?_) ?_ hI'
      · by_cases hji : j = i
        · subst hji
          rw [Array.getElem?_setIfInBounds_self_of_lt (by omega)]
          simp
        · rw [Array.getElem?_setIfInBounds_ne (Ne.symm hji), hL j hj]
          simp [hji]
      · have := count_set listed.toList i (by rw [Array.getElem?_toList]; exact hiL)
        rw [Array.toList_setIfInBounds]
        omega
    · have h1 := hall e he hb
      have hlt' := hacyc i o ho e he
      have := hL e.on (by omega)
      simpa [this] using h1

theorem wp_region_inv {id : Nat} {a : Act} {w : World} (hm : P.follows .mixedOrders = true) (I : (Nat → Bool) → Act → World → Prop)
    (hacyc : ∀ (i : Nat) o, ops[i]? = some o → ∀ e ∈ o.after, e.on < i)
    (hstep : ∀ L a w i o, I L a w → L i = false → ops[i]? = some o → (∀ e ∈ o.after, Region.binds .any e = true → L e.on = true) → wpOp P ops Q i (I (fun j => j == i || L j)) a w)
    (hend : ∀ L a w, I L a w → (∀ i, i < ops.size → L i = true) → Q .normal a w)
    (h0 : I (fun _ => false) a w.drew) : (Code.region id ops true).wp P Q a w := by
  refine wp_region_any hm (wpAny_inv I hacyc hstep hend ops.size _ (fun _ => false) a _ (by simp) (fun i hi => ?_) ?_ h0)
  · simp [hi]
  · simp
end

section
variable {P : Program} {ops : Array Oper} {Q : Exit → Act → World → Prop} {o : Oper} {a : Act} {w : World} {K : Act → World → Prop}

theorem wpOp_of {i : Nat} (ho : ops[i]? = some o) (hg : o.guard = none) (h : o.wp P a w K Q) : wpOp P ops Q i K a w := by
  unfold wpOp
  rw [ho]
  have hw : Region.wanted o (yielded ops a.tmps) = true := by simp [Region.wanted, hg]
  simp only [hw, if_true]
  exact .inl h

theorem op_val {v : Value} {w' : World} (hr : (execOp a.eval o).run P w = .ok (.value v) w') (h : K (a.put o.dst v) w') : o.wp P a w K Q := by
  unfold Oper.wp; rw [hr]; exact h
theorem op_skip {w' : World} (hr : (execOp a.eval o).run P w = .ok .skip w') (h : K (a.put o.dst undef) w') : o.wp P a w K Q := by
  unfold Oper.wp; rw [hr]; exact h
theorem op_move {x : Operand} (ho : o.op = .move x) (h : K (a.put o.dst (a.eval x)) w) : o.wp P a w K Q :=
  op_val (w' := w) (by simp [execOp, ho]) h
theorem op_assign {x : Operand} (ho : o.op = .assign x) (h : K (a.put o.dst (a.eval x)) w) : o.wp P a w K Q :=
  op_val (w' := w) (by simp [execOp, ho]) h
theorem op_makeMap {t : TypeId} (ho : o.op = .makeMap t none) (h : K (a.put o.dst (.map (some w.heap.size))) (w.alloc (.map #[] 0))) : o.wp P a w K Q :=
  op_val (v := .map (some w.heap.size)) (w' := w.alloc (.map #[] 0)) (by simp [execOp, ho]; rfl) h
theorem op_insert {t : TypeId} {m k x : Operand} {w' : World} (ho : o.op = .insert t m k x) (hr : (Instr.mapUpdate t (a.eval m) (a.eval k) (a.eval x)).run P w = .ok () w') (h : K (a.put o.dst undef) w') : o.wp P a w K Q :=
  op_skip (w' := w') (by simp [execOp, ho, hr, Result.andThen]) h
theorem run_enter {f : FuncId} {fn : Func} {c : Code} (hf : P.funcs[f]? = some fn) (hname : (fn.name == "runtime.NumGoroutine") = false) (hb : fn.body = some c) (args : Array Value) (w : World) :
    (callFunc f args).run P w = .ok (.enter f args) w := by
  have h1 : fn.name ≠ "runtime.NumGoroutine" := by simpa using hname
  simp [callFunc, hf, h1, hb]
theorem op_call2 {f : FuncId} {x y : Operand} {ts : Array TypeId} (ho : o.op = .call { callee := .value (.func f), args := #[x, y], argTypes := ts })
    (hr : ∀ args w, (callFunc f args).run P w = .ok (.enter f args) w)
    (h : Calls P f #[a.eval x, a.eval y] w fun e w' => ∃ v, e = .returned v ∧ K (a.put o.dst v) w') : o.wp P a w K Q := by
  have hf : a.eval (.func f) = .func (.func f) #[] #[] := rfl
  unfold Oper.wp
  simp only [execOp, ho, resolve]
  simp [hf, Deferred.ofValue, invoke, hr]
  refine h.mono ?_
  rintro e w' ⟨v, rfl, hk⟩
  exact hk
end

end Go.Proofs.Qxb6605783aFmt.Env
