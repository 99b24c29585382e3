/-
  The plain part of 'FnColumnRefStringSplitsBack': what the loop of zzPb1SplitDots has gathered behind k rounds, and what it comes to on a text of dotless parts joined by dots. No Go in sight.
-/
namespace Go.Proofs.Qxb6605663a.fnColumnRefStringSplitsBack

def NoDot (s : ByteArray) : Prop := ∀ j (hj : j < s.size), s[j] ≠ 46

/-- Behind k rounds: what has been cut off, and where the next part begins. -/
def spl (s : ByteArray) : Nat → List ByteArray × Nat
  | 0 => ([], 0)
  | k + 1 => if s.data.toList.getD k 0 = 46 then ((spl s k).1 ++ [s.extract (spl s k).2 k], k + 1) else spl s k

def splAll (s : ByteArray) : List ByteArray := (spl s s.size).1 ++ [s.extract (spl s s.size).2 s.size]

theorem spl_le (s : ByteArray) (k : Nat) : (spl s k).2 ≤ k ∧ (spl s k).1.length ≤ k := by
  induction k with
  | zero => simp [spl]
  | succ k ih =>
    simp only [spl]
    split
    · simp; omega
    · omega

theorem getD_byte (s : ByteArray) (k : Nat) (h : k < s.size) : s.data.toList.getD k 0 = s[k] := by
  have h' : k < s.data.toList.length := by simpa using h
  rw [List.getD_eq_getElem?_getD, List.getElem?_eq_getElem h']
  rfl

theorem spl_dot (s : ByteArray) (k : Nat) (h : s.data.toList.getD k 0 = 46) : spl s (k + 1) = ((spl s k).1 ++ [s.extract (spl s k).2 k], k + 1) := by
  simp only [spl]; rw [if_pos h]

theorem spl_plain (s : ByteArray) (k : Nat) (h : s.data.toList.getD k 0 ≠ 46) : spl s (k + 1) = spl s k := by
  simp only [spl]; rw [if_neg h]

theorem spl_run (s : ByteArray) (k m : Nat) (h : ∀ j, k ≤ j → j < k + m → s.data.toList.getD j 0 ≠ 46) : spl s (k + m) = spl s k := by
  induction m with
  | zero => rfl
  | succ m ih =>
    rw [← Nat.add_assoc, spl_plain s (k + m) (h _ (by omega) (by omega)), ih (fun j h1 h2 => h j h1 (by omega))]

def dotted : ByteArray := ⟨#[46]⟩

theorem nodot_getD {a : ByteArray} (h : NoDot a) (j : Nat) (hj : j < a.size) : a.data.toList.getD j 0 ≠ 46 := by
  rw [getD_byte a j hj]; exact h j hj

theorem extract_of {s : ByteArray} {b e : Nat} {a : ByteArray} (h : (s.data.toList.take e).drop b = a.data.toList) : s.extract b e = a := by
  apply ByteArray.ext
  apply Array.toList_inj.1
  rw [ByteArray.data_extract, Array.toList_extract, List.extract_eq_drop_take', ← h]

theorem getD_mid (pre a rest : List UInt8) (j : Nat) (h1 : pre.length ≤ j) (h2 : j < pre.length + a.length) : (pre ++ (a ++ rest)).getD j 0 = a.getD (j - pre.length) 0 := by
  simp only [List.getD_eq_getElem?_getD]
  rw [List.getElem?_append_right h1, List.getElem?_append_left (by omega)]

theorem spl_step (s a : ByteArray) (pre rest : List UInt8) (out : List ByteArray) (k : Nat) (hk : pre.length = k) (hs : s.data.toList = pre ++ (a.data.toList ++ 46 :: rest)) (ha : NoDot a)
    (h : spl s k = (out, k)) : spl s (k + a.size + 1) = (out ++ [a], k + a.size + 1) := by
  have hal : a.data.toList.length = a.size := by simp
  have hr : spl s (k + a.size) = spl s k := by
    apply spl_run
    intro j h1 h2
    rw [hs, getD_mid _ _ _ _ (by omega) (by omega)]
    exact nodot_getD ha _ (by omega)
  have hd : s.data.toList.getD (k + a.size) 0 = 46 := by
    rw [hs, List.getD_eq_getElem?_getD, List.getElem?_append_right (by omega), List.getElem?_append_right (by omega)]
    rw [show k + a.size - pre.length - a.data.toList.length = 0 by omega]
    rfl
  rw [spl_dot s _ hd, hr, h]
  have he : s.extract k (k + a.size) = a := by
    apply extract_of
    rw [hs, List.take_append, List.drop_append, List.take_append]
    rw [show k + a.size - pre.length - a.data.toList.length = 0 by omega, show k + a.size - pre.length = a.size by omega]
    rw [List.take_of_length_le (l := pre) (by omega), List.take_of_length_le (l := a.data.toList) (by omega)]
    simp [hk]
  simp only [he]

theorem spl_last (s c : ByteArray) (pre : List UInt8) (out : List ByteArray) (k : Nat) (hk : pre.length = k) (hs : s.data.toList = pre ++ c.data.toList) (hc : NoDot c)
    (h : spl s k = (out, k)) : splAll s = out ++ [c] := by
  have hcl : c.data.toList.length = c.size := by simp
  have hsl : s.size = k + c.size := by
    have h1 : s.data.toList.length = s.size := by simp
    rw [← h1, hs, List.length_append]; omega
  have hr : spl s (k + c.size) = spl s k := by
    apply spl_run
    intro j h1 h2
    have := getD_mid pre c.data.toList [] j (by omega) (by omega)
    rw [List.append_nil] at this
    rw [hs, this]
    exact nodot_getD hc _ (by omega)
  unfold splAll
  rw [hsl, hr, h]
  have he : s.extract k (k + c.size) = c := by
    apply extract_of
    rw [hs, List.take_append, List.drop_append]
    rw [show k + c.size - pre.length = c.size by omega]
    rw [List.take_of_length_le (l := pre) (by omega), List.take_of_length_le (l := c.data.toList) (by omega)]
    simp [hk]
  simp only [he]

/-- The text has one part, two, three. -/
theorem split1 (s c : ByteArray) (hs : s.data.toList = c.data.toList) (hc : NoDot c) : splAll s = [c] :=
  spl_last s c [] [] 0 rfl hs hc rfl

theorem split2 (s b c : ByteArray) (hs : s.data.toList = b.data.toList ++ 46 :: c.data.toList) (hb : NoDot b) (hc : NoDot c) : splAll s = [b, c] := by
  have h1 := spl_step s b [] c.data.toList [] 0 rfl hs hb rfl
  exact spl_last s c (b.data.toList ++ [46]) [b] (0 + b.size + 1) (by simp) (by rw [hs]; simp) hc h1

theorem split3 (s a b c : ByteArray) (hs : s.data.toList = a.data.toList ++ 46 :: (b.data.toList ++ 46 :: c.data.toList)) (ha : NoDot a) (hb : NoDot b) (hc : NoDot c) : splAll s = [a, b, c] := by
  have h1 := spl_step s a [] (b.data.toList ++ 46 :: c.data.toList) [] 0 rfl hs ha rfl
  have h2 := spl_step s b (a.data.toList ++ [46]) c.data.toList [a] (0 + a.size + 1) (by simp) (by rw [hs]; simp) hb h1
  exact spl_last s c (a.data.toList ++ 46 :: (b.data.toList ++ [46])) [a, b] (0 + a.size + 1 + b.size + 1) (by simp; omega) (by rw [hs]; simp) hc h2

end Go.Proofs.Qxb6605663a.fnColumnRefStringSplitsBack
