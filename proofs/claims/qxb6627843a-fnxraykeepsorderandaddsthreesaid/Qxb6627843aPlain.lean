/-
  The plain side: what XRay, stripXRay and compareBytes do, on lists of bytes; no Go here.
-/
namespace Go.Proofs.Qxb6627843a

def X (l : List UInt8) : List UInt8 := [49, 45] ++ l.take 8 ++ [45] ++ l.drop 8

theorem X_length {l : List UInt8} (h : 8 ≤ l.length) : (X l).length = l.length + 3 := by
  simp [X]; omega

/-- -1, 0 or 1, byte by byte. -/
def cmp : List UInt8 → List UInt8 → Int
  | [], [] => 0
  | [], _ :: _ => -1
  | _ :: _, [] => 1
  | x :: l, y :: m => if x < y then -1 else if y < x then 1 else cmp l m

theorem cmp_same (x : UInt8) (l m : List UInt8) : cmp (x :: l) (x :: m) = cmp l m := by
  simp [cmp, UInt8.lt_irrefl]

/-- Behind prefixes of one length, one byte more on both sides turns nothing. -/
theorem cmp_mid (z : UInt8) : ∀ (p q r t : List UInt8), p.length = q.length → cmp (p ++ z :: r) (q ++ z :: t) = cmp (p ++ r) (q ++ t)
  | [], [], r, t, _ => by simpa using cmp_same z r t
  | x :: p, y :: q, r, t, h => by
    simp only [List.cons_append, cmp]
    rw [cmp_mid z p q r t (by simpa using h)]

theorem cmp_X {a b : List UInt8} (ha : 8 ≤ a.length) (hb : 8 ≤ b.length) : cmp (X a) (X b) = cmp a b := by
  have e : ∀ l : List UInt8, X l = 49 :: 45 :: (l.take 8 ++ 45 :: l.drop 8) := fun l => by simp [X]
  rw [e, e, cmp_same, cmp_same, cmp_mid 45 _ _ _ _ (by simp; omega), List.take_append_drop, List.take_append_drop]

/-- One round of the loop: the bytes at k agree. -/
theorem cmp_drop {a b : List UInt8} {k : Nat} {x : UInt8} (ha : a[k]? = some x) (hb : b[k]? = some x) : cmp (a.drop k) (b.drop k) = cmp (a.drop (k + 1)) (b.drop (k + 1)) := by
  obtain ⟨h1, e1⟩ := List.getElem?_eq_some_iff.1 ha
  obtain ⟨h2, e2⟩ := List.getElem?_eq_some_iff.1 hb
  rw [List.drop_eq_getElem_cons h1, List.drop_eq_getElem_cons h2, e1, e2, cmp_same]
theorem cmp_lt {a b : List UInt8} {k : Nat} {x y : UInt8} (ha : a[k]? = some x) (hb : b[k]? = some y) (h : x < y) : cmp (a.drop k) (b.drop k) = -1 := by
  obtain ⟨h1, e1⟩ := List.getElem?_eq_some_iff.1 ha
  obtain ⟨h2, e2⟩ := List.getElem?_eq_some_iff.1 hb
  rw [List.drop_eq_getElem_cons h1, List.drop_eq_getElem_cons h2, e1, e2]
  simp [cmp, h]
theorem cmp_gt {a b : List UInt8} {k : Nat} {x y : UInt8} (ha : a[k]? = some x) (hb : b[k]? = some y) (h : y < x) : cmp (a.drop k) (b.drop k) = 1 := by
  obtain ⟨h1, e1⟩ := List.getElem?_eq_some_iff.1 ha
  obtain ⟨h2, e2⟩ := List.getElem?_eq_some_iff.1 hb
  rw [List.drop_eq_getElem_cons h1, List.drop_eq_getElem_cons h2, e1, e2]
  have : ¬ x < y := by rw [UInt8.lt_iff_toNat_lt] at *; omega
  simp [cmp, h, this]
theorem cmp_end {a b : List UInt8} {k : Nat} (h : k = min a.length b.length) : cmp (a.drop k) (b.drop k) = if a.length < b.length then -1 else if b.length < a.length then 1 else 0 := by
  by_cases h1 : a.length < b.length
  · have e : k = a.length := by omega
    rw [if_pos h1, e, List.drop_length]
    rw [List.drop_eq_getElem_cons h1]
    rfl
  · rw [if_neg h1]
    by_cases h2 : b.length < a.length
    · have e : k = b.length := by omega
      rw [if_pos h2, e, List.drop_length, List.drop_eq_getElem_cons h2]
      rfl
    · have e1 : k = a.length := by omega
      have e2 : k = b.length := by omega
      rw [if_neg h2, List.drop_of_length_le (by omega), List.drop_of_length_le (by omega)]
      rfl

/-- XRay(id) is XRay(id[:k]) and the rest. -/
theorem X_cut {l : List UInt8} {k : Nat} (h8 : 8 ≤ k) : X l = X (l.take k) ++ l.drop k := by
  have e1 : (l.take k).take 8 = l.take 8 := by rw [List.take_take]; congr 1; omega
  have e2 : l.drop 8 = (l.take k).drop 8 ++ l.drop k := by
    by_cases hl : k ≤ l.length
    · conv => lhs; rw [← List.take_append_drop k l]
      rw [List.drop_append_of_le_length (by simp; omega)]
    · have e3 : l.drop k = [] := List.drop_of_length_le (by omega)
      have e4 : l.take k = l := List.take_of_length_le (by omega)
      rw [e3, e4, List.append_nil]
  simp only [X, e1, e2, List.append_assoc]

/-- What stripXRay puts together again. -/
theorem X_back {l : List UInt8} (h : 8 ≤ l.length) : ((X l).drop 2).take 8 ++ (X l).drop 11 = l := by
  have e : X l = 49 :: 45 :: (l.take 8 ++ 45 :: l.drop 8) := by simp [X]
  have hl : (l.take 8).length = 8 := by simp; omega
  have e1 : ((X l).drop 2).take 8 = l.take 8 := by
    rw [e]; simp only [List.drop_succ_cons, List.drop_zero]
    rw [List.take_append_of_le_length (by omega), List.take_of_length_le (by omega)]
  have e2 : (X l).drop 11 = l.drop 8 := by
    rw [e, show (11 : Nat) = 8 + 1 + 1 + 1 from rfl]; simp only [List.drop_succ_cons]
    rw [show (8 + 1 : Nat) = (l.take 8).length + 1 by omega, List.drop_append]
    simp
  rw [e1, e2, List.take_append_drop]
theorem X_marks {l : List UInt8} (h : 8 ≤ l.length) : (X l)[0]? = some 49 ∧ (X l)[1]? = some 45 ∧ (X l)[10]? = some 45 := by
  have e : X l = 49 :: 45 :: (l.take 8 ++ 45 :: l.drop 8) := by simp [X]
  have hl : (l.take 8).length = 8 := by simp; omega
  refine ⟨by rw [e]; rfl, by rw [e]; rfl, ?_⟩
  rw [e]
  simp only [List.getElem?_cons_succ]
  rw [List.getElem?_append_right (by omega), hl]
  rfl

end Go.Proofs.Qxb6627843a
