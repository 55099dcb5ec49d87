/-
  What a round of the reader of packed pairs meets: plain.
-/
import Derived.Test.Qxb6627880aLaw
namespace Go.Proofs.Qxb6627880a
open Go.RowKit

structure Round (out : List UInt8) (P : Nat) (x y : ByteArray) (rest : List (ByteArray × ByteArray)) : Prop where
  name : ∀ (i : Nat) c, x.data.toList[i]? = some c → out[P + i]? = some c
  two : out[P + x.size]? = some 2
  val : ∀ (i : Nat) c, y.data.toList[i]? = some c → out[P + x.size + 1 + i]? = some c
  fin : rest = [] → P + x.size + 1 + y.size = out.length
  one : rest ≠ [] → out[P + x.size + 1 + y.size]? = some 1 ∧ out.drop (P + x.size + 1 + y.size + 1) = packB rest

theorem round_of {out : List UInt8} {P : Nat} {x y : ByteArray} {rest : List (ByteArray × ByteArray)} (h : out.drop P = packB ((x, y) :: rest)) : Round out P x y rest := by
  have e : out.drop P = x.data.toList ++ (2 :: (y.data.toList ++ more (rest.map toL))) := by
    rw [h]; simp [packB, pack, one, toL]
  have hx : x.data.toList.length = x.size := by simp
  have hy : y.data.toList.length = y.size := by simp
  have g : ∀ i, out[P + i]? = (x.data.toList ++ (2 :: (y.data.toList ++ more (rest.map toL))))[i]? := fun i => by rw [← e, List.getElem?_drop]
  have len : out.length - P = x.size + (1 + (y.size + (more (rest.map toL)).length)) := by
    rw [← List.length_drop, e]
    simp only [List.length_append, List.length_cons, hx, hy]
    omega
  constructor
  · intro i c hc
    rw [g, List.getElem?_append_left (List.getElem?_eq_some_iff.1 hc).1]; exact hc
  · rw [g, List.getElem?_append_right (by omega), hx]; simp
  · intro i c hc
    rw [show P + x.size + 1 + i = P + (x.size + (1 + i)) by omega, g, List.getElem?_append_right (by omega), hx, show x.size + (1 + i) - x.size = i + 1 by omega, List.getElem?_cons_succ,
      List.getElem?_append_left (List.getElem?_eq_some_iff.1 hc).1]
    exact hc
  · rintro rfl
    simp [more] at len
    omega
  · intro hr
    have hm : more (rest.map toL) = 1 :: pack (rest.map toL) := more_eq (by simpa using hr)
    rw [hm] at e g
    constructor
    · rw [show P + x.size + 1 + y.size = P + (x.size + (1 + y.size)) by omega, g, List.getElem?_append_right (by omega), hx, show x.size + (1 + y.size) - x.size = y.size + 1 by omega, List.getElem?_cons_succ,
        List.getElem?_append_right (by omega), hy]
      simp
    · have e2 : x.data.toList ++ (2 :: (y.data.toList ++ 1 :: pack (rest.map toL))) = (x.data.toList ++ (2 :: (y.data.toList ++ [1]))) ++ packB rest := by simp [packB]
      rw [show P + x.size + 1 + y.size + 1 = P + (x.size + (1 + (y.size + 1))) by omega, ← List.drop_drop, e, e2]
      exact List.drop_left' (by simp only [List.length_append, List.length_cons, List.length_nil, hx, hy]; omega)

end Go.Proofs.Qxb6627880a
