/-
  The plain side: pairs of names and values packed into bytes; no Go here.
-/
namespace Go.Proofs.Qxb6627880a

/-- A pair, packed: its name, the byte 2, its value. -/
def one (p : List UInt8 × List UInt8) : List UInt8 := p.1 ++ 2 :: p.2
/-- Pairs behind the first: each behind a byte 1. -/
def more : List (List UInt8 × List UInt8) → List UInt8
  | [] => []
  | p :: l => 1 :: (one p ++ more l)
/-- Pairs packed. -/
def pack : List (List UInt8 × List UInt8) → List UInt8
  | [] => []
  | p :: l => one p ++ more l

theorem more_append : ∀ (l m : List (List UInt8 × List UInt8)), more (l ++ m) = more l ++ more m
  | [], _ => rfl
  | p :: l, m => by simp [more, more_append l m]
theorem pack_snoc_nil (p : List UInt8 × List UInt8) : pack ([] ++ [p]) = pack [] ++ one p := by simp [pack, more]
theorem pack_snoc {l : List (List UInt8 × List UInt8)} (h : l ≠ []) (p : List UInt8 × List UInt8) : pack (l ++ [p]) = pack l ++ 1 :: one p := by
  cases l with
  | nil => exact absurd rfl h
  | cons q l => simp [pack, more_append, more]
theorem more_eq {l : List (List UInt8 × List UInt8)} (h : l ≠ []) : more l = 1 :: pack l := by
  cases l with
  | nil => exact absurd rfl h
  | cons q l => rfl
/-- Packing in two goes. -/
theorem pack_append (l m : List (List UInt8 × List UInt8)) : pack (l ++ m) = pack l ++ ((if l ≠ [] ∧ m ≠ [] then [1] else []) ++ pack m) := by
  cases l with
  | nil => simp [pack]
  | cons p l =>
    simp only [List.cons_append, pack, more_append]
    cases m with
    | nil => simp [more]
    | cons q m => simp [more]

/-- The bytes of the pairs themselves. -/
def weight : List (List UInt8 × List UInt8) → Nat
  | [] => 0
  | p :: l => p.1.length + 1 + p.2.length + weight l
theorem more_length : ∀ l : List (List UInt8 × List UInt8), (more l).length = weight l + l.length
  | [] => rfl
  | p :: l => by simp [more, one, weight, more_length l]; omega
theorem pack_length (l : List (List UInt8 × List UInt8)) : (pack l).length = weight l + (l.length - 1) := by
  cases l with
  | nil => rfl
  | cons p l => simp [pack, one, weight, more_length]; omega
theorem weight_append : ∀ (l m : List (List UInt8 × List UInt8)), weight (l ++ m) = weight l + weight m
  | [], m => by simp [weight]
  | p :: l, m => by simp [weight, weight_append l m]; omega

end Go.Proofs.Qxb6627880a
