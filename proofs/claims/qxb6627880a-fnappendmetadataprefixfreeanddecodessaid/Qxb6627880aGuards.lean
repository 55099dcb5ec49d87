/-
  The size guards: zzBytes (functions 5 and 11), zzTooBig (6): they only read and answer a bool; where zzTooBig says no, the lengths are modest.
-/
import Derived.Test.Qxb6627880aRows
import Derived.WalkKit
import Derived.WalkSpells
import Derived.WalkLawsBesides
import Derived.Deep.QuietTactic
import Derived.BigQuiet
namespace Go.Proofs.Qxb6627880a
open Go.RowKit

/-- What a walk is told of a slice of strings. -/
def IsStrs (w : World) (a : Option Addr) (ss : List ByteArray) : Prop :=
  ss = [] ∨ ∃ b off, a = some ⟨b, off, none⟩ ∧ b < w.heap.size ∧ ∀ (j : Nat) s, ss[j]? = some s → w.cell? ⟨b, off + j, none⟩ = some (.string s)

theorem IsStrs.below {w w' : World} {a : Option Addr} {ss : List ByteArray} (h : IsStrs w a ss) (hb : Below w.heap.size w w') : IsStrs w' a ss := by
  rcases h with h | ⟨b, off, e, hlt, hc⟩
  · exact .inl h
  · exact .inr ⟨b, off, e, Nat.lt_of_lt_of_le hlt hb.size, fun j s hs => (hb.cell (p := ⟨b, off + j, none⟩) hlt).trans (hc j s hs)⟩

theorem strs_cell {w : World} {a : Option Addr} {ss : List ByteArray} (h : IsStrs w a ss) : ∀ (k : Nat) s, ss[k]? = some s → ∃ b off, a = some ⟨b, off, none⟩ ∧ w.cell? ⟨b, off + k, none⟩ = some (.string s) := by
  rcases h with rfl | ⟨b, off, e, _, hc⟩
  · simp
  · exact fun k s hs => ⟨b, off, e, hc k s hs⟩

/-- The call hands back a bool r of which p holds (a name of its own: the walk's simp takes a bare '∃ r : Bool' apart). -/
def RetBool (e : Ending) (p : Bool → Prop) : Prop := ∃ r, e = .returned (.bool r) ∧ p r

theorem get_some {α : Type} {l : List α} {k : Nat} (h : k < l.length) : ∃ s, l[k]? = some s := ⟨l[k], List.getElem?_eq_getElem h⟩

/-- Sixteen bytes a string and its own. -/
def tot : List ByteArray → Nat
  | [] => 0
  | s :: l => 16 + s.size + tot l
theorem tot_append : ∀ l m : List ByteArray, tot (l ++ m) = tot l + tot m
  | [], m => by simp [tot]
  | s :: l, m => by simp only [List.cons_append, tot, tot_append l m]; omega
theorem tot_step {l : List ByteArray} {k : Nat} {s : ByteArray} (h : l[k]? = some s) : tot (l.take (k + 1)) = tot (l.take k) + (16 + s.size) := by
  rw [List.take_add_one, h, tot_append]; simp [tot]


set_option maxHeartbeats 1600000 in
theorem bytes5 (a0 a1 a2 : Option Addr) (bn c0 c1 c2 : Nat) (xs ys : List ByteArray) (kk : Int) (w : World) (h1 : IsStrs w a1 xs) (h2 : IsStrs w a2 ys) (l0 : bn ≤ 140737488351232) (l1 : xs.length ≤ 140737488351232) (l2 : ys.length ≤ 140737488351232) :
    Calls Try.prog 5 #[.slice a0 bn c0, .slice a1 xs.length c1, .slice a2 ys.length c2, .int .i64 kk] w fun e w' => w' = w ∧ RetBool e fun _ => True := by
  have H1 : Hid (∀ (k : Nat) s, xs[k]? = some s → ∃ b off, a1 = some ⟨b, off, none⟩ ∧ w.cell? ⟨b, off + k, none⟩ = some (.string s)) := strs_cell h1
  have H2 : Hid (∀ (k : Nat) s, ys[k]? = some s → ∃ b off, a2 = some ⟨b, off, none⟩ ∧ w.cell? ⟨b, off + k, none⟩ = some (.string s)) := strs_cell h2
  clear h1 h2
  by_cases hb0 : bn ≤ 1048576
  case neg =>
    go_enter Try.func5, Try.ntmps5
    go_wp2
    go_ret
    exact ⟨rfl, false, rfl, trivial⟩
  by_cases hb1 : xs.length ≤ 1048576
  case neg =>
    go_enter Try.func5, Try.ntmps5
    go_wp2
    go_ret
    exact ⟨rfl, false, rfl, trivial⟩
  by_cases hs1 : bn + xs.length ≤ 1048576
  case neg =>
    go_enter Try.func5, Try.ntmps5
    go_wp2
    go_ret
    exact ⟨rfl, false, rfl, trivial⟩
  go_enter Try.func5, Try.ntmps5
  go_wp2
  go_loop [9, 10] (fun n i => ∃ (k : Nat) (z : Int), k ≤ xs.length ∧ i = .int .i64 k ∧ n = .int .i64 z ∧ 0 ≤ z ∧ z ≤ 1048576) (fun _ i => xs.length - (intOf i).toNat)
  case atStart => exact ⟨0, _, Nat.zero_le _, rfl, rfl, by omega, by omega⟩
  case round =>
    obtain ⟨k, z, hk, rfl, rfl, hz0, hz1⟩ := hrel
    by_cases hkl : k < xs.length
    · obtain ⟨s, hs⟩ := get_some hkl
      obtain ⟨b, off, rfl, hcell⟩ := H1.out k s hs
      clear hs
      by_cases hsz : s.size ≤ 1048576
      · by_cases hsum : z + s.size ≤ 1048576
        · go_wp2
          go_round
          case rel => exact ⟨k + 1, _, by omega, by go_num, rfl, by omega, by omega⟩
          case measure => simp [intOf]; omega
        · go_wp2
          go_ret
          exact ⟨rfl, false, rfl, trivial⟩
      · go_wp2
        go_ret
        exact ⟨rfl, false, rfl, trivial⟩
    · by_cases hl1 : ys.length ≤ 1048576
      · by_cases hsum : z + ys.length ≤ 1048576
        · go_wp2
          go_loop [9, 11] (fun n i => ∃ (k : Nat) (z : Int), k ≤ ys.length ∧ i = .int .i64 k ∧ n = .int .i64 z ∧ 0 ≤ z ∧ z ≤ 1048576) (fun _ i => ys.length - (intOf i).toNat)
          case atStart => exact ⟨0, _, Nat.zero_le _, rfl, rfl, by omega, by omega⟩
          case round =>
            clear hk hkl hz0 hz1 hsum
            obtain ⟨k, z, hk, rfl, rfl, hz0, hz1⟩ := hrel
            by_cases hkl : k < ys.length
            · obtain ⟨s, hs⟩ := get_some hkl
              obtain ⟨b, off, rfl, hcell⟩ := H2.out k s hs
              clear hs
              by_cases hsz : s.size ≤ 1048576
              · by_cases hsum : z + s.size ≤ 1048576
                · go_wp2
                  go_round
                  case rel => exact ⟨k + 1, _, by omega, by go_num, rfl, by omega, by omega⟩
                  case measure => simp [intOf]; omega
                · go_wp2
                  go_ret
                  exact ⟨rfl, false, rfl, trivial⟩
              · go_wp2
                go_ret
                exact ⟨rfl, false, rfl, trivial⟩
            · go_wp2
              go_ret
              exact ⟨rfl, true, rfl, trivial⟩
        · go_wp2
          go_ret
          exact ⟨rfl, false, rfl, trivial⟩
      · go_wp2
        go_ret
        exact ⟨rfl, false, rfl, trivial⟩

set_option maxHeartbeats 1600000 in
theorem bytes11 (a0 a1 a2 : Option Addr) (bn c0 c1 c2 : Nat) (xs ys : List ByteArray) (w : World) (h1 : IsStrs w a1 xs) (h2 : IsStrs w a2 ys) (l0 : bn ≤ 140737488351232) (l1 : xs.length ≤ 140737488351232) (l2 : ys.length ≤ 140737488351232) :
    Calls Try.prog 11 #[.slice a0 bn c0, .slice a1 xs.length c1, .slice a2 ys.length c2] w fun e w' => w' = w ∧ RetBool e fun _ => True := by
  have H1 : Hid (∀ (k : Nat) s, xs[k]? = some s → ∃ b off, a1 = some ⟨b, off, none⟩ ∧ w.cell? ⟨b, off + k, none⟩ = some (.string s)) := strs_cell h1
  have H2 : Hid (∀ (k : Nat) s, ys[k]? = some s → ∃ b off, a2 = some ⟨b, off, none⟩ ∧ w.cell? ⟨b, off + k, none⟩ = some (.string s)) := strs_cell h2
  clear h1 h2
  by_cases hb0 : bn ≤ 1048576
  case neg =>
    go_enter Try.func11, Try.ntmps11
    go_wp2
    go_ret
    exact ⟨rfl, false, rfl, trivial⟩
  by_cases hb1 : xs.length ≤ 1048576
  case neg =>
    go_enter Try.func11, Try.ntmps11
    go_wp2
    go_ret
    exact ⟨rfl, false, rfl, trivial⟩
  by_cases hs1 : bn + xs.length ≤ 1048576
  case neg =>
    go_enter Try.func11, Try.ntmps11
    go_wp2
    go_ret
    exact ⟨rfl, false, rfl, trivial⟩
  go_enter Try.func11, Try.ntmps11
  go_wp2
  go_loop [7, 8] (fun n i => ∃ (k : Nat) (z : Int), k ≤ xs.length ∧ i = .int .i64 k ∧ n = .int .i64 z ∧ 0 ≤ z ∧ z ≤ 1048576) (fun _ i => xs.length - (intOf i).toNat)
  case atStart => exact ⟨0, _, Nat.zero_le _, rfl, rfl, by omega, by omega⟩
  case round =>
    obtain ⟨k, z, hk, rfl, rfl, hz0, hz1⟩ := hrel
    by_cases hkl : k < xs.length
    · obtain ⟨s, hs⟩ := get_some hkl
      obtain ⟨b, off, rfl, hcell⟩ := H1.out k s hs
      clear hs
      by_cases hsz : s.size ≤ 1048576
      · by_cases hsum : z + s.size ≤ 1048576
        · go_wp2
          go_round
          case rel => exact ⟨k + 1, _, by omega, by go_num, rfl, by omega, by omega⟩
          case measure => simp [intOf]; omega
        · go_wp2
          go_ret
          exact ⟨rfl, false, rfl, trivial⟩
      · go_wp2
        go_ret
        exact ⟨rfl, false, rfl, trivial⟩
    · by_cases hl1 : ys.length ≤ 1048576
      · by_cases hsum : z + ys.length ≤ 1048576
        · go_wp2
          go_loop [7, 9] (fun n i => ∃ (k : Nat) (z : Int), k ≤ ys.length ∧ i = .int .i64 k ∧ n = .int .i64 z ∧ 0 ≤ z ∧ z ≤ 1048576) (fun _ i => ys.length - (intOf i).toNat)
          case atStart => exact ⟨0, _, Nat.zero_le _, rfl, rfl, by omega, by omega⟩
          case round =>
            clear hk hkl hz0 hz1 hsum
            obtain ⟨k, z, hk, rfl, rfl, hz0, hz1⟩ := hrel
            by_cases hkl : k < ys.length
            · obtain ⟨s, hs⟩ := get_some hkl
              obtain ⟨b, off, rfl, hcell⟩ := H2.out k s hs
              clear hs
              by_cases hsz : s.size ≤ 1048576
              · by_cases hsum : z + s.size ≤ 1048576
                · go_wp2
                  go_round
                  case rel => exact ⟨k + 1, _, by omega, by go_num, rfl, by omega, by omega⟩
                  case measure => simp [intOf]; omega
                · go_wp2
                  go_ret
                  exact ⟨rfl, false, rfl, trivial⟩
              · go_wp2
                go_ret
                exact ⟨rfl, false, rfl, trivial⟩
            · go_wp2
              go_ret
              exact ⟨rfl, true, rfl, trivial⟩
        · go_wp2
          go_ret
          exact ⟨rfl, false, rfl, trivial⟩
      · go_wp2
        go_ret
        exact ⟨rfl, false, rfl, trivial⟩

/-- What zzTooBig's no says. -/
structure Modest3 (bn : Nat) (xs ys : List ByteArray) : Prop where
  b : bn ≤ 1048576
  x : xs.length ≤ 65536
  y : ys.length ≤ 65536
  sum : bn + tot xs + tot ys ≤ 1048576

set_option maxHeartbeats 1600000 in
theorem tooBig6 (a0 a1 a2 : Option Addr) (bn c0 c1 c2 : Nat) (xs ys : List ByteArray) (w : World) (h1 : IsStrs w a1 xs) (h2 : IsStrs w a2 ys) (l0 : bn ≤ 140737488351232) (l1 : xs.length ≤ 140737488351232) (l2 : ys.length ≤ 140737488351232) :
    Calls Try.prog 6 #[.slice a0 bn c0, .slice a1 xs.length c1, .slice a2 ys.length c2] w fun e w' => w' = w ∧ RetBool e fun r => r = false → Modest3 bn xs ys := by
  have H1 : Hid (∀ (k : Nat) s, xs[k]? = some s → ∃ b off, a1 = some ⟨b, off, none⟩ ∧ w.cell? ⟨b, off + k, none⟩ = some (.string s)) := strs_cell h1
  have H2 : Hid (∀ (k : Nat) s, ys[k]? = some s → ∃ b off, a2 = some ⟨b, off, none⟩ ∧ w.cell? ⟨b, off + k, none⟩ = some (.string s)) := strs_cell h2
  clear h1 h2
  by_cases hb0 : bn ≤ 1048576
  case neg =>
    go_enter Try.func6, Try.ntmps6
    go_wp2
    go_ret
    exact ⟨rfl, true, rfl, by simp⟩
  by_cases hb1 : xs.length ≤ 65536
  case neg =>
    go_enter Try.func6, Try.ntmps6
    go_wp2
    go_ret
    exact ⟨rfl, true, rfl, by simp⟩
  by_cases hb2 : ys.length ≤ 65536
  case neg =>
    go_enter Try.func6, Try.ntmps6
    go_wp2
    go_ret
    exact ⟨rfl, true, rfl, by simp⟩
  go_enter Try.func6, Try.ntmps6
  go_wp2
  go_loop [7, 8] (fun n i => ∃ k z : Nat, k ≤ xs.length ∧ i = .int .i64 k ∧ n = .int .i64 (z : Nat) ∧ z ≤ 1048576 ∧ z = bn + tot (xs.take k)) (fun _ i => xs.length - (intOf i).toNat)
  case atStart => exact ⟨0, bn, Nat.zero_le _, rfl, rfl, hb0, by simp [tot]⟩
  case round =>
    obtain ⟨k, z, hk, rfl, rfl, hz1, hz2⟩ := hrel
    have HZ : Hid (z = bn + tot (xs.take k)) := hz2
    clear hz2
    by_cases hkl : k < xs.length
    · obtain ⟨s, hs⟩ := get_some hkl
      obtain ⟨b, off, rfl, hcell⟩ := H1.out k s hs
      have HT : Hid (tot (xs.take (k + 1)) = tot (xs.take k) + (16 + s.size)) := tot_step hs
      clear hs
      by_cases hsz : s.size ≤ 1048576
      · by_cases hsum : z + (16 + s.size) ≤ 1048576
        · go_wp2
          go_round
          case rel => exact ⟨k + 1, z + (16 + s.size), by omega, by go_num, by go_num, by omega, by rw [HT.out, HZ.out]; omega⟩
          case measure => simp [intOf]; omega
        · go_wp2
          go_ret
          exact ⟨rfl, true, rfl, by simp⟩
      · go_wp2
        go_ret
        exact ⟨rfl, true, rfl, by simp⟩
    · have HX : Hid (z = bn + tot xs) := by
        have h := HZ.out
        rw [List.take_of_length_le (by omega)] at h
        exact h
      clear HZ
      go_wp2
      go_loop [7, 9] (fun n i => ∃ k z : Nat, k ≤ ys.length ∧ i = .int .i64 k ∧ n = .int .i64 (z : Nat) ∧ z ≤ 1048576 ∧ z = bn + tot xs + tot (ys.take k)) (fun _ i => ys.length - (intOf i).toNat)
      case atStart => exact ⟨0, z, Nat.zero_le _, rfl, rfl, hz1, by rw [HX.out]; simp [tot]⟩
      case round =>
        clear hk hkl hz1
        obtain ⟨k, z2, hk, rfl, rfl, hz1, hz2⟩ := hrel
        have HZ : Hid (z2 = bn + tot xs + tot (ys.take k)) := hz2
        clear hz2
        by_cases hkl : k < ys.length
        · obtain ⟨s, hs⟩ := get_some hkl
          obtain ⟨b, off, rfl, hcell⟩ := H2.out k s hs
          have HT : Hid (tot (ys.take (k + 1)) = tot (ys.take k) + (16 + s.size)) := tot_step hs
          clear hs
          by_cases hsz : s.size ≤ 1048576
          · by_cases hsum : z2 + (16 + s.size) ≤ 1048576
            · go_wp2
              go_round
              case rel => exact ⟨k + 1, z2 + (16 + s.size), by omega, by go_num, by go_num, by omega, by rw [HT.out, HZ.out]; omega⟩
              case measure => simp [intOf]; omega
            · go_wp2
              go_ret
              exact ⟨rfl, true, rfl, by simp⟩
          · go_wp2
            go_ret
            exact ⟨rfl, true, rfl, by simp⟩
        · have HY : Hid (z2 = bn + tot xs + tot ys) := by
            have h := HZ.out
            rw [List.take_of_length_le (by omega)] at h
            exact h
          go_wp2
          go_ret
          exact ⟨rfl, false, rfl, fun _ => ⟨hb0, hb1, hb2, by rw [← HY.out]; exact hz1⟩⟩

end Go.Proofs.Qxb6627880a
