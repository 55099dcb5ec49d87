/-
  zzFreeOfSeparators (12), zzSameText (14): contracts.
-/
import Derived.Test.Qxb6627880aLaw
namespace Go.Proofs.Qxb6627880a
open Go.RowKit

/-- Neither the byte 1 nor the byte 2. -/
def Free (s : ByteArray) : Prop := ∀ (i : Nat) x, s.data.toList[i]? = some x → x ≠ 1 ∧ x ≠ 2

theorem str_get {s : ByteArray} {k : Nat} {x : UInt8} (h : s.data.toList[k]? = some x) (hk : k < s.size) : s[k] = x := by
  have e := (List.getElem?_eq_some_iff.1 h).2
  show s.data[k]'hk = x
  simpa using e
theorem u8_no {x y : UInt8} (h : ¬ x = y) : ((x.toNat : Int) == (y.toNat : Int)) = false := by
  have : ¬ ((x.toNat : Int) = (y.toNat : Int)) := fun e => h (UInt8.toNat_inj.1 (by omega))
  simpa using this
theorem u8_ne {x y : UInt8} (h : ¬ x = y) : ¬ ((x.toNat : Int) = (y.toNat : Int)) := fun e => h (UInt8.toNat_inj.1 (by omega))

set_option maxHeartbeats 400000 in
theorem free12 (s : ByteArray) (w : World) (hl : s.size ≤ 1048576) :
    Calls Try.prog 12 #[.string s] w fun e w' => w' = w ∧ RetBool e fun r => r = true → Free s := by
  go_enter Try.func12, Try.ntmps12
  go_wp2
  go_loop [3] (fun i => ∃ k : Nat, k ≤ s.size ∧ i = .int .i64 k ∧ Hid (∀ (j : Nat) x, j < k → s.data.toList[j]? = some x → x ≠ 1 ∧ x ≠ 2)) (fun i => s.size - (intOf i).toNat)
  case atStart => exact ⟨0, Nat.zero_le _, rfl, fun j x hj => by omega⟩
  case round =>
    obtain ⟨k, hk, rfl, hF⟩ := hrel
    by_cases hkl : k < s.size
    · obtain ⟨x, hx⟩ := get_some (l := s.data.toList) (k := k) (by simpa using hkl)
      have hg := str_get hx hkl
      have HX : Hid (s.data.toList[k]? = some x) := hx
      clear hx
      by_cases h1 : x = 1
      · subst h1
        go_wp2
        go_ret
        exact ⟨rfl, false, rfl, fun h => by cases h⟩
      by_cases h2 : x = 2
      · subst h2
        go_wp2
        go_ret
        exact ⟨rfl, false, rfl, fun h => by cases h⟩
      have n1 : ¬ ((x.toNat : Int) = 1) := u8_ne h1
      have n2 : ¬ ((x.toNat : Int) = 2) := u8_ne h2
      have n3 : ((x.toNat : Int) == 1) = false := u8_no h1
      have n4 : ((x.toNat : Int) == 2) = false := u8_no h2
      have HN : Hid (x ≠ 1 ∧ x ≠ 2) := ⟨h1, h2⟩
      clear h1 h2
      go_wp2
      go_round
      case rel =>
        refine ⟨k + 1, by omega, by go_num, fun j y hj hy => ?_⟩
        by_cases e : j = k
        · subst e
          rw [HX.out] at hy
          cases hy
          exact HN.out
        · exact hF.out j y (by omega) hy
      case measure => simp [intOf]; omega
    · go_wp2
      go_ret
      exact ⟨rfl, true, rfl, fun _ i x hx => hF.out i x (by have := (List.getElem?_eq_some_iff.1 hx).1; simp at this; omega) hx⟩
set_option maxHeartbeats 400000 in
theorem text14 (a : Option Addr) (s : ByteArray) (n c : Nat) (w : World) (ha : IsBytes w a s.data.toList) (hn : n = s.size) (hl : s.size ≤ 1048576) :
    Calls Try.prog 14 #[.slice a n c, .string s] w fun e w' => e = .returned (.bool true) ∧ ∃ q, w' = w.drewN q := by
  subst hn
  have H1 : Hid (∀ (k : Nat) x, s.data.toList[k]? = some x → ∃ b off, a = some ⟨b, off, none⟩ ∧ w.cell? ⟨b, off + k, none⟩ = some (.int .u8 (x.toNat : Int))) := bytes_cell ha
  clear ha
  go_enter Try.func14, Try.ntmps14
  go_wp2
  go_loopw [5] (fun i wr => ∃ k q : Nat, k ≤ s.size ∧ i = .int .i64 k ∧ wr = w.drewN q) (fun i _ => s.size - (intOf i).toNat)
  case atStart => exact ⟨0, 0, Nat.zero_le _, rfl, rfl⟩
  case round =>
    obtain ⟨k, q, hk, rfl, rfl⟩ := hrel
    by_cases hkl : k < s.size
    · obtain ⟨x, hx⟩ := get_some (l := s.data.toList) (k := k) (by simpa using hkl)
      obtain ⟨b1, o1, rfl, c1⟩ := H1.out k x hx
      have hg := str_get hx hkl
      clear hx
      go_wp2
      go_quiet (fail)
      go_wp2
      go_roundw
      case rel => exact ⟨k + 1, _, by omega, by go_num, rfl⟩
      case measure => simp [intOf]; omega
    · go_wp2
      go_ret
      exact ⟨rfl, q, rfl⟩

end Go.Proofs.Qxb6627880a
