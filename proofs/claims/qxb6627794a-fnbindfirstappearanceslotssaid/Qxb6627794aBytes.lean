/-
  The size guards 'zzBytes_..' (functions 5 and 19): they only read, they answer a bool, and where they say yes every string is at most 1<<20 bytes long.
-/
import Derived.Test.Qxb6627794aRows
import Derived.WalkKit
import Derived.WalkSpells
import Derived.WalkLawsBesides
namespace Go.Proofs.Qxb6627794a
open Go.RowKit

/-- What a walk is told of a slice of strings: its elements are 'ss'; where there are any, they lie in one row of block b from cell 'off' on. -/
def IsStrs (w : World) (a : Option Addr) (ss : List ByteArray) : Prop :=
  ss = [] ∨ ∃ b off, a = some ⟨b, off, none⟩ ∧ b < w.heap.size ∧ ∀ j s, ss[j]? = some s → w.cell? ⟨b, off + j, none⟩ = some (.string s)

theorem IsStrs.below {w w' : World} {a : Option Addr} {ss : List ByteArray} (h : IsStrs w a ss) (hb : Below w.heap.size w w') : IsStrs w' a ss := by
  rcases h with h | ⟨b, off, e, hlt, hc⟩
  · exact .inl h
  · exact .inr ⟨b, off, e, Nat.lt_of_lt_of_le hlt hb.size, fun j s hs => (hb.cell (p := ⟨b, off + j, none⟩) hlt).trans (hc j s hs)⟩

/-- The call hands back a bool r of which p holds (a name of its own: the walk's simp takes a bare '∃ r : Bool' apart). -/
def RetBool (e : Ending) (p : Bool → Prop) : Prop := ∃ r, e = .returned (.bool r) ∧ p r

theorem get_some {α : Type} {l : List α} {k : Nat} (h : k < l.length) : ∃ s, l[k]? = some s := ⟨l[k], List.getElem?_eq_getElem h⟩

theorem all_take_succ {α : Type} {p : α → Prop} {l : List α} {k : Nat} {s : α} (hs : l[k]? = some s) (h : ∀ x ∈ l.take k, p x) (hp : p s) : ∀ x ∈ l.take (k + 1), p x := by
  intro x hx
  rw [List.take_add_one, hs] at hx
  rcases List.mem_append.1 hx with hx | hx
  · exact h x hx
  · simp at hx; subst hx; exact hp

set_option maxHeartbeats 400000 in
theorem bytes19 (a : Option Addr) (ss : List ByteArray) (cap : Nat) (cut : Int) (w : World) (hs : IsStrs w a ss) (hl : ss.length ≤ 140737488351232) :
    Calls Try.prog 19 #[.slice a ss.length cap, .int .i64 cut] w fun e w' => w' = w ∧ RetBool e fun r => r = true → ∀ s ∈ ss, s.size ≤ 1048576 := by
  rcases hs with rfl | ⟨b, off, rfl, hlt, hc⟩
  · go_enter Try.func19, Try.ntmps19
    go_wp2
    refine wp_loop_rounds 1 ?_
    rw [rounds_succ]
    go_wp2
    go_ret
    exact ⟨rfl, true, rfl, by simp⟩
  · have HC : Hid (∀ j s, ss[j]? = some s → w.cell? ⟨b, off + j, none⟩ = some (.string s)) := hc
    clear hc
    go_enter Try.func19, Try.ntmps19
    go_wp2
    · go_ret
      exact ⟨rfl, false, rfl, by simp⟩
    · go_loop [5, 6] (fun n i => ∃ k : Nat, k ≤ ss.length ∧ i = .int .i64 k ∧ (∃ z : Int, n = .int .i64 z ∧ 0 ≤ z ∧ z ≤ 1048576) ∧ ∀ s ∈ ss.take k, s.size ≤ 1048576) (fun _ i => ss.length - (intOf i).toNat)
      case atStart => exact ⟨0, Nat.zero_le _, rfl, ⟨_, rfl, by omega, by omega⟩, by simp⟩
      case round =>
        obtain ⟨k, hk, rfl, ⟨z, rfl, hz0, hz1⟩, hall⟩ := hrel
        have HA : Hid (∀ s ∈ ss.take k, s.size ≤ 1048576) := hall
        clear hall
        by_cases hkl : k < ss.length
        · obtain ⟨s, hs⟩ := get_some hkl
          have hcell := HC.out k s hs
          have HS : Hid (ss[k]? = some s) := hs
          clear hs
          by_cases hsz : s.size ≤ 1048576
          · by_cases hsum : z + s.size ≤ 1048576
            · go_wp2
              go_round
              case rel => exact ⟨k + 1, by omega, by go_num, ⟨_, rfl, by omega, by omega⟩, all_take_succ HS.out HA.out hsz⟩
              case measure => simp [intOf]; omega
            · go_wp2
              go_ret
              exact ⟨rfl, false, rfl, by simp⟩
          · go_wp2
            go_ret
            exact ⟨rfl, false, rfl, by simp⟩
        · go_wp2
          go_ret
          have : k = ss.length := by omega
          exact ⟨rfl, true, rfl, fun _ => by have h := HA.out; rw [this, List.take_length] at h; exact h⟩

end Go.Proofs.Qxb6627794a
