/-
  ZZnewPrepared (function 6): it lays a row of steps whose keys are the given strings, and a Prepared that leads to it.
-/
import Derived.Test.Qxb6627794aBytes
namespace Go.Proofs.Qxb6627794a
open Go.RowKit

/-- 'make' of n elements of whatever type, n a natural number: a row of so many cells. -/
theorem made_row (t e size bytes : Nat) (z : Value) (ht : Try.prog.underlying t = some (.slice e)) (hi : (Try.prog.info? e).map (fun i => (i.zero, i.size, i.bytes)) = some (some z, size, bytes))
    (n : Nat) (hb : bytes * n ≤ 281474976710656) (hn : n ≤ 140737488351232) :
    ∃ c0 : Array Value, c0.size = n * size ∧
      ∀ W : World, (Instr.makeSlice t (.int .i64 (n : Int)) (.int .i64 (n : Int))).run Try.prog W = .ok (.slice (some ⟨W.heap.size, 0, none⟩) n n) (W.alloc (.cells c0 e)) := by
  obtain ⟨i, hi', hz0, hz1, hz2⟩ := info_parts hi
  clear hi
  subst hz1
  subst hz2
  refine ⟨madeCells z.cells (n * i.size), size_madeCells _ _, fun W => ?_⟩
  have h := run_make (P := Try.prog) W t e i z ht hi' hz0 .i64 .i64 (n : Int) (n : Int) (by omega) (Int.le_refl _) (by omega) (by omega)
  simpa using h

theorem info55 : (Try.prog.info? 55).map (fun i => (i.zero, i.size, i.bytes)) = some (some (.agg #[.string ByteArray.empty, .int .u8 0, .bool false, .string ByteArray.empty, .bool false, .string ByteArray.empty, .int .i64 0, .bool false, .string ByteArray.empty, .bool false, .int .i64 0, .pointer none, .int .i64 0, .int .i64 0]), 14, 136) := by kernel_rfl

/-- Cell 14·j of the row is the key of step j. -/
def KeysAt (cur : Array Value) (ss : List ByteArray) (k : Nat) : Prop := ∀ j s, j < k → ss[j]? = some s → cur[j * 14]? = some (.string s)

theorem KeysAt.step {cur : Array Value} {ss : List ByteArray} {k : Nat} {s : ByteArray} (h : KeysAt cur ss k) (hs : ss[k]? = some s) (hlt : k * 14 < cur.size) : KeysAt (cur.setIfInBounds (k * 14) (.string s)) ss (k + 1) := by
  intro j s' hj hs'
  by_cases e : j = k
  · subst e
    rw [hs] at hs'
    cases hs'
    rw [Array.getElem?_setIfInBounds_self_of_lt hlt]
  · rw [Array.getElem?_setIfInBounds_ne (by omega)]
    exact h j s' (by omega) hs'

set_option maxHeartbeats 400000 in
set_option maxRecDepth 100000 in
theorem prep6 (a : Option Addr) (ss : List ByteArray) (cap : Nat) (w : World) (hs : IsStrs w a ss) (hl : ss.length ≤ 4096) :
    Calls Try.prog 6 #[.slice a ss.length cap] w fun e w' => e = .returned (.pointer (some ⟨w.heap.size + 1, 0, none⟩)) ∧
      ∃ cur, KeysAt cur ss ss.length ∧ w' = (w.alloc (.cells cur 55)).alloc (.cells #[.pointer none, .slice (some ⟨w.heap.size, 0, none⟩) ss.length ss.length] 58) := by
  obtain ⟨c0, hc0, hmk⟩ := made_row 49 55 14 136 _ Try.underlying49 info55 ss.length (by omega) (by omega)
  rcases hs with rfl | ⟨b, off, rfl, hlt, hc⟩
  · simp only [List.length_nil, Int.natCast_zero] at hmk
    go_enter Try.func6, Try.ntmps6
    go_wp2
    refine wp_loop_rounds 1 ?_
    rw [rounds_succ]
    go_wp2
    go_ret
    exact ⟨rfl, c0, fun j s hj => by simp at hj, rfl⟩
  · have HC : Hid (∀ j s, ss[j]? = some s → w.cell? ⟨b, off + j, none⟩ = some (.string s)) := hc
    clear hc
    go_enter Try.func6, Try.ntmps6
    go_wp2
    go_loopw [10] (fun i wr => ∃ k cur, k ≤ ss.length ∧ i = .int .i64 k ∧ cur.size = ss.length * 14 ∧ KeysAt cur ss k ∧ wr = w.alloc (.cells cur 55)) (fun i _ => ss.length - (intOf i).toNat)
    case atStart => exact ⟨0, c0, Nat.zero_le _, rfl, hc0, fun j s hj => by omega, rfl⟩
    case round =>
      obtain ⟨k, cur, hk, rfl, hcs, hkeys, rfl⟩ := hrel
      by_cases hkl : k < ss.length
      · obtain ⟨s, hs⟩ := get_some hkl
        have hcell := HC.out k s hs
        have HS : Hid (ss[k]? = some s) := hs
        have hin : k * 14 < cur.size := by omega
        clear hs
        go_wp2
        go_roundw
        case rel => exact ⟨k + 1, _, by omega, by go_num, by rw [Array.size_setIfInBounds]; exact hcs, hkeys.step HS.out hin, rfl⟩
        case measure => simp [intOf]; omega
      · have hkk : k = ss.length := by omega
        have HK : Hid (k = ss.length) := hkk
        clear hkk
        go_wp2
        go_ret
        exact ⟨rfl, cur, by rw [HK.out] at hkeys; exact hkeys, rfl⟩

end Go.Proofs.Qxb6627794a
