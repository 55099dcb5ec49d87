/-
  zzCloneBytes (7), zzPairs (8), zzSameBytes (10): contracts.
-/
import Derived.Test.Qxb6627880aGuards
import Derived.Test.Qxb6627880aPlain
import Derived.Test.Qxb6627880aAppend
import Derived.Deep.RegionHeld3
namespace Go.Proofs.Qxb6627880a
open Go.RowKit

/-- Bytes as cells. -/
def cells8 (bs : List UInt8) : List Value := bs.map fun (b : UInt8) => Value.int .u8 (b.toNat : Int)
theorem cells8_len (bs : List UInt8) : (cells8 bs).length = bs.length := by simp [cells8]
theorem cells8_append (xs ys : List UInt8) : cells8 xs ++ cells8 ys = cells8 (xs ++ ys) := by simp [cells8]

/-- What a walk is told of a slice of bytes. -/
def IsBytes (w : World) (a : Option Addr) (bs : List UInt8) : Prop :=
  bs = [] ∨ ∃ b off, a = some ⟨b, off, none⟩ ∧ b < w.heap.size ∧ ∀ (j : Nat) x, bs[j]? = some x → w.cell? ⟨b, off + j, none⟩ = some (.int .u8 (x.toNat : Int))

theorem IsBytes.below {w w' : World} {a : Option Addr} {bs : List UInt8} (h : IsBytes w a bs) (hb : Below w.heap.size w w') : IsBytes w' a bs := by
  rcases h with h | ⟨b, off, e, hlt, hc⟩
  · exact .inl h
  · exact .inr ⟨b, off, e, Nat.lt_of_lt_of_le hlt hb.size, fun j s hs => (hb.cell (p := ⟨b, off + j, none⟩) hlt).trans (hc j s hs)⟩
theorem IsBytes.drewN {w : World} {a : Option Addr} {bs : List UInt8} (h : IsBytes w a bs) (n : Nat) : IsBytes (w.drewN n) a bs := h
theorem bytes_cell {w : World} {a : Option Addr} {bs : List UInt8} (h : IsBytes w a bs) : ∀ (k : Nat) x, bs[k]? = some x → ∃ b off, a = some ⟨b, off, none⟩ ∧ w.cell? ⟨b, off + k, none⟩ = some (.int .u8 (x.toNat : Int)) := by
  rcases h with rfl | ⟨b, off, e, _, hc⟩
  · simp
  · exact fun k s hs => ⟨b, off, e, hc k s hs⟩

/-- 'make' of n elements of whatever type: a row of so many cells. -/
theorem made_row (t e size bytes : Nat) (z : Value) (ht : Try.prog.underlying t = some (.slice e)) (hi : (Try.prog.info? e).map (fun i => (i.zero, i.size, i.bytes)) = some (some z, size, bytes))
    (n : Nat) (hb : bytes * n ≤ 281474976710656) (hn : n ≤ 140737488351232) :
    ∃ c0 : Array Value, c0.size = n * size ∧
      ∀ W : World, (Instr.makeSlice t (.int .i64 (n : Int)) (.int .i64 (n : Int))).run Try.prog W = .ok (.slice (some ⟨W.heap.size, 0, none⟩) n n) (W.alloc (.cells c0 e)) := by
  obtain ⟨i, hi', hz0, hz1, hz2⟩ := info_parts hi
  clear hi
  subst hz1
  subst hz2
  refine ⟨madeCells z.cells (n * i.size), size_madeCells _ _, fun W => ?_⟩
  have h := run_make (P := Try.prog) W t e i z ht hi' hz0 .i64 .i64 (n : Int) (n : Int) (by omega) (Int.le_refl _) (by omega) (by omega)
  simpa using h

theorem info5 : (Try.prog.info? 5).map (fun i => (i.zero, i.size, i.bytes)) = some (some (.int .u8 0), 1, 1) := by kernel_rfl
theorem info33 : (Try.prog.info? 33).map (fun i => (i.zero, i.size, i.bytes)) = some (some (.agg #[.string ByteArray.empty, .string ByteArray.empty]), 2, 32) := by kernel_rfl

theorem take_set_succ {l : List Value} {k : Nat} {m : List Value} {u : Value} (h : l.take k = m) (hk : k < l.length) : (l.set k u).take (k + 1) = m ++ [u] := by
  rw [List.take_add_one, List.take_set, List.set_eq_of_length_le (by simp; omega), h, List.getElem?_set_self hk]
  rfl
theorem cells8_step {bs : List UInt8} {k : Nat} {x : UInt8} (h : bs[k]? = some x) : cells8 (bs.take (k + 1)) = cells8 (bs.take k) ++ [.int .u8 (x.toNat : Int)] := by
  rw [List.take_add_one, h]; simp [cells8]

/-- A row that the call has laid, whole. -/
theorem row_of {w : World} {g n : Nat} {cur : Array Value} {xs : List Value} (h : w.heap[g]? = some (.cells cur 5 (0, 0))) (hs : cur.size = n) (hx : cur.toList = xs) (hn : n ≤ 10000000) : w.ownsRow 0 5 1 (.slice (some ⟨g, 0, none⟩) n n) n xs := by
  refine ⟨by rw [← hx, Array.length_toList]; omega, .inr ⟨g, n, cur, rfl, Nat.zero_le _, h, Nat.le_refl _, by unfold maxLen; omega, by omega, ?_⟩⟩
  rw [← hx, List.take_of_length_le (by rw [Array.length_toList]; omega)]

/-- Behind zzCloneBytes. -/
structure Cloned (w w' : World) (v : Value) (bs : List UInt8) : Prop where
  own : w'.ownsRow 0 5 1 v bs.length (cells8 bs)
  below : Below w.heap.size w w'
  new : ∀ g, v.ownBlock = some g → w.heap.size ≤ g

set_option maxHeartbeats 400000 in
theorem clone7 (a : Option Addr) (bs : List UInt8) (n cap : Nat) (w : World) (hs : IsBytes w a bs) (hn : n = bs.length) (hnil : a = none → bs = []) (hl : bs.length ≤ 4000000) :
    Calls Try.prog 7 #[.slice a n cap] w fun e w' => ∃ v, e = .returned v ∧ Cloned w w' v bs := by
  subst hn
  have q22 : ∀ (w : World) (ao : Option Addr) (n c : Nat), (binOp .eql 22 (.slice ao n c) (.slice none 0 0)).run Try.prog w = .ok (.bool ao.isNone) w := fun w ao n c =>
    Lib.run_eql_slice_nil w _ _ ao n c 0 0 Try.underlying22
  cases a with
  | none =>
    obtain rfl := hnil rfl
    go_enter Try.func7, Try.ntmps7
    go_wp2
    go_ret
    exact ⟨_, rfl, World.ownsRow_nil _ _ _ _, Below.refl _ _, by simp [Value.ownBlock]⟩
  | some ad =>
    obtain ⟨c0, hc0, hmk⟩ := made_row 22 5 1 1 _ Try.underlying22 info5 bs.length (by omega) (by omega)
    have HC : Hid (∀ (k : Nat) x, bs[k]? = some x → ∃ b off, some ad = some ⟨b, off, none⟩ ∧ w.cell? ⟨b, off + k, none⟩ = some (.int .u8 (x.toNat : Int))) := bytes_cell hs
    clear hs hnil
    go_enter Try.func7, Try.ntmps7
    go_wp2
    go_loopw [4] (fun i wr => ∃ k cur, k ≤ bs.length ∧ i = .int .i64 k ∧ cur.size = bs.length ∧ cur.toList.take k = cells8 (bs.take k) ∧ wr = w.alloc (.cells cur 5)) (fun i _ => bs.length - (intOf i).toNat)
    case atStart => exact ⟨0, c0, Nat.zero_le _, rfl, by omega, by simp [cells8], rfl⟩
    case round =>
      obtain ⟨k, cur, hk, rfl, hcs, hct, rfl⟩ := hrel
      have HT : Hid (cur.toList.take k = cells8 (bs.take k)) := hct
      clear hct
      by_cases hkl : k < bs.length
      · obtain ⟨x, hx⟩ := get_some hkl
        obtain ⟨b, off, e, hcell⟩ := HC.out k x hx
        have HX : Hid (bs[k]? = some x) := hx
        clear hx
        cases e
        have hin : k < cur.size := by omega
        have hlt := World.block_lt_of_cell? w _ hcell
        simp only at hlt
        go_wp2
        go_roundw
        case rel => exact ⟨k + 1, _, by omega, by go_num, by simpa using hcs, by rw [Array.toList_setIfInBounds, cells8_step HX.out]; exact take_set_succ HT.out (by rw [Array.length_toList]; exact hin), rfl⟩
        case measure => simp [intOf]; omega
      · have hT := HT.out
        rw [List.take_of_length_le (by rw [Array.length_toList]; omega), List.take_of_length_le (by omega)] at hT
        have HT2 : Hid (cur.toList = cells8 bs) := hT
        clear HT hT
        go_wp2
        go_ret
        exact ⟨_, rfl, row_of (heap_alloc_new _ _) hcs HT2.out (by omega), (Below.refl _ _).alloc (Nat.le_refl _) _, by simp [Value.ownBlock]⟩

/-- What a walk is told of a slice of pairs. -/
def IsPairs (w : World) (a : Option Addr) (ps : List (ByteArray × ByteArray)) : Prop :=
  ps = [] ∨ ∃ b off, a = some ⟨b, off, none⟩ ∧ b < w.heap.size ∧ ∀ (j : Nat) p, ps[j]? = some p → w.cell? ⟨b, off + j * 2, none⟩ = some (.string p.1) ∧ w.cell? ⟨b, off + j * 2 + 1, none⟩ = some (.string p.2)

theorem IsPairs.below {w w' : World} {a : Option Addr} {ps : List (ByteArray × ByteArray)} (h : IsPairs w a ps) (hb : Below w.heap.size w w') : IsPairs w' a ps := by
  rcases h with h | ⟨b, off, e, hlt, hc⟩
  · exact .inl h
  · refine .inr ⟨b, off, e, Nat.lt_of_lt_of_le hlt hb.size, fun j p hp => ⟨?_, ?_⟩⟩
    · exact (hb.cell (p := ⟨b, off + j * 2, none⟩) hlt).trans (hc j p hp).1
    · exact (hb.cell (p := ⟨b, off + j * 2 + 1, none⟩) hlt).trans (hc j p hp).2

/-- The first k pairs lie in the row. -/
def PairsIn (cur : Array Value) (xs ys : List ByteArray) (k : Nat) : Prop := ∀ (j : Nat) x y, j < k → xs[j]? = some x → ys[j]? = some y → cur[j * 2]? = some (.string x) ∧ cur[j * 2 + 1]? = some (.string y)

theorem PairsIn.step {cur : Array Value} {xs ys : List ByteArray} {k : Nat} {x y : ByteArray} (h : PairsIn cur xs ys k) (hx : xs[k]? = some x) (hy : ys[k]? = some y) (hlt : k * 2 + 1 < cur.size) :
    PairsIn ((cur.setIfInBounds (k * 2) (.string x)).setIfInBounds (k * 2 + 1) (.string y)) xs ys (k + 1) := by
  intro j x' y' hj hx' hy'
  by_cases e : j = k
  · subst e
    rw [hx] at hx'
    rw [hy] at hy'
    cases hx'
    cases hy'
    constructor
    · rw [Array.getElem?_setIfInBounds_ne (by omega), Array.getElem?_setIfInBounds_self_of_lt (by omega)]
    · rw [Array.getElem?_setIfInBounds_self_of_lt (by simpa using hlt)]
  · obtain ⟨h1, h2⟩ := h j x' y' (by omega) hx' hy'
    constructor
    · rw [Array.getElem?_setIfInBounds_ne (by omega), Array.getElem?_setIfInBounds_ne (by omega)]; exact h1
    · rw [Array.getElem?_setIfInBounds_ne (by omega), Array.getElem?_setIfInBounds_ne (by omega)]; exact h2

theorem cell_of {w : World} {b o : Nat} {c : Array Value} {e : TypeId} {v : Value} (h : w.heap[b]? = some (.cells c e (0, 0))) (hc : c[o]? = some v) : w.cell? ⟨b, o, none⟩ = some v := by
  simp [World.cell?, h, hc]
theorem free_of {w : World} {b o : Nat} {c : Array Value} {e : TypeId} (h : w.heap[b]? = some (.cells c e (0, 0))) : w.frozen? ⟨b, o, none⟩ = false := by
  simp [World.frozen?, h]
theorem setCell_heap {w : World} {t i : Nat} {c : Array Value} {e : TypeId} {f : Nat × Nat} (h : w.heap[t]? = some (.cells c e f)) (u : Value) : (w.setCell ⟨t, i, none⟩ u).heap[t]? = some (.cells (c.setIfInBounds i u) e f) := by
  simp [World.setCell, Array.getElem?_modify, h]

/-- zzPairs after k rounds. -/
structure PairsRel (w wr : World) (xs ys : List ByteArray) (k : Nat) : Prop where
  row : ∃ cur, wr.heap[w.heap.size]? = some (.cells cur 33 (0, 0)) ∧ cur.size = xs.length * 2 ∧ PairsIn cur xs ys k
  below : Below w.heap.size w wr

theorem PairsRel.step {w wr : World} {xs ys : List ByteArray} {k : Nat} {x y : ByteArray} (h : PairsRel w wr xs ys k) (hx : xs[k]? = some x) (hy : ys[k]? = some y) :
    PairsRel w ((wr.drew.setCell ⟨w.heap.size, k * 2, none⟩ (.string x)).setCell ⟨w.heap.size, k * 2 + 1, none⟩ (.string y)) xs ys (k + 1) := by
  obtain ⟨cur, hc, hs, hp⟩ := h.row
  have hk := (List.getElem?_eq_some_iff.1 hx).1
  exact ⟨⟨_, setCell_heap (setCell_heap (w := wr.drew) hc _) _, by simpa using hs, hp.step hx hy (by omega)⟩, (h.below.drew.setCell (Nat.le_refl _) _).setCell (Nat.le_refl _) _⟩

set_option maxHeartbeats 400000 in
theorem pairs8 (a1 a2 : Option Addr) (xs ys : List ByteArray) (n n2 c1 c2 : Nat) (w : World) (h1 : IsStrs w a1 xs) (h2 : IsStrs w a2 ys) (hn : n = xs.length) (hn2 : n2 = xs.length) (hy : ys.length = xs.length) (hl : xs.length ≤ 65536) :
    Calls Try.prog 8 #[.slice a1 n c1, .slice a2 n2 c2] w fun e w' => e = .returned (.slice (some ⟨w.heap.size, 0, none⟩) n n) ∧ PairsRel w w' xs ys xs.length := by
  subst hn
  subst hn2
  obtain ⟨c0, hc0, hmk⟩ := made_row 27 33 2 32 _ Try.underlying27 info33 xs.length (by omega) (by omega)
  have H1 : Hid (∀ (k : Nat) s, xs[k]? = some s → ∃ b off, a1 = some ⟨b, off, none⟩ ∧ w.cell? ⟨b, off + k, none⟩ = some (.string s)) := strs_cell h1
  have H2 : Hid (∀ (k : Nat) s, ys[k]? = some s → ∃ b off, a2 = some ⟨b, off, none⟩ ∧ w.cell? ⟨b, off + k, none⟩ = some (.string s)) := strs_cell h2
  have HY : Hid (ys.length = xs.length) := hy
  clear h1 h2 hy
  go_enter Try.func8, Try.ntmps8
  go_wp2
  go_loopw [6] (fun i wr => ∃ k : Nat, k ≤ xs.length ∧ i = .int .i64 k ∧ PairsRel w wr xs ys k) (fun i _ => xs.length - (intOf i).toNat)
  case atStart => exact ⟨0, Nat.zero_le _, rfl, ⟨c0, heap_alloc_new _ _, hc0, fun j x y hj => by omega⟩, (Below.refl _ _).alloc (Nat.le_refl _) _⟩
  case round =>
    clear hmk hc0
    obtain ⟨k, hk, rfl, hR⟩ := hrel
    by_cases hkl : k < xs.length
    · obtain ⟨x, hx⟩ := get_some hkl
      obtain ⟨y, hy⟩ := get_some (show k < ys.length by rw [HY.out]; exact hkl)
      obtain ⟨b, off, rfl, hc1⟩ := H1.out k x hx
      obtain ⟨b', off', rfl, hc2⟩ := H2.out k y hy
      have HX : Hid (xs[k]? = some x) := hx
      have HY2 : Hid (ys[k]? = some y) := hy
      have lt1 := World.block_lt_of_cell? w _ hc1
      have lt2 := World.block_lt_of_cell? w _ hc2
      simp only at lt1 lt2
      have hc1' := (hR.below.cell (p := ⟨b, off + k, none⟩) lt1).trans hc1
      have hc2' := (hR.below.cell (p := ⟨b', off' + k, none⟩) lt2).trans hc2
      obtain ⟨cur, hc, hs, _⟩ := hR.row
      have u0 := cell_of hc (Array.getElem?_eq_getElem (show k * 2 < cur.size by omega))
      have u1 := cell_of hc (Array.getElem?_eq_getElem (show k * 2 + 1 < cur.size by omega))
      have f0 : wr.frozen? ⟨w.heap.size, k * 2, none⟩ = false := free_of hc
      have f1 : wr.frozen? ⟨w.heap.size, k * 2 + 1, none⟩ = false := free_of hc
      have n1 : ¬ w.heap.size = b := by omega
      have n2 : ¬ w.heap.size = b' := by omega
      clear hx hy hc1 hc2 hc
      go_wp2
      go_region_held3 (fun w' => w'.cell? ⟨b, off + k, none⟩ = some (.string x) ∧ w'.cell? ⟨b', off' + k, none⟩ = some (.string y)) (go_keep) (fail)
      go_wp2
      go_roundw
      case rel => exact ⟨k + 1, by omega, by go_num, hR.step HX.out HY2.out⟩
      case measure => simp [intOf]; omega
    · have HK : Hid (k = xs.length) := show k = xs.length by omega
      go_wp2
      go_ret
      exact ⟨rfl, by have h := hR; rw [HK.out] at h; exact h⟩

end Go.Proofs.Qxb6627880a
