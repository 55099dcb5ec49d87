/-
  What the walks are told of memory; zzLssStrs (12), zzLssSegBudget (6), zzLssHas (10).
-/
import Derived.Test.Qxb6628220aRows
import Derived.WalkKit
import Derived.WalkSpells
import Derived.WalkLawsBesides
import Derived.Deep.QuietTactic
import Derived.BigQuiet
import Derived.Deep.RegionHeld3
import Derived.Deep.DeepCutAuto
namespace Go.Proofs.Qxb6628220a
open Go.RowKit

/-- What a walk is told of a slice of strings. -/
def IsStrs (w : World) (a : Option Addr) (ss : List ByteArray) : Prop :=
  ss = [] ∨ ∃ b off, a = some ⟨b, off, none⟩ ∧ b < w.heap.size ∧ ∀ (j : Nat) s, ss[j]? = some s → w.cell? ⟨b, off + j, none⟩ = some (.string s)

theorem IsStrs.below {w w' : World} {a : Option Addr} {ss : List ByteArray} (h : IsStrs w a ss) (hb : Below w.heap.size w w') : IsStrs w' a ss := by
  rcases h with h | ⟨b, off, e, hlt, hc⟩
  · exact .inl h
  · exact .inr ⟨b, off, e, Nat.lt_of_lt_of_le hlt hb.size, fun j s hs => (hb.cell (p := ⟨b, off + j, none⟩) hlt).trans (hc j s hs)⟩
theorem strs_cell {w : World} {a : Option Addr} {ss : List ByteArray} (h : IsStrs w a ss) : ∀ (k : Nat) s, ss[k]? = some s → ∃ b off, a = some ⟨b, off, none⟩ ∧ w.cell? ⟨b, off + k, none⟩ = some (.string s) := by
  rcases h with rfl | ⟨b, off, e, _, hc⟩
  · simp
  · exact fun k s hs => ⟨b, off, e, hc k s hs⟩
theorem get_some {α : Type} {l : List α} {k : Nat} (h : k < l.length) : ∃ s, l[k]? = some s := ⟨l[k], List.getElem?_eq_getElem h⟩

def RetBool (e : Ending) (p : Bool → Prop) : Prop := ∃ r, e = .returned (.bool r) ∧ p r
def RetInt (e : Ending) (p : Int → Prop) : Prop := ∃ r, e = .returned (.int .i64 r) ∧ p r

/-- A segment: two numbers, two slices of strings. -/
structure SegV where
  s : Int
  b : Int
  ra : Option Addr
  rs : List ByteArray
  rc : Nat
  sa : Option Addr
  ss : List ByteArray
  sc : Nat

def SegV.val (g : SegV) : Value := .agg #[.int .i64 g.s, .int .i64 g.b, .slice g.ra g.rs.length g.rc, .slice g.sa g.ss.length g.sc]

/-- Its strings can be read. -/
structure SegOk (w : World) (g : SegV) : Prop where
  r : IsStrs w g.ra g.rs
  s : IsStrs w g.sa g.ss
  rl : g.rs.length ≤ 9223372036854775807
  sl : g.ss.length ≤ 9223372036854775807
theorem SegOk.below {w w' : World} {g : SegV} (h : SegOk w g) (hb : Below w.heap.size w w') : SegOk w' g := ⟨h.r.below hb, h.s.below hb, h.rl, h.sl⟩

set_option maxHeartbeats 400000 in
theorem strs12 (b : Int) (a : Option Addr) (xs : List ByteArray) (cap : Nat) (w : World) (h : IsStrs w a xs) (hb : b ≤ 1048576) (hb2 : -1 ≤ b) (hl : xs.length ≤ 9223372036854775807) :
    Calls Try.prog 12 #[.int .i64 b, .slice a xs.length cap] w fun e w' => w' = w ∧ RetInt e fun r => -1 ≤ r ∧ r ≤ 1048576 := by
  have H1 : Hid (∀ (k : Nat) s, xs[k]? = some s → ∃ b off, a = some ⟨b, off, none⟩ ∧ w.cell? ⟨b, off + k, none⟩ = some (.string s)) := strs_cell h
  clear h
  by_cases hneg : b < 0
  · go_enter Try.func12, Try.ntmps12
    go_wp2
    go_ret
    exact ⟨rfl, _, rfl, by omega, by omega⟩
  by_cases hbig : (xs.length : Int) ≤ b / 16
  case neg =>
    go_enter Try.func12, Try.ntmps12
    go_wp2
    go_ret
    exact ⟨rfl, _, rfl, by omega, by omega⟩
  go_enter Try.func12, Try.ntmps12
  go_wp2
  go_loop [0, 5] (fun v i => ∃ (k : Nat) (z : Int), k ≤ xs.length ∧ i = .int .i64 k ∧ v = .int .i64 z ∧ 0 ≤ z ∧ z ≤ 1048576) (fun _ i => xs.length - (intOf i).toNat)
  case atStart => exact ⟨0, _, Nat.zero_le _, rfl, rfl, by omega, by omega⟩
  case round =>
    obtain ⟨k, z, hk, rfl, rfl, hz0, hz1⟩ := hrel
    by_cases hkl : k < xs.length
    · obtain ⟨x, hx⟩ := get_some hkl
      obtain ⟨b1, o1, rfl, c1⟩ := H1.out k x hx
      clear hx
      by_cases hs : (x.size : Int) ≤ z
      · go_wp2
        go_round
        case rel => exact ⟨k + 1, _, by omega, by go_num, rfl, by omega, by omega⟩
        case measure => simp [intOf]; omega
      · go_wp2
        go_ret
        exact ⟨rfl, _, rfl, by omega, by omega⟩
    · go_wp2
      go_ret
      exact ⟨rfl, _, rfl, by omega, by omega⟩

/-- Is c among the strings? -/
def hasB (xs : List ByteArray) (c : ByteArray) : Bool := xs.any fun s => s.toList == c.toList
theorem hasB_take {xs : List ByteArray} {c s : ByteArray} {k : Nat} (h : xs[k]? = some s) : hasB (xs.take (k + 1)) c = (hasB (xs.take k) c || (s.toList == c.toList)) := by
  rw [List.take_add_one, h]; simp [hasB]
theorem hasB_of {xs : List ByteArray} {c s : ByteArray} {k : Nat} (h : xs[k]? = some s) (hs : (s.toList == c.toList) = true) : hasB xs c = true := by
  rw [hasB, List.any_eq_true]; exact ⟨s, List.mem_of_getElem? h, hs⟩

set_option maxHeartbeats 400000 in
theorem has10 (a : Option Addr) (xs : List ByteArray) (cap : Nat) (c : ByteArray) (w : World) (h : IsStrs w a xs) (hl : xs.length ≤ 9223372036854775807) :
    Calls Try.prog 10 #[.slice a xs.length cap, .string c] w fun e w' => w' = w ∧ e = .returned (.bool (hasB xs c)) := by
  have H1 : Hid (∀ (k : Nat) s, xs[k]? = some s → ∃ b off, a = some ⟨b, off, none⟩ ∧ w.cell? ⟨b, off + k, none⟩ = some (.string s)) := strs_cell h
  clear h
  go_enter Try.func10, Try.ntmps10
  go_wp2
  go_loop [5] (fun i => ∃ k : Nat, k ≤ xs.length ∧ i = .int .i64 k ∧ Hid (hasB (xs.take k) c = false)) (fun i => xs.length - (intOf i).toNat)
  case atStart => exact ⟨0, Nat.zero_le _, rfl, (by simp [hasB] : hasB (xs.take 0) c = false)⟩
  case round =>
    obtain ⟨k, hk, rfl, hF⟩ := hrel
    by_cases hkl : k < xs.length
    · obtain ⟨x, hx⟩ := get_some hkl
      obtain ⟨b1, o1, rfl, c1⟩ := H1.out k x hx
      have HX : Hid (xs[k]? = some x) := hx
      clear hx
      cases hq : (x.toList == c.toList) with
      | true =>
        have HQ : Hid (hasB xs c = true) := hasB_of HX.out hq
        go_wp2
        go_ret
        exact ⟨rfl, by rw [HQ.out]; rfl⟩
      | false =>
        have HQ : Hid (hasB (xs.take (k + 1)) c = false) := by
          have := hasB_take (c := c) HX.out
          rw [hF.out, hq] at this
          exact this
        go_wp2
        go_round
        case rel => exact ⟨k + 1, by omega, by go_num, HQ.out⟩
        case measure => simp [intOf]; omega
    · have HQ : Hid (hasB xs c = false) := by have := hF.out; rw [List.take_of_length_le (by omega)] at this; exact this
      go_wp2
      go_ret
      exact ⟨rfl, by rw [HQ.out]; rfl⟩

set_option maxHeartbeats 400000 in
theorem seg6 (b : Int) (g : SegV) (w : World) (h : SegOk w g) (hb : b ≤ 1048576) (hb2 : -1 ≤ b) :
    Calls Try.prog 6 #[.int .i64 b, g.val] w fun e w' => Below w.heap.size w w' ∧ RetInt e fun r => -1 ≤ r ∧ r ≤ 1048576 := by
  obtain ⟨gs, gb, ra, rs, rc, sa, ss, sc⟩ := g
  have h1 := h.r
  have h2 := h.s
  have h3 := h.rl
  have h4 := h.sl
  simp only at h1 h2 h3 h4
  clear h
  simp only [SegV.val]
  go_enter Try.func6, Try.ntmps6
  have bA : Below w.heap.size w (w.alloc (.cells #[.int .i64 gs, .int .i64 gb, .slice ra rs.length rc, .slice sa ss.length sc] 29)) := (Below.refl _ _).alloc (Nat.le_refl _) _
  go_wp2_with fail
  refine (strs12 b ra rs rc _ (h1.below bA) hb hb2 h3).mono ?_
  rintro e w1 ⟨rfl, r1, rfl, p1, p2⟩
  go_wp2_with fail
  refine (strs12 r1 sa ss sc _ (h2.below bA) p2 p1 h4).mono ?_
  rintro e w2 ⟨rfl, r2, rfl, p3, p4⟩
  go_wp2
  go_ret
  exact ⟨bA, _, rfl, p3, p4⟩
end Go.Proofs.Qxb6628220a
