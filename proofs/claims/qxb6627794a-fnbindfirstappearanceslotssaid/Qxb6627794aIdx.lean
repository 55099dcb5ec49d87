/-
  zzIndexOf (function 8), the table's readers (17, 18), and the size guard of two slices (5).
-/
import Derived.Test.Qxb6627794aFin
import Derived.Test.Qxb6627794aPlain2
import Derived.Deep.QuietTactic
import Derived.BigQuiet
namespace Go.Proofs.Qxb6627794a
open Go.RowKit Go.Maps

theorem str_eq {x s : ByteArray} : (x.toList == s.toList) = true ↔ x = s := by
  rw [beq_iff_eq, ByteArray.toList_eq, ByteArray.toList_eq]
  constructor
  · intro h
    exact ByteArray.ext (Array.toList_inj.1 h)
  · intro h
    rw [h]
theorem str_ne {x s : ByteArray} : (x.toList == s.toList) = false ↔ x ≠ s := by
  rw [← Bool.not_eq_true, str_eq]

theorem no_step {ss : List ByteArray} {s x : ByteArray} {k : Nat} (hx : ss[k]? = some x) (hne : x ≠ s) (h : ∀ j, j < k → ss[j]? ≠ some s) : ∀ j, j < k + 1 → ss[j]? ≠ some s := by
  intro j hj e
  by_cases hjk : j = k
  · subst hjk
    rw [hx] at e
    exact hne (Option.some.inj e)
  · exact h j (by omega) e
theorem no_all {ss : List ByteArray} {s : ByteArray} (h : ∀ j, j < ss.length → ss[j]? ≠ some s) : s ∉ ss := by
  intro hm
  obtain ⟨j, hj, e⟩ := List.getElem_of_mem hm
  exact h j hj (by rw [List.getElem?_eq_getElem hj, e])

set_option maxHeartbeats 400000 in
theorem idx8 (a : Option Addr) (ss : List ByteArray) (n cap : Nat) (s : ByteArray) (w : World) (hs : IsStrs w a ss) (hn : n = ss.length) (hl : ss.length ≤ 10000) :
    Calls Try.prog 8 #[.slice a n cap, .string s] w fun e w' => e = .returned (.int .i64 (zx s ss)) ∧ w' = w := by
  subst hn
  rcases hs with rfl | ⟨b, off, rfl, hlt, hc⟩
  · have hz : zx s [] = -1 := rfl
    have HZ : Hid (zx s [] = -1) := hz
    clear hz
    go_enter Try.func8, Try.ntmps8
    go_wp2
    refine wp_loop_rounds 1 ?_
    rw [rounds_succ]
    go_wp2
    go_ret
    exact ⟨by rw [HZ.out]; rfl, rfl⟩
  · have HC : Hid (∀ j s, ss[j]? = some s → w.cell? ⟨b, off + j, none⟩ = some (.string s)) := hc
    clear hc
    go_enter Try.func8, Try.ntmps8
    go_wp2
    go_loop [8] (fun i => ∃ k : Nat, k ≤ ss.length ∧ i = .int .i64 k ∧ ∀ j, j < k → ss[j]? ≠ some s) (fun i => ss.length - (intOf i).toNat)
    case atStart => exact ⟨0, Nat.zero_le _, rfl, fun j hj => by omega⟩
    case round =>
      obtain ⟨k, hk, rfl, hno⟩ := hrel
      have HN : Hid (∀ j, j < k → ss[j]? ≠ some s) := hno
      clear hno
      by_cases hkl : k < ss.length
      · obtain ⟨x, hx⟩ := get_some hkl
        have hcell := HC.out k x hx
        have HX : Hid (ss[k]? = some x) := hx
        clear hx
        by_cases he : x = s
        · subst he
          have HR : Hid (zx x ss = (k : Int)) := by
            have := ix_first HN.out HX.out
            show zx x ss = _
            rw [zx_in (List.mem_of_getElem? HX.out), this]
          go_wp2
          go_ret
          exact ⟨by rw [HR.out]; rfl, rfl⟩
        · have hne : (x.toList == s.toList) = false := str_ne.2 he
          clear he
          have HE : Hid (x ≠ s) := str_ne.1 hne
          go_wp2
          go_round
          case rel => exact ⟨k + 1, by omega, by go_num, no_step HX.out HE.out HN.out⟩
          case measure => simp [intOf]; omega
      · have HR : Hid (zx s ss = -1) := by
          have : k = ss.length := by omega
          subst this
          exact zx_out (no_all HN.out)
        go_wp2
        go_ret
        exact ⟨by rw [HR.out]; rfl, rfl⟩

/-- zzBytes over two slices: it only reads; where it says yes every string is at most 1<<20 bytes long. -/
def SizesOk (xs ys : List ByteArray) : Prop := (∀ s ∈ xs, s.size ≤ 1048576) ∧ ∀ s ∈ ys, s.size ≤ 1048576

theorem strs_cell {w : World} {a : Option Addr} {ss : List ByteArray} (h : IsStrs w a ss) : ∀ (k : Nat) s, ss[k]? = some s → ∃ b off, a = some ⟨b, off, none⟩ ∧ w.cell? ⟨b, off + k, none⟩ = some (.string s) := by
  rcases h with rfl | ⟨b, off, e, _, hc⟩
  · simp
  · exact fun k s hs => ⟨b, off, e, hc k s hs⟩

set_option maxHeartbeats 800000 in
theorem bytes5 (a0 a1 : Option Addr) (xs ys : List ByteArray) (c0 c1 : Nat) (w : World) (h0 : IsStrs w a0 xs) (h1 : IsStrs w a1 ys) (l0 : xs.length ≤ 140737488351232) (l1 : ys.length ≤ 140737488351232) :
    Calls Try.prog 5 #[.slice a0 xs.length c0, .slice a1 ys.length c1] w fun e w' => w' = w ∧ RetBool e fun r => r = true → SizesOk xs ys := by
  have H0 : Hid (∀ (k : Nat) s, xs[k]? = some s → ∃ b off, a0 = some ⟨b, off, none⟩ ∧ w.cell? ⟨b, off + k, none⟩ = some (.string s)) := strs_cell h0
  have H1 : Hid (∀ (k : Nat) s, ys[k]? = some s → ∃ b off, a1 = some ⟨b, off, none⟩ ∧ w.cell? ⟨b, off + k, none⟩ = some (.string s)) := strs_cell h1
  clear h0 h1
  by_cases hl0 : xs.length ≤ 1048576
  · go_enter Try.func5, Try.ntmps5
    go_wp2
    go_loop [5, 6] (fun n i => ∃ (k : Nat) (z : Int), k ≤ xs.length ∧ i = .int .i64 k ∧ n = .int .i64 z ∧ 0 ≤ z ∧ z ≤ 1048576 ∧ ∀ s ∈ xs.take k, s.size ≤ 1048576) (fun _ i => xs.length - (intOf i).toNat)
    case atStart => exact ⟨0, _, Nat.zero_le _, rfl, rfl, by omega, by omega, by simp⟩
    case round =>
      obtain ⟨k, z, hk, rfl, rfl, hz0, hz1, hall⟩ := hrel
      have HA : Hid (∀ s ∈ xs.take k, s.size ≤ 1048576) := hall
      clear hall
      by_cases hkl : k < xs.length
      · obtain ⟨s, hs⟩ := get_some hkl
        obtain ⟨b, off, rfl, hcell⟩ := H0.out k s hs
        have HS : Hid (xs[k]? = some s) := hs
        clear hs
        by_cases hsz : s.size ≤ 1048576
        · by_cases hsum : z + s.size ≤ 1048576
          · go_wp2
            go_round
            case rel => exact ⟨k + 1, _, by omega, by go_num, rfl, by omega, by omega, all_take_succ HS.out HA.out hsz⟩
            case measure => simp [intOf]; omega
          · go_wp2
            go_ret
            exact ⟨rfl, false, rfl, by simp⟩
        · go_wp2
          go_ret
          exact ⟨rfl, false, rfl, by simp⟩
      · have HA' : Hid (∀ s ∈ xs, s.size ≤ 1048576) := by
          have h := HA.out
          rw [List.take_of_length_le (by omega)] at h
          exact h
        clear HA
        by_cases hl1 : ys.length ≤ 1048576
        · by_cases hsum : z + ys.length ≤ 1048576
          · go_wp2
            go_loop [5, 7] (fun n i => ∃ (k : Nat) (z : Int), k ≤ ys.length ∧ i = .int .i64 k ∧ n = .int .i64 z ∧ 0 ≤ z ∧ z ≤ 1048576 ∧ ∀ s ∈ ys.take k, s.size ≤ 1048576) (fun _ i => ys.length - (intOf i).toNat)
            case atStart => exact ⟨0, _, Nat.zero_le _, rfl, rfl, by omega, by omega, by simp⟩
            case round =>
              clear hk hkl hz0 hz1 hsum
              obtain ⟨k, z, hk, rfl, rfl, hz0, hz1, hall⟩ := hrel
              have HB : Hid (∀ s ∈ ys.take k, s.size ≤ 1048576) := hall
              clear hall
              by_cases hkl : k < ys.length
              · obtain ⟨s, hs⟩ := get_some hkl
                obtain ⟨b, off, rfl, hcell⟩ := H1.out k s hs
                have HS : Hid (ys[k]? = some s) := hs
                clear hs
                by_cases hsz : s.size ≤ 1048576
                · by_cases hsum : z + s.size ≤ 1048576
                  · go_wp2
                    go_round
                    case rel => exact ⟨k + 1, _, by omega, by go_num, rfl, by omega, by omega, all_take_succ HS.out HB.out hsz⟩
                    case measure => simp [intOf]; omega
                  · go_wp2
                    go_ret
                    exact ⟨rfl, false, rfl, by simp⟩
                · go_wp2
                  go_ret
                  exact ⟨rfl, false, rfl, by simp⟩
              · have HB' : Hid (∀ s ∈ ys, s.size ≤ 1048576) := by
                  have h := HB.out
                  rw [List.take_of_length_le (by omega)] at h
                  exact h
                go_wp2
                go_ret
                exact ⟨rfl, true, rfl, fun _ => ⟨HA'.out, HB'.out⟩⟩
          · go_wp2
            go_ret
            exact ⟨rfl, false, rfl, by simp⟩
        · go_wp2
          go_ret
          exact ⟨rfl, false, rfl, by simp⟩
  · go_enter Try.func5, Try.ntmps5
    go_wp2
    go_ret
    exact ⟨rfl, false, rfl, by simp⟩

end Go.Proofs.Qxb6627794a
