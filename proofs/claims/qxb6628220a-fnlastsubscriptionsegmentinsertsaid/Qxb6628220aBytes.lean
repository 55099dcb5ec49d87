/-
  zzBytes (4), whole. (Written by a script.)
-/
import Derived.Test.Qxb6628220aBytesB
namespace Go.Proofs.Qxb6628220a
open Go.RowKit

set_option maxHeartbeats 8000000 in
set_option maxRecDepth 1000000 in
theorem bytes4 (s : SchV) (c : ByteArray) (kk : Int) (g : SegV) (w : World) (h : SchOk w s) (hg : SegOk w g) :
    Calls Try.prog 4 #[s.val, .string c, .int .i64 kk, g.val] w fun e w' => Below w.heap.size w w' ∧ RetBool e fun r => FewIf r s.gs.length := by
  obtain ⟨an, mo, ro, ea, es, ec, so, re, oa, gs, oc⟩ := s
  obtain ⟨gs', gb', ra', rs', rc', sa', ss', sc'⟩ := g
  have bA : Below w.heap.size w ((w.alloc (.cells #[.string an, .int .i64 mo, .string ro, .slice ea es.length ec, .pointer so, .pointer re, .slice oa gs.length oc] 27)).alloc (.cells #[.int .i64 gs', .int .i64 gb', .slice ra' rs'.length rc', .slice sa' ss'.length sc'] 29)) := ((Below.refl _ _).alloc (Nat.le_refl _) _).alloc (by simp) _
  have OK := h.below bA
  have OG := hg.below bA
  have s0 : ((w.alloc (.cells #[.string an, .int .i64 mo, .string ro, .slice ea es.length ec, .pointer so, .pointer re, .slice oa gs.length oc] 27)).alloc (.cells #[.int .i64 gs', .int .i64 gb', .slice ra' rs'.length rc', .slice sa' ss'.length sc'] 29)).cell? ⟨w.heap.size, 0, none⟩ = some (.string an) := by simp
  have s1 : ((w.alloc (.cells #[.string an, .int .i64 mo, .string ro, .slice ea es.length ec, .pointer so, .pointer re, .slice oa gs.length oc] 27)).alloc (.cells #[.int .i64 gs', .int .i64 gb', .slice ra' rs'.length rc', .slice sa' ss'.length sc'] 29)).cell? ⟨w.heap.size, 1, none⟩ = some (.int .i64 mo) := by simp
  have s2 : ((w.alloc (.cells #[.string an, .int .i64 mo, .string ro, .slice ea es.length ec, .pointer so, .pointer re, .slice oa gs.length oc] 27)).alloc (.cells #[.int .i64 gs', .int .i64 gb', .slice ra' rs'.length rc', .slice sa' ss'.length sc'] 29)).cell? ⟨w.heap.size, 2, none⟩ = some (.string ro) := by simp
  have s3 : ((w.alloc (.cells #[.string an, .int .i64 mo, .string ro, .slice ea es.length ec, .pointer so, .pointer re, .slice oa gs.length oc] 27)).alloc (.cells #[.int .i64 gs', .int .i64 gb', .slice ra' rs'.length rc', .slice sa' ss'.length sc'] 29)).cell? ⟨w.heap.size, 3, none⟩ = some (.slice ea es.length ec) := by simp
  have s4 : ((w.alloc (.cells #[.string an, .int .i64 mo, .string ro, .slice ea es.length ec, .pointer so, .pointer re, .slice oa gs.length oc] 27)).alloc (.cells #[.int .i64 gs', .int .i64 gb', .slice ra' rs'.length rc', .slice sa' ss'.length sc'] 29)).cell? ⟨w.heap.size, 4, none⟩ = some (.pointer so) := by simp
  have s5 : ((w.alloc (.cells #[.string an, .int .i64 mo, .string ro, .slice ea es.length ec, .pointer so, .pointer re, .slice oa gs.length oc] 27)).alloc (.cells #[.int .i64 gs', .int .i64 gb', .slice ra' rs'.length rc', .slice sa' ss'.length sc'] 29)).cell? ⟨w.heap.size, 5, none⟩ = some (.pointer re) := by simp
  have s6 : ((w.alloc (.cells #[.string an, .int .i64 mo, .string ro, .slice ea es.length ec, .pointer so, .pointer re, .slice oa gs.length oc] 27)).alloc (.cells #[.int .i64 gs', .int .i64 gb', .slice ra' rs'.length rc', .slice sa' ss'.length sc'] 29)).cell? ⟨w.heap.size, 6, none⟩ = some (.slice oa gs.length oc) := by simp
  have t2 : ((w.alloc (.cells #[.string an, .int .i64 mo, .string ro, .slice ea es.length ec, .pointer so, .pointer re, .slice oa gs.length oc] 27)).alloc (.cells #[.int .i64 gs', .int .i64 gb', .slice ra' rs'.length rc', .slice sa' ss'.length sc'] 29)).cell? ⟨w.heap.size + 1, 2, none⟩ = some (.slice ra' rs'.length rc') := by simp
  have t3 : ((w.alloc (.cells #[.string an, .int .i64 mo, .string ro, .slice ea es.length ec, .pointer so, .pointer re, .slice oa gs.length oc] 27)).alloc (.cells #[.int .i64 gs', .int .i64 gb', .slice ra' rs'.length rc', .slice sa' ss'.length sc'] 29)).cell? ⟨w.heap.size + 1, 3, none⟩ = some (.slice sa' ss'.length sc') := by simp
  clear h hg
  simp only [SchV.val, SegV.val]
  go_enter Try.func4, Try.ntmps4
  go_upto_region 1 with fail
  generalize ((w.alloc (.cells #[.string an, .int .i64 mo, .string ro, .slice ea es.length ec, .pointer so, .pointer re, .slice oa gs.length oc] 27)).alloc (.cells #[.int .i64 gs', .int .i64 gb', .slice ra' rs'.length rc', .slice sa' ss'.length sc'] 29)) = W0 at *
  have HE : Hid (∀ (k : Nat) s, es[k]? = some s → ∃ b off, ea = some ⟨b, off, none⟩ ∧ W0.cell? ⟨b, off + k, none⟩ = some (.string s)) := strs_cell OK.e
  have HSO := OK.so
  have HO : Hid (IsSegs W0 oa gs) := OK.o
  have HG : Hid (∀ g ∈ gs, SegOk W0 g) := OK.g
  have HR : Hid (∀ (k : Nat) s, rs'[k]? = some s → ∃ b off, ra' = some ⟨b, off, none⟩ ∧ W0.cell? ⟨b, off + k, none⟩ = some (.string s)) := strs_cell OG.r
  have HS : Hid (∀ (k : Nat) s, ss'[k]? = some s → ∃ b off, sa' = some ⟨b, off, none⟩ ∧ W0.cell? ⟨b, off + k, none⟩ = some (.string s)) := strs_cell OG.s
  simp only at HSO
  clear OK OG
  by_cases k0a : an.size ≤ 1048576
  case neg =>
    go_wp2
    go_ret
    exact ⟨bA, false, rfl, fun h => by cases h⟩
  by_cases k13a : (ro.size) ≤ 1048576
  case neg =>
    go_wp2
    go_ret
    exact ⟨bA, false, rfl, fun h => by cases h⟩
  by_cases k13b : (an.size : Int) + ((ro.size : Nat) : Int) ≤ 1048576
  case neg =>
    go_wp2
    go_ret
    exact ⟨bA, false, rfl, fun h => by cases h⟩
  by_cases k14a : (es.length) ≤ 1048576
  case neg =>
    go_wp2
    go_ret
    exact ⟨bA, false, rfl, fun h => by cases h⟩
  by_cases k14b : ((an.size : Int) + ro.size) + ((es.length : Nat) : Int) ≤ 1048576
  case neg =>
    go_wp2
    go_ret
    exact ⟨bA, false, rfl, fun h => by cases h⟩
  go_wp2
  go_loop [9, 10] (fun v i => ∃ (k : Nat) (z : Int), k ≤ es.length ∧ i = .int .i64 k ∧ v = .int .i64 z ∧ 0 ≤ z ∧ z ≤ 1048576) (fun _ i => es.length - (intOf i).toNat)
  case atStart => exact ⟨0, _, Nat.zero_le _, rfl, rfl, by omega, by omega⟩
  case round =>
    obtain ⟨i15, z15, hi15, rfl, rfl, lo15, hi15'⟩ := hrel
    by_cases hl15 : i15 < es.length
    · obtain ⟨x, hx⟩ := get_some hl15
      obtain ⟨b1, o1, rfl, c1⟩ := HE.out i15 x hx
      clear hx
      by_cases k16a : (x.size) ≤ 1048576
      case neg =>
        go_wp2
        go_ret
        exact ⟨bA, false, rfl, fun h => by cases h⟩
      by_cases k16b : z15 + ((x.size : Nat) : Int) ≤ 1048576
      case neg =>
        go_wp2
        go_ret
        exact ⟨bA, false, rfl, fun h => by cases h⟩
      go_wp2
      go_round
      case rel => exact ⟨i15 + 1, _, by omega, by go_num, rfl, by omega, by omega⟩
      case measure => simp [intOf]; omega
    · go_upto_if 75 with fail
      go_cut [9] (fun v wx => wx = W0 ∧ ∃ z : Int, v = .int .i64 z ∧ 0 ≤ z ∧ z ≤ 1048576)
      case first =>
        cases so with
        | none =>
          go_wp2
          go_meet
          exact ⟨rfl, _, rfl, by omega, by omega⟩
        | some p =>
          obtain ⟨pb, po, rfl, i, d, t, -, c1, -⟩ := HSO p rfl
          by_cases k17a : (d.size) ≤ 1048576
          case neg =>
            go_wp2
            go_ret
            exact ⟨bA, false, rfl, fun h => by cases h⟩
          by_cases k17b : z15 + ((d.size : Nat) : Int) ≤ 1048576
          case neg =>
            go_wp2
            go_ret
            exact ⟨bA, false, rfl, fun h => by cases h⟩
          go_wp2
          go_meet
          exact ⟨rfl, _, rfl, by omega, by omega⟩
      obtain ⟨e1, zq, rfl, zq0, zq1⟩ := hcut
      subst e1
      obtain ⟨wq, hq⟩ : ∃ x, x = wc := ⟨_, rfl⟩
      subst hq
      by_cases kg : gs.length ≤ 1048576
      case neg =>
        go_wp2
        go_ret
        exact ⟨bA, false, rfl, fun h => by cases h⟩
      go_upto_region 33 with fail
      go_cut [9] (fun v wx => wx = wq ∧ v = .int .i64 (zq + gs.length))
      case first =>
        go_wp2
        go_meet
        exact ⟨rfl, rfl⟩
      obtain ⟨e1, e2⟩ := hcut
      subst e1
      subst e2
      go_step
      exact bytes4b w wc w.heap.size c (zq + gs.length) oa gs oc ra' rs' rc' sa' ss' sc' _ _ _ _ _ _ _ _ _ _ _ _ _ _ _ _ _ _ _ _ _ _ _ _ _ _ _ _ _ _ _ _ _ _ _ _ _ _ _ _ _ _ _ _ _ _ _ _ _ _ _ _ _ _ _ _ _ _ _ _ _ _ _ _ _ _ _ _ _ _ _ _ _ _ _ _ _ _ _ _ _ _ _ _ _ _ _ _ _ _ _ _ _ _ _ _ _ _ _ _ _ _ _ _ _ _ _ _ _ _ _ _ _ _ _ _ _ _ _ _ _ _ _ _ _ _ _ _ _ _ _ _ _ _ _ _ _ _ _ _ _ _ _ _ _ _ _ _ _ _ _ _ _ _ _ _ _ _ _ _ _ _ _ _ _ _ _ _ _ _ _ _ _ _ _ _ _ _ _ _ _ _ _ _ _ _ _ _ _ _ _ _ _ _ _ _ _ _ _ _ _ _ _ _ _ _ _ _ _ _ _ _ _ _ _ _ _ _ _ _ _ _ _ _ _ _ _ _ _ _ _ _ _ _ _ _ _ _ _ _ _ _ _ _ _ _ _ _ _ _ _ _ _ _ _ _ _ _ _ _ _ _ _ _ _ _ _ _ _ _ _ _ _ _ _ _ _ _ _ _ _ _ _ _ _ _ _ _ _ _ _ _ _ _ _ _ bA (by omega) (by omega) (by omega) s6 t2 t3 HO HG HR HS

end Go.Proofs.Qxb6628220a
