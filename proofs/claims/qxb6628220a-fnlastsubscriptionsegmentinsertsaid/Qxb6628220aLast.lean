/-
  LastSubscriptionSegment (9), zzLssIsLast (11): the last index at which f holds.
-/
import Derived.Test.Qxb6628220aGuards
namespace Go.Proofs.Qxb6628220a
open Go.RowKit

/-- Does segment i name c? -/
def hit (gs : List SegV) (c : ByteArray) (i : Nat) : Bool := match gs[i]? with
  | some g => hasB g.ss c
  | none => false
theorem hit_of {gs : List SegV} {c : ByteArray} {i : Nat} {g : SegV} (h : gs[i]? = some g) : hit gs c i = hasB g.ss c := by rw [hit, h]
/-- The last index below k at which f holds, or -1. -/
def lastTo (f : Nat → Bool) : Nat → Int
  | 0 => -1
  | k + 1 => if f k then (k : Int) else lastTo f k
theorem lastTo_lt (f : Nat → Bool) : ∀ k, -1 ≤ lastTo f k ∧ lastTo f k < k
  | 0 => by simp [lastTo]
  | k + 1 => by
    have := lastTo_lt f k
    rw [lastTo]
    split <;> omega
theorem lastTo_hit (f : Nat → Bool) : ∀ k (i : Nat), lastTo f k = i → f i = true
  | 0, i, h => by simp [lastTo] at h
  | k + 1, i, h => by
    rw [lastTo] at h
    split at h
    · rename_i hf
      have : k = i := by omega
      rw [← this]; exact hf
    · exact lastTo_hit f k i h
theorem lastTo_none (f : Nat → Bool) : ∀ k (j : Nat), lastTo f k < j → j < k → f j = false
  | 0, j, _, h => by omega
  | k + 1, j, h1, h2 => by
    rw [lastTo] at h1
    split at h1
    · omega
    · rename_i hf
      by_cases e : j = k
      · subst e; simpa using hf
      · exact lastTo_none f k j h1 (by omega)
theorem lastTo_congr {f g : Nat → Bool} : ∀ k, (∀ i, i < k → f i = g i) → lastTo f k = lastTo g k
  | 0, _ => rfl
  | k + 1, h => by rw [lastTo, lastTo, h k (by omega), lastTo_congr k fun i hi => h i (by omega)]
/-- One segment put in at k. -/
theorem lastTo_insert (f f' : Nat → Bool) (k : Nat) (lo : ∀ i, i < k → f' i = f i) (hi : ∀ i, k ≤ i → f' (i + 1) = f i) :
    ∀ d, lastTo f' (k + d + 1) = if (k : Int) ≤ lastTo f (k + d) then lastTo f (k + d) + 1 else if f' k then (k : Int) else lastTo f (k + d)
  | 0 => by
    have := lastTo_lt f k
    show lastTo f' (k + 1) = if (k : Int) ≤ lastTo f k then lastTo f k + 1 else if f' k then (k : Int) else lastTo f k
    rw [if_neg (by omega), lastTo, lastTo_congr k lo]
  | d + 1 => by
    have ih := lastTo_insert f f' k lo hi d
    rw [show k + (d + 1) + 1 = (k + d + 1) + 1 by omega, lastTo, hi (k + d) (by omega), show k + (d + 1) = k + d + 1 by omega]
    rw [show lastTo f (k + d + 1) = if f (k + d) then ((k + d : Nat) : Int) else lastTo f (k + d) from rfl]
    by_cases h : f (k + d) = true
    · rw [if_pos h, if_pos h, if_pos (by omega)]; omega
    · rw [if_neg h, if_neg h]; exact ih

set_option maxHeartbeats 1000000 in
set_option maxRecDepth 100000 in
theorem last9 (p : Nat) (a : Option Addr) (gs : List SegV) (cap : Nat) (c : ByteArray) (w : World) (hc : w.cell? ⟨p, 6, none⟩ = some (.slice a gs.length cap)) (h : IsSegs w a gs) (hs : ∀ g ∈ gs, SegOk w g) (hl : gs.length ≤ 1048577) :
    Calls Try.prog 9 #[.pointer (some ⟨p, 0, none⟩), .string c] w fun e w' => e = .returned (.int .i64 (lastTo (hit gs c) gs.length)) ∧ Below w.heap.size w w' := by
  have HS : Hid (∀ g ∈ gs, SegOk w g) := hs
  clear hs
  go_enter Try.func9, Try.ntmps9
  go_wp2
  go_loopw [5, 15] (fun v i wr => ∃ (k : Nat) (l : Int), k ≤ gs.length ∧ i = .int .i64 k ∧ v = .int .i64 l ∧ Hid (l = lastTo (hit gs c) k) ∧ Below w.heap.size w wr) (fun _ i _ => gs.length - (intOf i).toNat)
  case atStart => exact ⟨0, -1, Nat.zero_le _, rfl, rfl, (rfl : (-1 : Int) = lastTo (hit gs c) 0), Below.refl _ _⟩
  case round =>
    obtain ⟨k, l, hk, rfl, rfl, hL, bel⟩ := hrel
    by_cases hkl : k < gs.length
    · obtain ⟨⟨gi, gb, ra, rs, rc, sa, ss, sc⟩, hg⟩ := get_some hkl
      have ok := (HS.out _ (List.mem_of_getElem? hg)).below bel
      obtain ⟨qb, qo, rfl, q0, q1, q2, q3⟩ := segs_cell (h.below bel) k _ hg
      simp only at q0 q1 q2 q3
      have lt := World.block_lt_of_cell? wr _ q0
      simp only at lt
      have HH : Hid (lastTo (hit gs c) (k + 1) = if hasB ss c then (k : Int) else l) := by
        show lastTo (hit gs c) (k + 1) = _
        rw [lastTo, hit_of hg, hL.out]
      have bW : Below wr.heap.size wr (wr.alloc (.cells #[.int .i64 gi, .int .i64 gb, .slice ra rs.length rc, .slice sa ss.length sc] 34)) := (Below.refl _ _).alloc (Nat.le_refl _) _
      have H2 : Hid (∀ (k : Nat) s, ss[k]? = some s → ∃ b off, sa = some ⟨b, off, none⟩ ∧ (wr.alloc (.cells #[.int .i64 gi, .int .i64 gb, .slice ra rs.length rc, .slice sa ss.length sc] 34)).cell? ⟨b, off + k, none⟩ = some (.string s)) := strs_cell (ok.s.below bW)
      have hsl := ok.sl
      simp only at hsl
      clear hg ok hc
      go_wp2
      generalize (wr.alloc (.cells #[.int .i64 gi, .int .i64 gb, .slice ra rs.length rc, .slice sa ss.length sc] 34)) = W1 at *
      go_loop [5, 23] (fun v i => ∃ (i2 : Nat) (y : Int), i2 ≤ ss.length ∧ i = .int .i64 i2 ∧ v = .int .i64 y ∧ Hid (y = if hasB (ss.take i2) c then (k : Int) else l)) (fun _ i => ss.length - (intOf i).toNat)
      case atStart => exact ⟨0, l, Nat.zero_le _, rfl, rfl, (by simp [hasB] : l = if hasB (ss.take 0) c then (k : Int) else l)⟩
      case round =>
        obtain ⟨i2, y, hi2, rfl, rfl, hy⟩ := hrel
        by_cases hil : i2 < ss.length
        · obtain ⟨x, hx⟩ := get_some hil
          obtain ⟨b1, o1, rfl, c1⟩ := H2.out i2 x hx
          have HT : Hid (hasB (ss.take (i2 + 1)) c = (hasB (ss.take i2) c || (x.toList == c.toList))) := hasB_take hx
          clear hx
          cases hq : (x.toList == c.toList) with
          | true =>
            have HN : Hid ((k : Int) = if hasB (ss.take (i2 + 1)) c then (k : Int) else l) := by
              show (k : Int) = _
              rw [HT.out, hq, Bool.or_true, if_pos rfl]
            clear HT
            go_wp2
            go_round
            case rel => exact ⟨i2 + 1, _, by omega, by go_num, rfl, HN.out⟩
            case measure => simp [intOf]; omega
          | false =>
            have HN : Hid (y = if hasB (ss.take (i2 + 1)) c then (k : Int) else l) := by
              show y = _
              rw [HT.out, hq, Bool.or_false]; exact hy.out
            clear HT
            go_wp2
            go_round
            case rel => exact ⟨i2 + 1, _, by omega, by go_num, rfl, HN.out⟩
            case measure => simp [intOf]; omega
        · have HN : Hid (y = lastTo (hit gs c) (k + 1)) := by
            have := hy.out
            rw [List.take_of_length_le (by omega)] at this
            show y = _
            rw [HH.out]; exact this
          go_wp2
          go_roundw
          case rel => exact ⟨k + 1, y, by omega, by go_num, rfl, HN.out, bel.trans (bW.mono bel.size)⟩
          case measure => simp [intOf]; omega
    · have HN : Hid (l = lastTo (hit gs c) gs.length) := by
        have := hL.out
        rw [show k = gs.length by omega] at this
        exact this
      go_wp2
      go_ret
      exact ⟨by rw [← HN.out]; rfl, bel⟩

set_option maxHeartbeats 1000000 in
set_option maxRecDepth 100000 in
theorem isLast11 (a : Option Addr) (gs : List SegV) (cap : Nat) (c : ByteArray) (r : Int) (w : World) (h : IsSegs w a gs) (hs : ∀ g ∈ gs, SegOk w g) (hl : gs.length ≤ 1048577) (hr : r = lastTo (hit gs c) gs.length) :
    Calls Try.prog 11 #[.slice a gs.length cap, .string c, .int .i64 r] w fun e w' => e = .returned (.bool true) ∧ w' = w := by
  have HS : Hid (∀ g ∈ gs, SegOk w g) := hs
  have HC : Hid (∀ (j : Nat) g, gs[j]? = some g → ∃ b off, a = some ⟨b, off, none⟩ ∧
    w.cell? ⟨b, off + j * 4, none⟩ = some (.int .i64 g.s) ∧ w.cell? ⟨b, off + j * 4 + 1, none⟩ = some (.int .i64 g.b) ∧
    w.cell? ⟨b, off + j * 4 + 2, none⟩ = some (.slice g.ra g.rs.length g.rc) ∧ w.cell? ⟨b, off + j * 4 + 3, none⟩ = some (.slice g.sa g.ss.length g.sc)) := segs_cell h
  have hb := lastTo_lt (hit gs c) gs.length
  rw [← hr] at hb
  obtain ⟨hb1, hb2⟩ := hb
  have HH : Hid (∀ i : Nat, r = i → hit gs c i = true) := fun i e => lastTo_hit (hit gs c) gs.length i (by rw [← hr]; exact e)
  have HN : Hid (∀ j : Nat, r < j → j < gs.length → hit gs c j = false) := fun j h1 h2 => lastTo_none (hit gs c) gs.length j (by rw [← hr]; exact h1) h2
  clear hs h hr
  go_enter Try.func11, Try.ntmps11
  go_upto_region 3 with fail
  go_cut [27] (fun v wx => wx = w ∧ v = .bool false)
  case first =>
    by_cases h0 : 0 ≤ r
    · obtain ⟨i, rfl⟩ := Int.eq_ofNat_of_zero_le h0
      have hil : i < gs.length := by omega
      obtain ⟨⟨gi, gb, ra, rs, rc, sa, ss, sc⟩, hg⟩ := get_some hil
      have ok := HS.out _ (List.mem_of_getElem? hg)
      obtain ⟨qb, qo, rfl, q0, q1, q2, q3⟩ := HC.out i _ hg
      simp only at q0 q1 q2 q3
      have hh : hasB ss c = true := by
        have := HH.out i rfl
        rw [hit_of hg] at this
        exact this
      have HA : Hid (Calls Try.prog 10 #[.slice sa ss.length sc, .string c] w fun e w' => w' = w ∧ e = .returned (.bool true)) := by
        have := has10 sa ss sc c w ok.s ok.sl
        rw [hh] at this
        exact this
      clear hg ok hh
      go_wp2_with fail
      refine HA.out.mono ?_
      rintro e w' ⟨rfl, rfl⟩
      go_wp2
      go_meet
      exact ⟨rfl, rfl⟩
    · go_wp2
      go_meet
      exact ⟨rfl, rfl⟩
  case rest =>
    obtain ⟨rfl, rfl⟩ := hcut
    go_wp2
    go_loop [7] (fun v => ∃ j : Nat, j ≤ gs.length ∧ v = .int .i64 j ∧ r < j) (fun v => gs.length - (intOf v).toNat)
    case atStart => exact ⟨(r + 1).toNat, by omega, by congr 1; omega, by omega⟩
    case round =>
      obtain ⟨j, hj, rfl, hrj⟩ := hrel
      by_cases hjl : j < gs.length
      · obtain ⟨⟨gi, gb, ra, rs, rc, sa, ss, sc⟩, hg⟩ := get_some hjl
        have ok := HS.out _ (List.mem_of_getElem? hg)
        obtain ⟨qb, qo, rfl, q0, q1, q2, q3⟩ := HC.out j _ hg
        simp only at q0 q1 q2 q3
        have hh : hasB ss c = false := by
          have := HN.out j hrj hjl
          rw [hit_of hg] at this
          exact this
        have HA : Hid (Calls Try.prog 10 #[.slice sa ss.length sc, .string c] wc fun e w' => w' = wc ∧ e = .returned (.bool false)) := by
          have := has10 sa ss sc c wc ok.s ok.sl
          rw [hh] at this
          exact this
        clear hg ok hh
        go_wp2_with fail
        refine HA.out.mono ?_
        rintro e w' ⟨rfl, rfl⟩
        go_wp2
        go_round
        case rel => exact ⟨j + 1, by omega, by go_num, by omega⟩
        case measure => simp [intOf]; omega
      · go_wp2
        go_ret
        exact ⟨rfl, rfl⟩
end Go.Proofs.Qxb6628220a
