/-
  zzDecodesTo (13): packed pairs that are free of separators read back as themselves.
-/
import Derived.Test.Qxb6627880aText
import Derived.Test.Qxb6627880aRound
namespace Go.Proofs.Qxb6627880a
open Go.RowKit

/-- 'out[lo:hi]': its address is a letter, told where there is something between. -/
theorem slice_cut (g off : Nat) {n c lo hi : Nat} (h1 : lo ≤ hi) (h2 : hi ≤ n) (h3 : n ≤ c) : ∃ a3, (lo < hi → a3 = some ⟨g, off + lo, none⟩) ∧ ∀ W : World, (Instr.slice 22 (.slice (some ⟨g, off, none⟩) n c) (some (.int .i64 (lo : Int))) (some (.int .i64 (hi : Int))) none).run Try.prog W = .ok (.slice a3 (hi - lo) (c - lo)) W := by
  refine ⟨if c = lo then some ⟨g, off, none⟩ else some ⟨g, off + lo, none⟩, fun hlt => if_neg (by omega), fun W => ?_⟩
  obtain ⟨i, hi', _, hz1, _⟩ := info_parts info5
  have hadd : (⟨g, off, none⟩ : Addr).add lo = ⟨g, off + lo, none⟩ := by unfold Addr.add; split <;> simp_all
  simp [Instr.slice, run_underlying Try.underlying22, Instr.sliceBounds, Instr.sliceBound, asIntOf, sizeOf, typeInfo, hi', hz1, hadd]
  rw [if_pos (by omega), if_pos h1]

theorem packB_ne {p : ByteArray × ByteArray} {l : List (ByteArray × ByteArray)} : 0 < (packB (p :: l)).length := by
  simp [packB, pack, one]
  omega
theorem bytes_at {w : World} {g off : Nat} {out : List UInt8} (h : IsBytes w (some ⟨g, off, none⟩) out) {k : Nat} {x : UInt8} (hx : out[k]? = some x) : w.cell? ⟨g, off + k, none⟩ = some (.int .u8 (x.toNat : Int)) := by
  obtain ⟨b, o, e, hc⟩ := bytes_cell h k x hx
  cases e
  exact hc
/-- A cut of a slice of bytes. -/
theorem bytes_cut {w : World} {g off lo : Nat} {out seg : List UInt8} {a3 : Option Addr} (h : IsBytes w (some ⟨g, off, none⟩) out) (hs : ∀ (i : Nat) c, seg[i]? = some c → out[lo + i]? = some c) (ha : 0 < seg.length → a3 = some ⟨g, off + lo, none⟩) : IsBytes w a3 seg := by
  by_cases h0 : seg = []
  · exact .inl h0
  · have hl : 0 < seg.length := List.length_pos_iff.2 h0
    rcases h with rfl | ⟨b, o, e, hlt, hc⟩
    · obtain ⟨c, hc⟩ := get_some hl
      have := hs 0 c hc
      simp at this
    · cases e
      exact .inr ⟨g, off + lo, ha hl, hlt, fun j c hj => by rw [Nat.add_assoc]; exact hc _ c (hs j c hj)⟩

set_option maxHeartbeats 2000000 in
set_option maxRecDepth 100000 in
theorem decode13 (a a1 a2 : Option Addr) (xs ys : List ByteArray) (n c n1 n2 c1 c2 : Nat) (w : World) (hb : IsBytes w a (packB (xs.zip ys))) (h1 : IsStrs w a1 xs) (h2 : IsStrs w a2 ys) (hn : n = (packB (xs.zip ys)).length) (hn1 : n1 = xs.length) (hn2 : n2 = xs.length) (hy : ys.length = xs.length)
    (hnc : n ≤ c) (hnl : n ≤ 4000000) (hxl : xs.length ≤ 65536) (fx : ∀ s ∈ xs, Free s ∧ s.size ≤ 1048576) (fy : ∀ s ∈ ys, Free s ∧ s.size ≤ 1048576) :
    Calls Try.prog 13 #[.slice a n c, .slice a1 n1 c1, .slice a2 n2 c2] w fun e w' => e = .returned (.bool true) ∧ ∃ q, w' = w.drewN q := by
  subst hn1
  subst hn2
  by_cases hx0 : xs = []
  · subst hx0
    have hn0 : n = 0 := by rw [hn]; simp [packB, pack]
    subst hn0
    clear hb h1 h2 hn hy fx fy
    go_enter Try.func13, Try.ntmps13
    go_wp2
    go_ret
    exact ⟨rfl, 0, rfl⟩
  have hxp : 0 < xs.length := List.length_pos_iff.2 hx0
  have hnp : 0 < n := by
    cases xs with
    | nil => exact absurd rfl hx0
    | cons x xs =>
      cases ys with
      | nil => simp at hy
      | cons y ys => rw [hn]; exact packB_ne
  clear hx0
  have HY : Hid (ys.length = xs.length) := hy
  have HX : Hid (∀ s ∈ xs, Free s ∧ s.size ≤ 1048576) := fx
  have HV : Hid (∀ s ∈ ys, Free s ∧ s.size ≤ 1048576) := fy
  have H1 : Hid (∀ (k : Nat) s, xs[k]? = some s → ∃ b off, a1 = some ⟨b, off, none⟩ ∧ w.cell? ⟨b, off + k, none⟩ = some (.string s)) := strs_cell h1
  have H2 : Hid (∀ (k : Nat) s, ys[k]? = some s → ∃ b off, a2 = some ⟨b, off, none⟩ ∧ w.cell? ⟨b, off + k, none⟩ = some (.string s)) := strs_cell h2
  obtain ⟨Z, hZ⟩ : ∃ Z, Z = xs.zip ys := ⟨_, rfl⟩
  obtain ⟨out, ho⟩ : ∃ out, out = packB Z := ⟨_, rfl⟩
  rw [← hZ, ← ho] at hb hn
  have HZ : Hid (Z = xs.zip ys) := hZ
  have HO : Hid (out = packB Z) := ho
  have HB : Hid (IsBytes w a out) := hb
  have HL : Hid (n = out.length) := hn
  obtain ⟨g, off, rfl⟩ : ∃ g off, a = some ⟨g, off, none⟩ := by
    rcases hb with rfl | ⟨b, off, e, _⟩
    · simp at hn; omega
    · exact ⟨b, off, e⟩
  clear hb h1 h2 fx fy hy hZ ho hn
  have hq0 : ((n : Int) == 0) = false := by simp; omega
  go_enter Try.func13, Try.ntmps13
  go_wp2
  go_loopw [7, 8] (fun u v wr => ∃ j P q : Nat, j < xs.length ∧ P < n ∧ u = .int .i64 P ∧ v = .int .i64 j ∧ Hid (out.drop P = packB (Z.drop j)) ∧ wr = w.drewN q) (fun u _ _ => n - (intOf u).toNat)
  case atStart => exact ⟨0, 0, 0, hxp, hnp, rfl, rfl, by show out.drop 0 = packB (Z.drop 0); rw [List.drop_zero, List.drop_zero]; exact HO.out, rfl⟩
  case round =>
    obtain ⟨j, P, q, hj, hP, rfl, rfl, hD, rfl⟩ := hrel
    obtain ⟨x, hx⟩ := get_some hj
    obtain ⟨y, hy⟩ := get_some (show j < ys.length by rw [HY.out]; exact hj)
    obtain ⟨b1, o1, rfl, c1'⟩ := H1.out j x hx
    obtain ⟨b2, o2, rfl, c2'⟩ := H2.out j y hy
    have hdr : Z.drop j = (x, y) :: Z.drop (j + 1) := by
      have hz : Z[j]? = some (x, y) := by rw [HZ.out, List.getElem?_zip_eq_some]; exact ⟨hx, hy⟩
      obtain ⟨hlt, e⟩ := List.getElem?_eq_some_iff.1 hz
      rw [List.drop_eq_getElem_cons hlt, e]
    have R : Round out P x y (Z.drop (j + 1)) := round_of (by rw [hD.out, hdr])
    have hFx := HX.out x (List.mem_of_getElem? hx)
    have hFy := HV.out y (List.mem_of_getElem? hy)
    have HFx : Hid (Free x) := hFx.1
    have HFy : Hid (Free y) := hFy.1
    have hsx := hFx.2
    have hsy := hFy.2
    have hzl : Z.length = xs.length := by rw [HZ.out, List.length_zip, HY.out]; omega
    have HZl : Hid (Z.length = xs.length) := hzl
    clear hx hy hdr hFx hFy hD hzl hq0
    have hp1 : P + x.size < n := by rw [HL.out]; exact (List.getElem?_eq_some_iff.1 R.two).1
    go_wp2
    go_loop [7] (fun u => ∃ i p : Nat, i ≤ x.size ∧ u = .int .i64 p ∧ p = P + i) (fun u => P + x.size - (intOf u).toNat)
    case atStart => exact ⟨0, P, Nat.zero_le _, rfl, rfl⟩
    case round =>
      obtain ⟨i, p, hi, rfl, hpe⟩ := hrel
      have hpn : p < n := by omega
      by_cases hil : i < x.size
      · obtain ⟨ch, hch⟩ := get_some (l := x.data.toList) (k := i) (by simpa using hil)
        have hcell := bytes_at HB.out (R.name i ch hch)
        rw [← hpe] at hcell
        obtain ⟨f1, f2⟩ := HFx.out i ch hch
        have n1 : ¬ ((ch.toNat : Int) = 1) := u8_ne f1
        have n2 : ¬ ((ch.toNat : Int) = 2) := u8_ne f2
        have n3 : ((ch.toNat : Int) != 1) = true := by simpa using n1
        have n4 : ((ch.toNat : Int) != 2) = true := by simpa using n2
        clear hch f1 f2
        have HPe : Hid (p = P + i) := hpe
        clear hpe
        go_wp2
        go_round
        case rel => exact ⟨i + 1, p + 1, by omega, by go_num, by have := HPe.out; omega⟩
        case measure => have := HPe.out; simp [intOf]; omega
      · have hpe2 : p = P + x.size := by omega
        have htwo := bytes_at HB.out R.two
        rw [← hpe2] at htwo
        have HP2 : Hid (p = P + x.size) := hpe2
        obtain ⟨a3, ha3, hrun3⟩ := slice_cut g off (n := n) (c := c) (lo := P) (hi := p) (by omega) (by omega) hnc
        have HT : Hid (∀ m : Nat, Calls Try.prog 14 #[.slice a3 (p - P) (c - P), .string x] (w.drewN (q + m)) fun e w' => e = .returned (.bool true) ∧ ∃ m', w' = w.drewN (q + m')) := fun m => by
          have := text14 a3 x (p - P) (c - P) (w.drewN (q + m)) (bytes_cut (HB.out.drewN _) R.name (fun h => ha3 (by rw [HP2.out]; simp at h; omega))) (by omega) hsx
          exact this.mono fun e w' ⟨h1, q', h2⟩ => ⟨h1, m + q', by rw [h2, World.drewN_drewN, Nat.add_assoc]⟩
        have hp3 : p + 1 ≤ n := by omega
        have hrun2 : Hid (∀ hi : Nat, p + 1 ≤ hi → hi ≤ n → ∃ a4, (p + 1 < hi → a4 = some ⟨g, off + (p + 1), none⟩) ∧ ∀ W : World, (Instr.slice 22 (.slice (some ⟨g, off, none⟩) n c) (some (.int .i64 ((p : Int) + 1))) (some (.int .i64 (hi : Int))) none).run Try.prog W = .ok (.slice a4 (hi - (p + 1)) (c - (p + 1))) W) := fun hi k1 k2 => by
          obtain ⟨a4, e1, e2⟩ := slice_cut g off (n := n) (c := c) (lo := p + 1) (hi := hi) k1 k2 hnc
          exact ⟨a4, e1, fun W => by have := e2 W; simpa using this⟩
        clear hpe hpe2 ha3
        go_wp2
        go_quiet ((go_at_call 14; exact HT.out _))
        go_wp2
        clear hrun3 htwo HT
        have hq2 : p + 1 + y.size ≤ n := by
          have e := HP2.out
          by_cases hr : Z.drop (j + 1) = []
          · have := R.fin hr; rw [HL.out]; omega
          · have := (List.getElem?_eq_some_iff.1 (R.one hr).1).1; rw [HL.out]; omega
        go_loop [7] (fun u => ∃ i p2 : Nat, i ≤ y.size ∧ u = .int .i64 p2 ∧ p2 = p + 1 + i) (fun u => p + 1 + y.size - (intOf u).toNat)
        case atStart => exact ⟨0, p + 1, Nat.zero_le _, by go_num, rfl⟩
        case round =>
          obtain ⟨i2, p2, hi2, rfl, hpe⟩ := hrel
          by_cases hil2 : i2 < y.size
          · obtain ⟨ch, hch⟩ := get_some (l := y.data.toList) (k := i2) (by simpa using hil2)
            have hcell := bytes_at HB.out (R.val i2 ch hch)
            rw [← HP2.out, ← hpe] at hcell
            have hpn2 : p2 < n := by omega
            obtain ⟨f1, f2⟩ := HFy.out i2 ch hch
            have n1 : ¬ ((ch.toNat : Int) = 1) := u8_ne f1
            have n2 : ¬ ((ch.toNat : Int) = 2) := u8_ne f2
            have n3 : ((ch.toNat : Int) != 1) = true := by simpa using n1
            have n4 : ((ch.toNat : Int) != 2) = true := by simpa using n2
            clear hch f1 f2
            have HPe : Hid (p2 = p + 1 + i2) := hpe
            clear hpe
            go_wp2
            go_round
            case rel => exact ⟨i2 + 1, p2 + 1, by omega, by go_num, by have := HPe.out; omega⟩
            case measure => have := HPe.out; simp [intOf]; omega
          · have hpe2 : p2 = p + 1 + y.size := by omega
            have HP3 : Hid (p2 = p + 1 + y.size) := hpe2
            obtain ⟨a4, ha4, hrun4⟩ := hrun2.out p2 (by omega) (by omega)
            have HT2 : Hid (∀ q0 m : Nat, Calls Try.prog 14 #[.slice a4 (p2 - (p + 1)) (c - (p + 1)), .string y] (w.drewN (q0 + m)) fun e w' => e = .returned (.bool true) ∧ ∃ m', w' = w.drewN (q0 + m')) := fun q0 m => by
              have := text14 a4 y (p2 - (p + 1)) (c - (p + 1)) (w.drewN (q0 + m)) (bytes_cut (HB.out.drewN _) (fun i ch hch => by have := R.val i ch hch; rw [← HP2.out] at this; exact this) (fun h => ha4 (by rw [HP3.out]; simp at h; omega))) (by omega) hsy
              exact this.mono fun e w' ⟨h1, q', h2⟩ => ⟨h1, m + q', by rw [h2, World.drewN_drewN, Nat.add_assoc]⟩
            clear hpe hpe2 ha4
            by_cases hr : Z.drop (j + 1) = []
            · have hfin : p2 = n := by have := R.fin hr; have e := HP2.out; have e3 := HP3.out; rw [HL.out]; omega
              have hjn : j + 1 = xs.length := by have := List.drop_eq_nil_iff.1 hr; rw [HZl.out] at this; omega
              have hb1 : ((p2 : Int) == (n : Int)) = true := by simp; omega
              have hb2 : ((j : Int) + 1 == (xs.length : Int)) = true := by simp; omega
              have hnlt : ¬ p2 < n := by omega
              clear hr
              have HF : Hid (p2 = n) := hfin
              have HJ : Hid (j + 1 = xs.length) := hjn
              clear hfin hjn
              go_wp2
              go_quiet ((go_at_call 14; exact HT2.out _ _))
              go_wp2
              go_ret
              exact ⟨rfl, _, rfl⟩
            · have hone := R.one hr
              have hc1 := bytes_at HB.out hone.1
              rw [← HP2.out, ← HP3.out] at hc1
              have hlt : p2 < n := by have := (List.getElem?_eq_some_iff.1 hone.1).1; have e := HP2.out; have e3 := HP3.out; rw [HL.out]; omega
              have hb1 : ((p2 : Int) == (n : Int)) = false := by simp; omega
              have hjn : j + 1 < xs.length := by
                apply Nat.lt_of_not_le
                intro hle
                exact hr (List.drop_eq_nil_iff.2 (by rw [HZl.out]; omega))
              have HN : Hid (out.drop (p2 + 1) = packB (Z.drop (j + 1))) := by
                have := hone.2
                rw [← HP2.out, ← HP3.out] at this
                exact this
              have HPn : Hid (p2 + 1 < n) := by
                show p2 + 1 < n
                apply Nat.lt_of_not_le
                intro hle
                have e := HN.out
                rw [List.drop_eq_nil_of_le (by rw [← HL.out]; omega)] at e
                cases hd : Z.drop (j + 1) with
                | nil => exact hr hd
                | cons z zs => have := packB_ne (p := z) (l := zs); rw [← hd, ← e] at this; simp at this
              clear hr hone
              go_wp2
              go_quiet ((go_at_call 14; exact HT2.out _ _))
              go_wp2
              go_roundw
              case rel => exact ⟨j + 1, p2 + 1, _, hjn, HPn.out, by go_num, by go_num, HN.out, rfl⟩
              case measure => have := HPn.out; have := HP3.out; have := HP2.out; simp [intOf]; omega
end Go.Proofs.Qxb6627880a
