/-
  Contracts of XRay (6), stripXRay (7), compareBytes (9) and the size guards (5, 8).
-/
import Derived.Test.Qxb6627843aRows
import Derived.Test.Qxb6627843aPlain
import Derived.WalkKit
import Derived.WalkSpells
import Derived.WalkLawsBesides
import Derived.Deep.QuietTactic
import Derived.BigQuiet
import Derived.Lib.SmallJoins
namespace Go.Proofs.Qxb6627843a
open Go.RowKit

theorem xray_data (s : ByteArray) : (({ data := #[49, 45] } : ByteArray) ++ s.extract 0 8 ++ { data := #[45] } ++ s.extract 8 s.size).data.toList = X s.data.toList := by
  rw [Joins.data_append, Joins.data_append, Joins.data_append, Lib.extract_data, Lib.extract_data]
  have : ((s.data.toList.drop 8).take (s.size - 8)) = s.data.toList.drop 8 := List.take_of_length_le (by simp)
  rw [this]
  simp [X]

set_option maxHeartbeats 400000 in
theorem xray6 (s : ByteArray) (w : World) (h8 : 8 ≤ s.size) (hs : s.size ≤ 1048576) :
    Calls Try.prog 6 #[.string s] w fun e w' => ∃ v, e = .returned (.string v) ∧ v.data.toList = X s.data.toList ∧ ∃ n, w' = w.drewN n := by
  go_enter Try.func6, Try.ntmps6
  go_wp2
  go_quiet (fail)
  go_wp2
  go_ret
  exact ⟨_, rfl, xray_data s, nq, rfl⟩

theorem size_of {v : ByteArray} {l : List UInt8} (h : v.data.toList = l) : v.size = l.length := by
  rw [← h, Array.length_toList]; rfl
theorem get_of {v : ByteArray} {l : List UInt8} (h : v.data.toList = l) {k : Nat} {x : UInt8} (hx : l[k]? = some x) (hk : k < v.size) : v[k] = x := by
  subst h
  rw [Array.getElem?_toList, Array.getElem?_eq_some_iff] at hx
  obtain ⟨h1, h2⟩ := hx
  exact h2

theorem strip_data {v : ByteArray} {l : List UInt8} (h : v.data.toList = X l) (h8 : 8 ≤ l.length) : (v.extract 2 10 ++ v.extract 11 v.size).data.toList = l := by
  rw [Joins.data_append, Lib.extract_data, Lib.extract_data, h]
  have hv := size_of h
  rw [X_length h8] at hv
  have : (((X l).drop 11).take (v.size - 11)) = (X l).drop 11 := List.take_of_length_le (by rw [List.length_drop, X_length h8]; omega)
  rw [this]
  exact X_back h8

set_option maxHeartbeats 400000 in
theorem strip7 (v : ByteArray) (l : List UInt8) (w : World) (h : v.data.toList = X l) (h8 : 8 ≤ l.length) (hl : l.length ≤ 1048576) :
    Calls Try.prog 7 #[.string v] w fun e w' => ∃ u, e = .returned (.tuple #[.string u, .bool true]) ∧ u.data.toList = l ∧ ∃ n, w' = w.drewN n := by
  have hv := size_of h
  rw [X_length h8] at hv
  obtain ⟨m0, m1, m2⟩ := X_marks h8
  have hsz0 : 11 ≤ v.size := by omega
  have g0 := get_of h m0 (Nat.lt_of_lt_of_le (by decide) hsz0)
  have g1 := get_of h m1 (Nat.lt_of_lt_of_le (by decide) hsz0)
  have g2 := get_of h m2 (Nat.lt_of_lt_of_le (by decide) hsz0)
  have hsz1 : v.size ≤ 1048579 := by omega
  have HU : Hid ((v.extract 2 10 ++ v.extract 11 v.size).data.toList = l) := strip_data h h8
  clear hv m0 m1 m2 h h8 hl
  go_enter Try.func7, Try.ntmps7
  go_wp2
  go_quiet (fail)
  go_wp2
  go_ret2
  exact ⟨_, rfl, HU.out, nq, rfl⟩

set_option maxHeartbeats 400000 in
theorem bytes5 (s : ByteArray) (k : Int) (w : World) (hs : s.size ≤ maxLen) :
    Calls Try.prog 5 #[.string s, .int .i64 k] w fun e w' => e = .returned (.bool (decide (s.size ≤ 1048576))) ∧ w' = w := by
  unfold maxLen at hs
  by_cases h : s.size ≤ 1048576
  · have HD : Hid (decide (s.size ≤ 1048576) = true) := decide_eq_true h
    go_enter Try.func5, Try.ntmps5
    go_wp2
    go_ret
    exact ⟨by rw [HD.out]; rfl, rfl⟩
  · have HD : Hid (decide (s.size ≤ 1048576) = false) := decide_eq_false h
    go_enter Try.func5, Try.ntmps5
    go_wp2
    go_ret
    exact ⟨by rw [HD.out]; rfl, rfl⟩

/-- The call hands back a bool r of which p holds. -/
def RetBool (e : Ending) (p : Bool → Prop) : Prop := ∃ r, e = .returned (.bool r) ∧ p r

set_option maxHeartbeats 400000 in
theorem bytes8 (a b : ByteArray) (w : World) (ha : a.size ≤ maxLen) (hb : b.size ≤ maxLen) :
    Calls Try.prog 8 #[.string a, .string b] w fun e w' => w' = w ∧ RetBool e fun r => r = true → a.size ≤ 1048576 ∧ b.size ≤ 1048576 := by
  unfold maxLen at ha hb
  by_cases h : a.size ≤ 1048576
  · by_cases h' : b.size ≤ 1048576
    · by_cases h2 : (a.size : Int) + b.size ≤ 1048576
      · go_enter Try.func8, Try.ntmps8
        go_wp2
        go_ret
        exact ⟨rfl, true, rfl, fun _ => ⟨h, h'⟩⟩
      · go_enter Try.func8, Try.ntmps8
        go_wp2
        go_ret
        exact ⟨rfl, false, rfl, by simp⟩
    · go_enter Try.func8, Try.ntmps8
      go_wp2
      go_ret
      exact ⟨rfl, false, rfl, by simp⟩
  · go_enter Try.func8, Try.ntmps8
    go_wp2
    go_ret
    exact ⟨rfl, false, rfl, by simp⟩

theorem byte_get {s : ByteArray} {k : Nat} (h : k < s.size) : s.data.toList[k]? = some s[k] := by
  rw [Array.getElem?_toList]
  exact Array.getElem?_eq_getElem h

set_option maxHeartbeats 800000 in
theorem compare9 (a b : ByteArray) (w : World) (ha : a.size ≤ 1048579) (hb : b.size ≤ 1048579) :
    Calls Try.prog 9 #[.string a, .string b] w fun e w' => e = .returned (.int .i64 (cmp a.data.toList b.data.toList)) ∧ ∃ n, w' = w.drewN n := by
  have hal : a.data.toList.length = a.size := by simp
  have hbl : b.data.toList.length = b.size := by simp
  have HL : Hid (a.data.toList.length = a.size ∧ b.data.toList.length = b.size) := ⟨hal, hbl⟩
  clear hal hbl
  by_cases hab : b.size < a.size
  all_goals
    go_enter Try.func9, Try.ntmps9
    go_wp2
    go_loopw [6] (fun i wr => ∃ (k m : Nat), k ≤ a.size ∧ k ≤ b.size ∧ i = .int .i64 k ∧ wr = w.drewN m ∧ cmp a.data.toList b.data.toList = cmp (a.data.toList.drop k) (b.data.toList.drop k)) (fun i _ => a.size - (intOf i).toNat)
    case atStart => exact ⟨0, 0, Nat.zero_le _, Nat.zero_le _, rfl, rfl, rfl⟩
    case round =>
      obtain ⟨k, m, hka, hkb, rfl, rfl, hcmp⟩ := hrel
      have HC : Hid (cmp a.data.toList b.data.toList = cmp (a.data.toList.drop k) (b.data.toList.drop k)) := hcmp
      clear hcmp
      by_cases hk1 : k < a.size ∧ k < b.size
      · obtain ⟨hk1, hk2⟩ := hk1
        have e1 := byte_get hk1
        have e2 := byte_get hk2
        have H1 : Hid (a.data.toList[k]? = some a[k]) := e1
        have H2 : Hid (b.data.toList[k]? = some b[k]) := e2
        clear e1 e2
        rcases Nat.lt_trichotomy a[k].toNat b[k].toNat with hlt | heq | hgt
        · have hlt' : (a[k].toNat : Int) < (b[k].toNat : Int) := by omega
          have HR : Hid (cmp a.data.toList b.data.toList = -1) := by rw [Hid, HC.out]; exact cmp_lt H1.out H2.out (UInt8.lt_iff_toNat_lt.2 hlt)
          clear hlt
          go_wp2
          go_quiet (fail)
          go_wp2
          go_ret
          exact ⟨by rw [HR.out]; rfl, by simp only [World.drewN_drewN]; exact ⟨_, rfl⟩⟩
        · have heq' : a[k] = b[k] := UInt8.toNat_inj.1 heq
          have HR : Hid (cmp a.data.toList b.data.toList = cmp (a.data.toList.drop (k + 1)) (b.data.toList.drop (k + 1))) := by
            rw [Hid, HC.out]; exact cmp_drop H1.out (by rw [H2.out, heq'])
          have hnl : ¬ (a[k].toNat : Int) < (b[k].toNat : Int) := by omega
          have hng : ¬ (b[k].toNat : Int) < (a[k].toNat : Int) := by omega
          clear heq heq' H1 H2
          go_wp2
          go_quiet (fail)
          go_wp2
          go_quiet (fail)
          go_wp2
          go_roundw
          case rel => exact ⟨k + 1, _, by omega, by omega, by go_num, rfl, HR.out⟩
          case measure => simp [intOf]; omega
        · have hnl : ¬ (a[k].toNat : Int) < (b[k].toNat : Int) := by omega
          have hgt' : (b[k].toNat : Int) < (a[k].toNat : Int) := by omega
          have HR : Hid (cmp a.data.toList b.data.toList = 1) := by rw [Hid, HC.out]; exact cmp_gt H1.out H2.out (UInt8.lt_iff_toNat_lt.2 hgt)
          clear hgt
          go_wp2
          go_quiet (fail)
          go_wp2
          go_quiet (fail)
          go_wp2
          go_ret
          exact ⟨by rw [HR.out]; rfl, by simp only [World.drewN_drewN]; exact ⟨_, rfl⟩⟩
      · have hend := cmp_end (a := a.data.toList) (b := b.data.toList) (k := k) (by rw [HL.out.1, HL.out.2]; omega)
        rw [HL.out.1, HL.out.2] at hend
        have HE : Hid (cmp a.data.toList b.data.toList = if a.size < b.size then -1 else if b.size < a.size then 1 else 0) := HC.out.trans hend
        clear hend
        first
          | (have hnb : ¬ a.size < b.size := by omega
             go_wp2
             go_ret
             exact ⟨by rw [HE.out, if_neg hnb, if_pos hab]; rfl, _, rfl⟩)
          | (by_cases hlt : a.size < b.size
             · go_wp2
               go_ret
               exact ⟨by rw [HE.out, if_pos hlt]; rfl, _, rfl⟩
             · go_wp2
               go_ret
               exact ⟨by rw [HE.out, if_neg hlt, if_neg hab]; rfl, _, rfl⟩)

end Go.Proofs.Qxb6627843a
