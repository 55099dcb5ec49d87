/-
  FnAppendMetadataPrefixFreeAndDecodes (function 4): the walk.
-/
import Derived.Test.Qxb6627880aDecode
import Derived.Test.Qxb6627880aSplit
namespace Go.Proofs.Qxb6627880a
open Go.RowKit

theorem size_tot : ∀ {l : List ByteArray} {s : ByteArray}, s ∈ l → s.size ≤ tot l
  | q :: l, s, h => by
    rcases List.mem_cons.1 h with e | h
    · subst e; simp only [tot]; omega
    · have := size_tot h; simp only [tot]; omega
theorem row_shape2 {w : World} {e : TypeId} {sz : Nat} {v : Value} {n : Nat} {xs : List Value} (h : w.ownsRow 0 e sz v n xs) : ∃ a c, v = .slice a n c ∧ n ≤ c := by
  rcases h.2 with ⟨rfl, rfl⟩ | ⟨g, cap, cur, rfl, _, _, hle, _⟩
  · exact ⟨_, _, rfl, Nat.le_refl _⟩
  · exact ⟨_, _, rfl, hle⟩
/-- The first k names and values are free of separators. -/
def FreeTo (xs ys : List ByteArray) (k : Nat) : Prop := (∀ (i : Nat) s, i < k → xs[i]? = some s → Free s) ∧ (∀ (i : Nat) s, i < k → ys[i]? = some s → Free s)
theorem FreeTo.step {xs ys : List ByteArray} {k : Nat} {x y : ByteArray} (h : FreeTo xs ys k) (hx : xs[k]? = some x) (hy : ys[k]? = some y) (fx : Free x) (fy : Free y) : FreeTo xs ys (k + 1) := by
  constructor
  · intro i s hi hs
    by_cases e : i = k
    · subst e; rw [hx] at hs; cases hs; exact fx
    · exact h.1 i s (by omega) hs
  · intro i s hi hs
    by_cases e : i = k
    · subst e; rw [hy] at hs; cases hs; exact fy
    · exact h.2 i s (by omega) hs
theorem FreeTo.all {xs ys : List ByteArray} (h : FreeTo xs ys xs.length) (hy : ys.length = xs.length) : (∀ s ∈ xs, Free s) ∧ (∀ s ∈ ys, Free s) := by
  constructor
  · intro s hs
    obtain ⟨i, hi⟩ := List.getElem?_of_mem hs
    exact h.1 i s (List.getElem?_eq_some_iff.1 hi).1 hi
  · intro s hs
    obtain ⟨i, hi⟩ := List.getElem?_of_mem hs
    exact h.2 i s (by have := (List.getElem?_eq_some_iff.1 hi).1; omega) hi

set_option maxHeartbeats 4000000 in
set_option maxRecDepth 100000 in
theorem walk4 (a0 a1 a2 : Option Addr) (bs : List UInt8) (xs ys : List ByteArray) (cap0 cap1 cap2 : Nat) (w : World) (h0 : IsBytes w a0 bs) (hn0 : a0 = none → bs = []) (h1 : IsStrs w a1 xs) (h2 : IsStrs w a2 ys)
    (l0 : bs.length ≤ 140737488351232) (l1 : xs.length ≤ 140737488351232) (l2 : ys.length ≤ 140737488351232) :
    Calls Try.prog 4 #[.slice a0 bs.length cap0, .slice a1 xs.length cap1, .slice a2 ys.length cap2] w fun e w' => e = .returned (.bool true) ∧ Below w.heap.size w w' := by
  go_enter Try.func4, Try.ntmps4
  go_wp2_with fail
  refine (bytes11 a0 a1 a2 bs.length cap0 cap1 cap2 xs ys w h1 h2 l0 l1 l2).mono ?_
  rintro e wA ⟨rfl, r, rfl, -⟩
  cases r
  · go_wp2
    go_ret
    exact ⟨rfl, Below.refl _ _⟩
  go_wp2_with fail
  refine (tooBig6 a0 a1 a2 bs.length cap0 cap1 cap2 xs ys wA h1 h2 l0 l1 l2).mono ?_
  rintro e wB ⟨rfl, r, rfl, hr⟩
  cases r
  case true =>
    go_wp2
    go_ret
    exact ⟨rfl, Below.refl _ _⟩
  have HM := hr rfl
  clear hr l0 l1 l2
  by_cases hlen : ys.length = xs.length
  case neg =>
    have hb : ((xs.length : Int) != (ys.length : Int)) = true := by simp; omega
    clear hlen
    go_wp2
    go_ret
    exact ⟨rfl, Below.refl _ _⟩
  have m1 := HM.b
  have m2 := HM.x
  have m3 := HM.sum
  have HY : Hid (ys.length = xs.length) := hlen
  have H1 : Hid (∀ (k : Nat) s, xs[k]? = some s → ∃ b off, a1 = some ⟨b, off, none⟩ ∧ wB.cell? ⟨b, off + k, none⟩ = some (.string s)) := strs_cell h1
  have H2 : Hid (∀ (k : Nat) s, ys[k]? = some s → ∃ b off, a2 = some ⟨b, off, none⟩ ∧ wB.cell? ⟨b, off + k, none⟩ = some (.string s)) := strs_cell h2
  go_wp2_with fail
  go_loop [7] (fun i => ∃ k : Nat, k ≤ xs.length ∧ i = .int .i64 k ∧ FreeTo xs ys k) (fun i => xs.length - (intOf i).toNat)
  case atStart => exact ⟨0, Nat.zero_le _, rfl, fun i s hi => by omega, fun i s hi => by omega⟩
  case round =>
    obtain ⟨k, hk, rfl, hF⟩ := hrel
    by_cases hkl : k < xs.length
    · obtain ⟨x, hx⟩ := get_some hkl
      obtain ⟨y, hy⟩ := get_some (show k < ys.length by rw [HY.out]; exact hkl)
      obtain ⟨b1, o1, rfl, c1⟩ := H1.out k x hx
      obtain ⟨b2, o2, rfl, c2⟩ := H2.out k y hy
      have s1 := size_tot (List.mem_of_getElem? hx)
      have s2 := size_tot (List.mem_of_getElem? hy)
      have HX : Hid (xs[k]? = some x) := hx
      have HX2 : Hid (ys[k]? = some y) := hy
      clear hx hy
      go_wp2_with fail
      refine (free12 x wB (by omega)).mono ?_
      rintro e w' ⟨rfl, r, rfl, hr⟩
      cases r
      case false =>
        clear hr
        go_wp2
        go_ret
        exact ⟨rfl, Below.refl _ _⟩
      have fx := hr rfl
      clear hr
      go_wp2_with fail
      refine (free12 y w' (by omega)).mono ?_
      rintro e w'' ⟨rfl, r, rfl, hr⟩
      cases r
      case false =>
        clear hr
        go_wp2
        go_ret
        exact ⟨rfl, Below.refl _ _⟩
      have fy := hr rfl
      clear hr
      go_wp2
      go_round
      case rel => exact ⟨k + 1, by omega, by go_num, hF.step HX.out HX2.out fx fy⟩
      case measure => simp [intOf]; omega
    · have hke : k = xs.length := by omega
      have hFA := hF
      rw [hke] at hFA
      have HFA : Hid (FreeTo xs ys xs.length) := hFA
      clear hke hFA hF H1 H2
      go_wp2_with fail
      refine (clone7 a0 bs _ _ _ h0 rfl hn0 (by omega)).mono ?_
      rintro e W1 ⟨v0, rfl, C1⟩
      obtain ⟨ab, cb, rfl⟩ := row_shape C1.own
      obtain ⟨i1, in1, -⟩ := own_bytes C1.own
      go_wp2_with fail
      refine (pairs8 a1 a2 xs ys _ _ _ _ W1 (h1.below C1.below) (h2.below C1.below) rfl (by omega) hlen (by omega)).mono ?_
      rintro e W2 ⟨rfl, R2⟩
      go_wp2_with fail
      refine (clone7 ab bs _ _ W2 (i1.below R2.below) rfl in1 (by omega)).mono ?_
      rintro e W3 ⟨vA, rfl, C3⟩
      go_wp2_with fail
      have z12 := R2.below.size
      have z23 := C3.below.size
      have g12 := (Array.getElem?_eq_some_iff.1 R2.row.choose_spec.1).1
      have hwt := wt_zip xs ys
      refine (meta9 vA bs (some ⟨W1.heap.size, 0, none⟩) (xs.zip ys) _ _ W3 C3.own (R2.pairs.below C3.below) (zip_len hlen).symm (by rw [zip_len hlen]; omega) (by omega) (packB_take_le (by omega)) (fun p hp => by have := size_wt hp; omega) (fun g hg b off e => by cases e; have := C3.new g hg; omega)).mono ?_
      rintro e W4 ⟨vW, rfl, M4⟩
      have b34 : Below W2.heap.size W3 W4 := M4.below z23 C3.new
      have b24 : Below W2.heap.size W2 W4 := C3.below.trans b34
      go_wp2_with fail
      refine (meta9 (.slice none 0 0) [] (some ⟨W1.heap.size, 0, none⟩) (xs.zip ys) _ _ W4 (World.ownsRow_nil _ _ _ _) (R2.pairs.below b24) (zip_len hlen).symm (by rw [zip_len hlen]; omega) (by simp) (packB_take_le (by omega)) (fun p hp => by have := size_wt hp; omega) (fun g hg b off e => by simp [Value.ownBlock] at hg)).mono ?_
      rintro e W5 ⟨vR, rfl, M5⟩
      rw [List.nil_append] at M5
      have b45 : Below W4.heap.size W4 W5 := M5.below (Nat.le_refl _) (fun g hg => by simp [Value.ownBlock] at hg)
      have ow := own_below M4.own b45
      rw [List.length_append] at ow
      have or5 := M5.own
      obtain ⟨aw, cw, rfl⟩ := row_shape ow
      obtain ⟨ar, cr, rfl, hcr⟩ := row_shape2 or5
      obtain ⟨iw, -, -⟩ := own_bytes ow
      obtain ⟨ir, -, -⟩ := own_bytes or5
      have hpl := packB_le (xs.zip ys)
      have b25 := b24.trans (b45.mono (by have := b24.size; omega))
      have b15 : Below W1.heap.size W1 W5 := R2.below.trans (b25.mono (by omega))
      have b05 : Below wB.heap.size wB W5 := C1.below.trans (b15.mono C1.below.size)
      have HI : Hid (∀ (k : Nat) x, bs[k]? = some x → ∃ b off, ab = some ⟨b, off, none⟩ ∧ W5.cell? ⟨b, off + k, none⟩ = some (.int .u8 (x.toNat : Int))) := bytes_cell (i1.below b15)
      have HW : Hid (∀ (k : Nat) x, bs[k]? = some x → ∃ b off, aw = some ⟨b, off, none⟩ ∧ W5.cell? ⟨b, off + k, none⟩ = some (.int .u8 (x.toNat : Int))) := fun k x hx => bytes_cell iw k x (get_front hx)
      have HW2 : Hid (∀ (k : Nat) x, (packB (xs.zip ys))[k]? = some x → ∃ b off, aw = some ⟨b, off, none⟩ ∧ W5.cell? ⟨b, off + (bs.length + k), none⟩ = some (.int .u8 (x.toNat : Int))) := fun k x hx => bytes_cell iw (bs.length + k) x (by rw [List.getElem?_append_right (by omega), Nat.add_sub_cancel_left]; exact hx)
      have HR : Hid (∀ (k : Nat) x, (packB (xs.zip ys))[k]? = some x → ∃ b off, ar = some ⟨b, off, none⟩ ∧ W5.cell? ⟨b, off + k, none⟩ = some (.int .u8 (x.toNat : Int))) := bytes_cell ir
      have HE : Hid (Below wB.heap.size wB W5) := b05
      have HD : Hid (∀ q : Nat, Calls Try.prog 13 #[.slice ar (packB (xs.zip ys)).length cr, .slice a1 xs.length cap1, .slice a2 xs.length cap2] (W5.drewN q) fun e w' => e = .returned (.bool true) ∧ ∃ q', w' = W5.drewN (q + q')) := fun q => by
        obtain ⟨fx, fy⟩ := HFA.out.all hlen
        have := decode13 ar a1 a2 xs ys _ cr _ _ cap1 cap2 (W5.drewN q) (ir.drewN q) (h1.below (below_drewN b05 q)) (h2.below (below_drewN b05 q)) rfl rfl rfl hlen hcr (by omega) (by omega) (fun s hs => ⟨fx s hs, by have := size_tot hs; omega⟩) (fun s hs => ⟨fy s hs, by have := size_tot hs; omega⟩)
        exact this.mono fun e w' ⟨e1, q', e2⟩ => ⟨e1, q', by rw [e2, World.drewN_drewN]⟩
      clear h0 h1 h2 i1 in1 R2 C3 M4 M5 C1 b34 b24 b45 b25 b15 b05 iw ir ow or5 hn0 hlen HFA
      generalize packB (xs.zip ys) = B at *
      have hbB : ((bs.length : Int) + (B.length : Int) != (bs.length : Int) + (B.length : Int)) = false := by simp
      have hB4 : B.length ≤ 4000000 := by omega
      go_wp2
      go_loopw [11] (fun i wr => ∃ i' n' : Nat, i' ≤ bs.length ∧ i = .int .i64 i' ∧ wr = W5.drewN n') (fun i _ => bs.length - (intOf i).toNat)
      case atStart => exact ⟨0, 0, Nat.zero_le _, rfl, rfl⟩
      case round =>
        obtain ⟨i', n', hi', rfl, rfl⟩ := hrel
        clear hbB
        by_cases hil : i' < bs.length
        · obtain ⟨x, hx⟩ := get_some hil
          obtain ⟨b1, o1, rfl, c1⟩ := HW.out i' x hx
          obtain ⟨b2, o2, rfl, c2⟩ := HI.out i' x hx
          clear hx
          go_wp2
          go_quiet (fail)
          go_wp2
          go_roundw
          case rel => exact ⟨i' + 1, _, by omega, by go_num, rfl⟩
          case measure => simp [intOf]; omega
        · go_wp2
          go_loopw [12] (fun i wr => ∃ i' n' : Nat, i' ≤ B.length ∧ i = .int .i64 i' ∧ wr = W5.drewN n') (fun i _ => B.length - (intOf i).toNat)
          case atStart => exact ⟨0, n', Nat.zero_le _, rfl, rfl⟩
          case round =>
            obtain ⟨i2, n2, hi2, rfl, rfl⟩ := hrel
            by_cases hil2 : i2 < B.length
            · obtain ⟨x, hx⟩ := get_some hil2
              obtain ⟨b1, o1, rfl, c1⟩ := HW2.out i2 x hx
              obtain ⟨b2, o2, rfl, c2⟩ := HR.out i2 x hx
              clear hx
              go_wp2
              go_quiet (fail)
              go_wp2
              go_roundw
              case rel => exact ⟨i2 + 1, _, by omega, by go_num, rfl⟩
              case measure => simp [intOf]; omega
            · go_wp2_with fail
              refine (HD.out n2).mono ?_
              rintro e W9 ⟨rfl, q', rfl⟩
              go_wp2
              go_ret
              exact ⟨rfl, below_drewN HE.out _⟩
end Go.Proofs.Qxb6627880a
