/-
  FnAppendMetadataSplitAtAnyCutAndLength (function 3): the walk.
-/
import Derived.Test.Qxb6627880aLaw
namespace Go.Proofs.Qxb6627880a
open Go.RowKit

theorem zip_len {xs ys : List ByteArray} (h : ys.length = xs.length) : (xs.zip ys).length = xs.length := by rw [List.length_zip]; omega

/-- The bytes of the first j pairs themselves. -/
def wz (Z : List (ByteArray × ByteArray)) (j : Nat) : Nat := weight ((Z.take j).map toL)
theorem wz_step {Z : List (ByteArray × ByteArray)} {j : Nat} {x y : ByteArray} (h : Z[j]? = some (x, y)) : wz Z (j + 1) = wz Z j + (x.size + 1 + y.size) := by
  rw [wz, List.take_add_one, h, List.map_append, weight_append]
  simp [wz, weight, toL]
theorem wz_le_wt : ∀ Z : List (ByteArray × ByteArray), weight (Z.map toL) ≤ wt Z
  | [] => by simp [weight]
  | p :: l => by
    have := wz_le_wt l
    have e1 : p.1.data.size = p.1.size := rfl
    have e2 : p.2.data.size = p.2.size := rfl
    simp only [List.map_cons, weight, wt, toL, Array.length_toList]
    omega
theorem wz_le (Z : List (ByteArray × ByteArray)) (j : Nat) : wz Z j ≤ wt Z := Nat.le_trans (wz_le_wt _) (wt_take Z j)
theorem packB_len (Z : List (ByteArray × ByteArray)) : (packB Z).length = wz Z Z.length + (Z.length - 1) := by
  rw [packB, pack_length, wz, List.take_length, List.length_map]
theorem zip_get {xs ys : List ByteArray} {j : Nat} {x y : ByteArray} (hx : xs[j]? = some x) (hy : ys[j]? = some y) : (xs.zip ys)[j]? = some (x, y) := by
  rw [List.getElem?_zip_eq_some]; exact ⟨hx, hy⟩
theorem get_front {l m : List UInt8} {j : Nat} {x : UInt8} (h : l[j]? = some x) : (l ++ m)[j]? = some x := by
  rw [List.getElem?_append_left (List.getElem?_eq_some_iff.1 h).1]; exact h

set_option maxHeartbeats 4000000 in
set_option maxRecDepth 100000 in
theorem walk3 (a0 a1 a2 : Option Addr) (bs : List UInt8) (xs ys : List ByteArray) (cap0 cap1 cap2 : Nat) (kk : Int) (w : World) (h0 : IsBytes w a0 bs) (hn0 : a0 = none → bs = []) (h1 : IsStrs w a1 xs) (h2 : IsStrs w a2 ys)
    (l0 : bs.length ≤ 140737488351232) (l1 : xs.length ≤ 140737488351232) (l2 : ys.length ≤ 140737488351232) :
    Calls Try.prog 3 #[.slice a0 bs.length cap0, .slice a1 xs.length cap1, .slice a2 ys.length cap2, .int .i64 kk] w fun e w' => e = .returned (.bool true) ∧ Below w.heap.size w w' := by
  go_enter Try.func3, Try.ntmps3
  go_wp2_with fail
  refine (bytes5 a0 a1 a2 bs.length cap0 cap1 cap2 xs ys kk w h1 h2 l0 l1 l2).mono ?_
  rintro e wA ⟨rfl, r, rfl, -⟩
  cases r
  · go_wp2
    go_ret
    exact ⟨rfl, Below.refl _ _⟩
  go_wp2_with fail
  refine (tooBig6 a0 a1 a2 bs.length cap0 cap1 cap2 xs ys wA h1 h2 l0 l1 l2).mono ?_
  rintro e wB ⟨rfl, r, rfl, hr⟩
  cases r
  case true =>
    go_wp2
    go_ret
    exact ⟨rfl, Below.refl _ _⟩
  have HM := hr rfl
  clear hr l0 l1 l2
  by_cases hlen : ys.length = xs.length
  case neg =>
    have hb : ((xs.length : Int) != (ys.length : Int)) = true := by simp; omega
    clear hlen
    go_wp2
    go_ret
    exact ⟨rfl, Below.refl _ _⟩
  by_cases hk0 : 0 ≤ kk
  case neg =>
    go_wp2
    go_ret
    exact ⟨rfl, Below.refl _ _⟩
  by_cases hk1 : kk ≤ xs.length
  case neg =>
    go_wp2
    go_ret
    exact ⟨rfl, Below.refl _ _⟩
  obtain ⟨k, rfl⟩ := Int.eq_ofNat_of_zero_le hk0
  have hkn : k ≤ xs.length := by omega
  clear hk0 hk1
  have m1 := HM.b
  have m2 := HM.x
  have m3 := HM.sum
  go_wp2_with fail
  refine (clone7 a0 bs _ _ _ h0 rfl hn0 (by omega)).mono ?_
  rintro e W1 ⟨v0, rfl, C1⟩
  obtain ⟨ab, cb, rfl⟩ := row_shape C1.own
  obtain ⟨i1, in1, -⟩ := own_bytes C1.own
  go_wp2_with fail
  refine (pairs8 a1 a2 xs ys _ _ _ _ W1 (h1.below C1.below) (h2.below C1.below) rfl (by omega) hlen (by omega)).mono ?_
  rintro e W2 ⟨rfl, R2⟩
  go_wp2_with fail
  refine (clone7 ab bs _ _ W2 (i1.below R2.below) rfl in1 (by omega)).mono ?_
  rintro e W3 ⟨vA, rfl, C3⟩
  go_wp2_with fail
  have z12 := R2.below.size
  have z23 := C3.below.size
  have g12 := (Array.getElem?_eq_some_iff.1 R2.row.choose_spec.1).1
  have hwt := wt_zip xs ys
  refine (meta9 vA bs (some ⟨W1.heap.size, 0, none⟩) (xs.zip ys) _ _ W3 C3.own (R2.pairs.below C3.below) (zip_len hlen).symm (by rw [zip_len hlen]; omega) (by omega) (packB_take_le (by omega)) (fun p hp => by have := size_wt hp; omega) (fun g hg b off e => by cases e; have := C3.new g hg; omega)).mono ?_
  rintro e W4 ⟨vW, rfl, M4⟩
  go_wp2_with fail
  obtain ⟨Z, hZ⟩ : ∃ Z, Z = xs.zip ys := ⟨_, rfl⟩
  rw [← hZ] at M4 hwt
  have RP := R2.pairs
  have hZl := zip_len hlen
  rw [← hZ] at RP hZl
  have HZ : Hid (Z = xs.zip ys) := hZ
  have HZl : Hid (Z.length = xs.length) := hZl
  clear hZ hZl
  have nA : ∀ g, vA.ownBlock = some g → W2.heap.size ≤ g := C3.new
  have b34 : Below W2.heap.size W3 W4 := M4.below z23 nA
  have b24 : Below W2.heap.size W2 W4 := C3.below.trans b34
  have z34 := M4.grown.size
  have i4 : IsBytes W4 ab bs := (i1.below R2.below).below b24
  have p4 : IsPairs W4 (some ⟨W1.heap.size, 0, none⟩) Z := RP.below b24
  go_region_held3 (fun _ => True) (trivial)
    (first
      | (go_at_call 7; refine (clone7 ab bs _ _ W4.drew i4 rfl in1 (by omega)).mono ?_; rintro e W5 ⟨vB, rfl, C5⟩)
      | (go_at_call 9; refine (meta9 vB bs (some ⟨W1.heap.size, 0, none⟩) (Z.take k) _ _ W5 C5.own ((p4.take k).below (⟨C5.below.os, C5.below.tape, C5.below.output, C5.below.size, C5.below.block⟩ : Below W4.heap.size W4 W5)) (by rw [List.length_take, HZl.out]; omega) (by rw [List.length_take]; omega) (by omega) (packB_take_le (by have := wt_take Z k; omega)) (fun p hp => by have := size_wt hp; have := wt_take Z k; omega) (fun g hg b off e => by cases e; have : W4.heap.size ≤ g := C5.new g hg; omega)).mono ?_; rintro e W6 ⟨vL, rfl, M6⟩))
  have HM6 : Hid (MetaRel W5 W6 vB vL (bs ++ packB (Z.take k))) := M6
  have hT6 := M6.own
  have hl6 : (bs ++ packB (Z.take k)).length ≤ 8000000 := by
    rw [List.length_append]
    have := packB_le (Z.take k)
    have := wt_take Z k
    omega
  clear M6
  go_upto_region 13 with fail
  go_cut [61] (fun v wx => wx = W6 ∧ ∃ t : Bool, v = .bool t ∧ (t = true ↔ (0 < k ∧ k < xs.length)))
  case first =>
    by_cases hc0 : 0 < k
    · by_cases hc1 : k < xs.length
      · go_wp2
        go_meet
        exact ⟨rfl, true, rfl, by simp [hc0, hc1]⟩
      · go_wp2
        go_meet
        exact ⟨rfl, false, rfl, by simp [hc0, hc1]⟩
    · go_wp2
      go_meet
      exact ⟨rfl, false, rfl, by simp [hc0]⟩
  obtain ⟨rfl, t, rfl, ht⟩ := hcut
  have HT : Hid (t = true ↔ (0 < k ∧ k < xs.length)) := ht
  clear ht
  go_upto_if 61 with fail
  go_cut [11] (fun u wx => MetaRel W5 wx vB u (bs ++ packB (Z.take k) ++ if 0 < k ∧ k < xs.length then [1] else []))
  case first =>
    cases t with
    | true =>
      go_wp2_with (first
            | (at_builtin; refine wpList_append_src _ rfl (.tmp 62) (.tmp 63) 22 22 rfl 5 _ 1 Try.underlying22 info5 rfl _ _ _ rfl (hT6.alloc _) _ 1 [.int .u8 1] rfl (src_byte (by simp)) (by omega) (by decide) ?_; intro v1 w1 own1 grow1 lies1))
      go_meet
      rw [if_pos (by simpa using HT.out)]
      exact HM6.out.more (C := [1]) (gr_alloc _ _) grow1 rfl rfl own1 lies1
    | false =>
      go_wp2
      go_meet
      rw [if_neg (by simpa using HT.out), List.append_nil]
      exact HM6.out
  case rest =>
    have M7 := hcut
    clear hcut HM6 hT6 hl6 HT
    have b45 : Below W4.heap.size W4 W5 := ⟨C5.below.os, C5.below.tape, C5.below.output, C5.below.size, C5.below.block⟩
    have n5 : ∀ g, vB.ownBlock = some g → W4.heap.size ≤ g := C5.new
    have z45 := b45.size
    have b47 : Below W4.heap.size W4 wc := b45.trans (M7.below z45 n5)
    have n7 : ∀ g, u11.ownBlock = some g → W4.heap.size ≤ g := M7.new z45 n5
    obtain ⟨a3, ha3, hb3, hrun3⟩ := slice_from W1.heap.size hkn
    have hL : (bs ++ packB (Z.take k) ++ if 0 < k ∧ k < xs.length then [1] else []).length ≤ 4000000 := by
      rw [List.length_append, List.length_append]
      have := packB_le (Z.take k)
      have := wt_take Z k
      split <;> simp <;> omega
    have eJ : (bs ++ packB (Z.take k) ++ if 0 < k ∧ k < xs.length then [1] else []) ++ packB (Z.drop k) = bs ++ packB Z := by
      have e := packB_split Z k (by rw [HZl.out]; exact hkn)
      rw [HZl.out] at e
      rw [e]
      simp only [List.append_assoc]
    have HJ : Hid ((bs ++ packB (Z.take k) ++ if 0 < k ∧ k < xs.length then [1] else []) ++ packB (Z.drop k) = bs ++ packB Z) := eJ
    clear eJ
    generalize (bs ++ packB (Z.take k) ++ if 0 < k ∧ k < xs.length then [1] else []) = L at *
    have p7 := p4.below b47
    have HA3 : Hid (k < xs.length → a3 = some ⟨W1.heap.size, k * 2, none⟩) := ha3
    have HB3 : Hid (∀ b off, a3 = some ⟨b, off, none⟩ → b = W1.heap.size) := hb3
    clear ha3 hb3
    go_wp2_with fail
    refine (meta9 u11 L a3 (Z.drop k) _ _ wc M7.own (p7.drop k a3 (by rw [HZl.out]; exact HA3.out)) (by rw [List.length_drop, HZl.out]) (by rw [List.length_drop, HZl.out]; omega) (by omega) (packB_take_le (by have := wt_drop Z k; omega)) (fun p hp => by have := size_wt hp; have := wt_drop Z k; omega) (fun g hg b off e => by have := HB3.out b off e; have := n7 g hg; omega)).mono ?_
    rintro e W8 ⟨vJ, rfl, M8⟩
    rw [HJ.out] at M8
    have b48 : Below W4.heap.size W4 W8 := b47.trans (M8.below b47.size n7)
    have o8 := own_below M4.own b48
    have oj := M8.own
    clear M8 M7 p7 hrun3
    obtain ⟨aw, cw, rfl⟩ := row_shape o8
    obtain ⟨aj, cj, rfl⟩ := row_shape oj
    obtain ⟨iw, -, -⟩ := own_bytes o8
    obtain ⟨ij, -, -⟩ := own_bytes oj
    have hNl : (bs ++ packB Z).length = bs.length + (wz Z Z.length + (Z.length - 1)) := by rw [List.length_append, packB_len]
    rw [HZl.out] at hNl
    have hwz := wz_le Z xs.length
    have hN9 : (bs ++ packB Z).length ≤ 10000000 := by omega
    have HS : Hid (∀ (n m c d : Nat), n = (bs ++ packB Z).length → m = (bs ++ packB Z).length → Calls Try.prog 10 #[.slice aw n c, .slice aj m d] W8 fun e w' => e = .returned (.bool true) ∧ ∃ q, w' = W8.drewN q) := fun n m c d hn hm => same10 aw aj _ n m c d W8 iw ij hn hm hN9
    have HW : Hid (∀ (k : Nat) x, bs[k]? = some x → ∃ b off, aw = some ⟨b, off, none⟩ ∧ W8.cell? ⟨b, off + k, none⟩ = some (.int .u8 (x.toNat : Int))) := fun k x hx => bytes_cell iw k x (get_front hx)
    have b28 := b24.trans (b48.mono (by have := b24.size; omega))
    have b18 : Below W1.heap.size W1 W8 := R2.below.trans (b28.mono (by omega))
    have b08 : Below wB.heap.size wB W8 := C1.below.trans (b18.mono C1.below.size)
    have HI : Hid (∀ (k : Nat) x, bs[k]? = some x → ∃ b off, ab = some ⟨b, off, none⟩ ∧ W8.cell? ⟨b, off + k, none⟩ = some (.int .u8 (x.toNat : Int))) := bytes_cell (i1.below b18)
    have H1 : Hid (∀ (k : Nat) s, xs[k]? = some s → ∃ b off, a1 = some ⟨b, off, none⟩ ∧ W8.cell? ⟨b, off + k, none⟩ = some (.string s)) := strs_cell (h1.below b08)
    have H2 : Hid (∀ (k : Nat) s, ys[k]? = some s → ∃ b off, a2 = some ⟨b, off, none⟩ ∧ W8.cell? ⟨b, off + k, none⟩ = some (.string s)) := strs_cell (h2.below b08)
    have HE : Hid (Below wB.heap.size wB W8) := b08
    have HY : Hid (ys.length = xs.length) := hlen
    have hm8 : wt Z ≤ 1048576 := by omega
    clear h0 h1 h2 i1 in1 R2 C3 C5 M4 C1 b34 b24 b45 b47 b48 b28 b18 b08 iw ij o8 oj RP HJ n5 n7 nA i4 p4 hn0 hlen
    generalize hN : (bs ++ packB Z).length = N at *
    clear hN
    have HNl : Hid (N = bs.length + (wz Z xs.length + (xs.length - 1))) := hNl
    clear hNl
    go_wp2_with fail
    refine (HS.out _ _ _ _ rfl rfl).mono ?_
    rintro e W9 ⟨rfl, q, rfl⟩
    go_wp2
    go_loopw [13, 14] (fun v i wr => ∃ j n z : Nat, j ≤ xs.length ∧ i = .int .i64 j ∧ z = bs.length + wz Z j ∧ v = .int .i64 z ∧ wr = W8.drewN n) (fun _ i _ => xs.length - (intOf i).toNat)
    case atStart => exact ⟨0, q, bs.length, Nat.zero_le _, rfl, by simp [wz, weight], rfl, rfl⟩
    case round =>
      obtain ⟨j, n, z, hj, rfl, hz, rfl, rfl⟩ := hrel
      have HZ2 : Hid (z = bs.length + wz Z j) := hz
      have hzb : z ≤ 3000000 := by have := wz_le Z j; omega
      clear hz
      by_cases hjl : j < xs.length
      · obtain ⟨x, hx⟩ := get_some hjl
        obtain ⟨y, hy⟩ := get_some (show j < ys.length by rw [HY.out]; exact hjl)
        obtain ⟨b1, o1, rfl, c1⟩ := H1.out j x hx
        obtain ⟨b2, o2, rfl, c2⟩ := H2.out j y hy
        have hzg : Z[j]? = some (x, y) := by rw [HZ.out]; exact zip_get hx hy
        have HG : Hid (wz Z (j + 1) = wz Z j + (x.size + 1 + y.size)) := wz_step hzg
        have hxy := size_wt (List.mem_of_getElem? hzg)
        obtain ⟨hx1, hx2⟩ := hxy
        simp only at hx1 hx2
        clear hx hy hzg
        go_wp2
        go_quiet (fail)
        go_wp2
        go_roundw
        case rel => exact ⟨j + 1, _, z + (x.size + 1 + y.size), by omega, by go_num, by rw [HG.out, HZ2.out]; omega, by go_num, rfl⟩
        case measure => simp [intOf]; omega
      · have hje : j = xs.length := by omega
        have HJE : Hid (z = bs.length + wz Z xs.length) := by have := HZ2.out; rw [hje] at this; exact this
        have hx6 : xs.length ≤ 65536 := by omega
        clear hje HZ2
        go_upto_if 98 with fail
        go_cut [13] (fun v wx => wx = W8.drewN n ∧ v = .int .i64 N)
        case first =>
          by_cases hx0 : 0 < xs.length
          · go_wp2
            go_meet
            refine ⟨rfl, ?_⟩
            have h1 := HNl.out
            have h2 := HJE.out
            have e : N = z + (xs.length - 1) := by omega
            rw [e]
            go_num
          · go_wp2
            go_meet
            refine ⟨rfl, ?_⟩
            have h1 := HNl.out
            have h2 := HJE.out
            have e : N = z := by omega
            rw [e]
        case rest =>
          obtain ⟨rfl, rfl⟩ := hcut
          have hbN : bs.length ≤ N := by have := HNl.out; omega
          have hb : ((N : Int) != (N : Int)) = false := by simp
          go_wp2
          go_loopw [15] (fun i wr => ∃ i' n' : Nat, i' ≤ bs.length ∧ i = .int .i64 i' ∧ wr = W8.drewN n') (fun i _ => bs.length - (intOf i).toNat)
          case atStart => exact ⟨0, n, Nat.zero_le _, rfl, rfl⟩
          case round =>
            obtain ⟨i', n', hi', rfl, rfl⟩ := hrel
            clear hb
            by_cases hil : i' < bs.length
            · obtain ⟨x, hx⟩ := get_some hil
              obtain ⟨b1, o1, rfl, c1⟩ := HW.out i' x hx
              obtain ⟨b2, o2, rfl, c2⟩ := HI.out i' x hx
              have hiN : i' < N := by omega
              clear hx
              go_wp2
              go_quiet (fail)
              go_wp2
              go_roundw
              case rel => exact ⟨i' + 1, _, by omega, by go_num, rfl⟩
              case measure => simp [intOf]; omega
            · go_wp2
              go_ret
              exact ⟨rfl, below_drewN HE.out _⟩
end Go.Proofs.Qxb6627880a
