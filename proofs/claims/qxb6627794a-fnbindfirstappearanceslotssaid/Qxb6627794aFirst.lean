/-
  FnBindFirstAppearanceSlots (function 3): the walk.
-/
import Derived.Test.Qxb6627794aFin3
import Derived.Test.Qxb6627794aTail
import Derived.LaidEqlPtr
namespace Go.Proofs.Qxb6627794a
open Go.RowKit Go.Maps

/-- 'make([]string, 0, n)'. -/
theorem made_row0 (n : Nat) (C : Int) (hC : C = (n : Int)) (hn : n ≤ 10000) :
    ∃ c0 : Array Value, c0.size = n ∧ ∀ W : World, (Instr.makeSlice 22 (.int .i64 0) (.int .i64 C)).run Try.prog W = .ok (.slice (some ⟨W.heap.size, 0, none⟩) 0 n) (W.alloc (.cells c0 9)) := by
  subst hC
  obtain ⟨i, hi', hz0, hz1, hz2⟩ := info_parts info9
  refine ⟨madeCells (Value.string ByteArray.empty).cells (n * i.size), by rw [size_madeCells, hz1]; omega, fun W => ?_⟩
  have h := run_make (P := Try.prog) W 22 9 i _ Try.underlying22 hi' hz0 .i64 .i64 0 (n : Int) (by omega) (by omega) (by rw [hz2]; omega) (by omega)
  simpa using h

theorem src_of {w : World} {a : Option Addr} {ss : List ByteArray} (h : IsStrs w a ss) : ∀ ad, a = some ad → ∀ j u, (ss.map Value.string)[j]? = some u → w.cell? (ad.add j) = some u := by
  intro ad e
  subst e
  exact h.src
theorem nil_of {w : World} {a : Option Addr} {ss : List ByteArray} (h : IsStrs w a ss) : a = none → ss.length = 0 ∧ ss.length = 0 := by
  intro e
  rcases h with rfl | ⟨b, off, e', _⟩
  · exact ⟨rfl, rfl⟩
  · rw [e] at e'; cases e'

theorem neq_ptr_same {tp te : TypeId} (W : World) (a : Addr) (hp : Try.prog.underlying tp = some (.pointer te)) (hs : ((Try.prog.info? te).map (·.size)).isSome = true) :
    (binOp .neq tp (.pointer (some a)) (.pointer (some a))).run Try.prog W = .ok (.bool false) W := by
  cases hte : Try.prog.info? te with
  | none => rw [hte] at hs; simp at hs
  | some j =>
    have h : ∀ d : Nat, (Op.equalIn (d + 1) tp (.pointer (some a)) (.pointer (some a))).run Try.prog W = .ok true W := fun d => by
      simp [Op.equalIn, run_underlying hp, sizeOf, typeInfo, hte, run_sameAddr_same]
    simp only [binOp]
    simp [Op.equal, Op.maxDepth, h 9999]

/-- 'distinct' after k rounds. -/
structure Dist (w8 wr : World) (L : List ByteArray) (n k : Nat) : Prop where
  own : wr.ownsRow 0 9 1 (.slice (some ⟨w8.heap.size, 0, none⟩) (bdK [] (L.take k)).length n) (bdK [] (L.take k)).length ((bdK [] (L.take k)).map Value.string)
  below : Below w8.heap.size w8 wr

theorem Dist.start {w8 : World} {c : Array Value} {L : List ByteArray} {n : Nat} (hc : c.size = n) (hn : n ≤ 10000) : Dist w8 (w8.alloc (.cells c 9)) L n 0 :=
  ⟨World.ownsRow_made w8 c n (Nat.zero_le _) (by unfold maxLen; omega) (by omega), (Below.refl _ _).alloc (Nat.le_refl _) _⟩
theorem Dist.same {w8 wr : World} {L : List ByteArray} {n k : Nat} {s : ByteArray} (h : Dist w8 wr L n k) (hs : L[k]? = some s) (hin : s ∈ bdK [] (L.take k)) : Dist w8 wr L n (k + 1) := by
  have e : bdK [] (L.take (k + 1)) = bdK [] (L.take k) := by rw [bdK_step hs, tkK_in hin]
  exact ⟨by rw [e]; exact h.own, h.below⟩
theorem Dist.more {w8 wr w9 : World} {o : Obj} {L : List ByteArray} {n k : Nat} {s : ByteArray} (h : Dist w8 wr L n k) (hs : L[k]? = some s) (hin : s ∉ bdK [] (L.take k))
    (ho : w9.ownsRow 0 9 1 (.slice (some ⟨w8.heap.size, 0, none⟩) ((bdK [] (L.take k)).length + 1) n) ((bdK [] (L.take k)).length + 1) ((bdK [] (L.take k)).map Value.string ++ [.string s])) (hg : (wr.alloc o).grownBy w9 (some w8.heap.size)) :
    Dist w8 w9 L n (k + 1) := by
  have e : bdK [] (L.take (k + 1)) = bdK [] (L.take k) ++ [s] := by rw [bdK_step hs, tkK_new hin]
  have hz := h.below.size
  refine ⟨?_, (h.below.alloc hz _).grown hg (by simp; omega) (fun k e => by cases e; exact Nat.le_refl _)⟩
  rw [e, List.length_append, List.map_append]
  exact ho

set_option maxHeartbeats 4000000 in
set_option maxRecDepth 100000 in
theorem walk3 (a0 a1 : Option Addr) (xs ys : List ByteArray) (cap0 cap1 : Nat) (w : World) (hs0 : IsStrs w a0 xs) (hs1 : IsStrs w a1 ys) (hnil0 : a0 = none → xs = [] ∧ cap0 = 0) (hnil1 : a1 = none → ys = [] ∧ cap1 = 0)
    (hl0 : xs.length ≤ 140737488351232) (hl1 : ys.length ≤ 140737488351232) :
    Calls Try.prog 3 #[.slice a0 xs.length cap0, .slice a1 ys.length cap1] w fun e w' => e = .returned (.bool true) ∧ Below w.heap.size w w' := by
  have q22 : ∀ (w : World) (ao : Option Addr) (n c : Nat), (binOp .neq 22 (.slice ao n c) (.slice none 0 0)).run Try.prog w = .ok (.bool ao.isSome) w := fun w ao n c => by
    rw [run_neq_slice_nil_any w _ _ ao n c 0 0 Try.underlying22]; simp
  go_enter Try.func3, Try.ntmps3
  go_wp2_with fail
  refine (bytes5 a0 a1 xs ys cap0 cap1 w hs0 hs1 hl0 hl1).mono ?_
  rintro e w' ⟨rfl, r, rfl, hr⟩
  cases r
  · go_wp2
    go_ret
    exact ⟨rfl, Below.refl _ _⟩
  have HZ : Hid (SizesOk xs ys) := hr rfl
  have HI0 : Hid (IsStrs w' a0 xs) := hs0
  have HI1 : Hid (IsStrs w' a1 ys) := hs1
  clear hr hs0 hs1
  by_cases hlen0 : xs.length ≤ 4096
  case neg =>
    go_wp2
    go_ret
    exact ⟨rfl, Below.refl _ _⟩
  by_cases hlen1 : ys.length ≤ 4096
  case neg =>
    go_wp2
    go_ret
    exact ⟨rfl, Below.refl _ _⟩
  clear hl0 hl1
  go_upto_if 42 with fail
  go_cut [0, 5] (fun kv zc wx => ∃ a2, kv = .slice a2 xs.length xs.length ∧ IsStrs wx a2 xs ∧ Below w'.heap.size w' wx)
  case first =>
    cases a0 with
    | none =>
      obtain ⟨rfl, rfl⟩ := hnil0 rfl
      go_wp2
      go_meet
      exact ⟨none, rfl, .inl rfl, Below.refl _ _⟩
    | some ad =>
      obtain ⟨c0, hc0, hmk⟩ := made_row 22 9 1 16 _ Try.underlying22 info9 xs.length (by omega) (by omega)
      clear hnil0
      obtain ⟨W2, hcopy, hs2, hb2⟩ := copied cap0 HI0.out (by omega : c0.size = xs.length)
      have R : Hid (IsStrs W2 (some ⟨w'.heap.size, 0, none⟩) xs ∧ Below w'.heap.size w' W2) := ⟨hs2, hb2⟩
      clear hs2 hb2 hc0
      go_wp2
      go_meet
      exact ⟨_, rfl, R.out⟩
  case rest =>
    obtain ⟨a2, rfl, hs2, hbel⟩ := hcut
    clear HI0 hnil0
    have HB : Hid (Below w'.heap.size w' wc) := hbel
    have HI0 : Hid (IsStrs wc a2 xs) := hs2
    have HI1' : Hid (IsStrs wc a1 ys) := HI1.out.below hbel
    clear hbel hs2 HI1
    have HI1 := HI1'
    clear HI1'
    obtain ⟨wb, hwb⟩ : ∃ x, x = wc := ⟨_, rfl⟩
    subst hwb
    go_upto_if 51 with fail
    go_cut [1, 6] (fun kv zc wx => ∃ a3, kv = .slice a3 ys.length ys.length ∧ IsStrs wx a3 ys ∧ Below wb.heap.size wb wx)
    case first =>
      cases a1 with
      | none =>
        obtain ⟨rfl, rfl⟩ := hnil1 rfl
        go_wp2
        go_meet
        exact ⟨none, rfl, .inl rfl, Below.refl _ _⟩
      | some ad =>
        obtain ⟨c0, hc0, hmk⟩ := made_row 22 9 1 16 _ Try.underlying22 info9 ys.length (by omega) (by omega)
        clear hnil1
        obtain ⟨W2, hcopy, hs2, hb2⟩ := copied cap1 HI1.out (by omega : c0.size = ys.length)
        have R : Hid (IsStrs W2 (some ⟨wb.heap.size, 0, none⟩) ys ∧ Below wb.heap.size wb W2) := ⟨hs2, hb2⟩
        clear hs2 hb2 hc0
        go_wp2
        go_meet
        exact ⟨_, rfl, R.out⟩
    case rest =>
      obtain ⟨a3, rfl, hs3, hbel⟩ := hcut
      clear HI1 hnil1 q22
      have HB2 : Hid (Below w'.heap.size w' wc) := HB.out.trans (hbel.mono HB.out.size)
      have HI1 : Hid (IsStrs wc a3 ys) := hs3
      have HI0' : Hid (IsStrs wc a2 xs) := HI0.out.below hbel
      clear hbel hs3 HI0 HB
      have HI0 := HI0'
      have HB := HB2
      clear HI0' HB2
      have HC0 : Hid (∀ (k : Nat) s, xs[k]? = some s → ∃ b off, a2 = some ⟨b, off, none⟩ ∧ wc.cell? ⟨b, off + k, none⟩ = some (.string s)) := strs_cell HI0.out
      have HC1 : Hid (∀ (k : Nat) s, ys[k]? = some s → ∃ b off, a3 = some ⟨b, off, none⟩ ∧ wc.cell? ⟨b, off + k, none⟩ = some (.string s)) := strs_cell HI1.out
      go_wp2
      go_loop [7, 61] (fun n i => ∃ (k : Nat) (z : Int), k ≤ xs.length ∧ i = .int .i64 k ∧ n = .int .i64 z ∧ 0 ≤ z ∧ z ≤ 1048576) (fun _ i => xs.length - (intOf i).toNat)
      case atStart => exact ⟨0, 0, Nat.zero_le _, rfl, rfl, by omega, by omega⟩
      case round =>
        obtain ⟨k, z, hk, rfl, rfl, hz0, hz1⟩ := hrel
        by_cases hkl : k < xs.length
        · obtain ⟨s, hs⟩ := get_some hkl
          obtain ⟨b, off, ha2, hcell⟩ := HC0.out k s hs
          have hsz := HZ.out.1 s (List.mem_of_getElem? hs)
          clear hs
          subst ha2
          by_cases hsum : z + (16 + s.size) ≤ 1048576
          · go_wp2
            go_round
            case rel => exact ⟨k + 1, _, by omega, by go_num, rfl, by omega, by omega⟩
            case measure => simp [intOf]; omega
          · go_wp2
            go_ret
            exact ⟨rfl, HB.out⟩
        · go_wp2
          go_loop [7, 77] (fun n i => ∃ (k : Nat) (z : Int), k ≤ ys.length ∧ i = .int .i64 k ∧ n = .int .i64 z ∧ 0 ≤ z ∧ z ≤ 1048576) (fun _ i => ys.length - (intOf i).toNat)
          case atStart => exact ⟨0, _, Nat.zero_le _, rfl, rfl, by omega, by omega⟩
          case round =>
            clear hz0 hz1 hk hkl
            obtain ⟨k, z, hk, rfl, rfl, hz0, hz1⟩ := hrel
            by_cases hkl : k < ys.length
            · obtain ⟨s, hs⟩ := get_some hkl
              obtain ⟨b, off, ha3, hcell⟩ := HC1.out k s hs
              have hsz := HZ.out.2 s (List.mem_of_getElem? hs)
              clear hs
              subst ha3
              by_cases hsum : z + (16 + s.size) ≤ 1048576
              · go_wp2
                go_round
                case rel => exact ⟨k + 1, _, by omega, by go_num, rfl, by omega, by omega⟩
                case measure => simp [intOf]; omega
              · go_wp2
                go_ret
                exact ⟨rfl, HB.out⟩
            · clear HC0 HC1
              go_wp2_with fail
              have d0 := (Below.refl wc.heap.size wc).alloc (Nat.le_refl _) (.cells #[.map none, .slice none 0 0, .slice none 0 0, .slice none 0 0, .slice none 0 0, .map none, .int .u64 0] 31)
              have T0 := Tab.new wc
              generalize hW0 : wc.alloc (.cells #[.map none, .slice none 0 0, .slice none 0 0, .slice none 0 0, .slice none 0 0, .map none, .int .u64 0] 31) = W0 at *
              have hz0 : wc.heap.size < W0.heap.size := by rw [← hW0]; simp
              clear hW0
              refine (prep6' a2 xs _ _ _ (HI0.out.below d0) rfl hlen0).mono ?_
              rintro e W1 ⟨p0, rfl, P1⟩
              go_wp2_with fail
              refine (bind7' _ _ _ _ _ [] xs [] T0 (fun b hb => hb ▸ hz0) P1 (by simp; omega) (by simp; omega) HZ.out.1).mono ?_
              rintro e W2 ⟨g0, rfl, B1⟩
              go_wp2_with fail
              have d2 : Below wc.heap.size wc W2 := by
                have z0 := P1.below.size
                have zc := d0.size
                exact d0.trans ((P1.below.mono zc).trans (B1.fr.below (by omega) fun b h => by omega))
              have z2 := d2.size
              refine (prep6' a3 ys _ _ _ (HI1.out.below d2) rfl hlen1).mono ?_
              rintro e W3 ⟨p, rfl, P2⟩
              go_wp2_with fail
              refine (bind7' _ _ _ _ _ (bdK [] xs) ys (bdC [] [] xs) B1.tab (fun b hb => hb.2.2) P2 ?_ ?_ HZ.out.2).mono ?_
              · have := bdK_len [] xs; simp at this ⊢; omega
              · rw [bd_sum _ _ _ rfl]; simp; omega
              rintro e W4 ⟨g, rfl, B2⟩
              have d4 : Below wc.heap.size wc W4 := by
                have z3 := P2.below.size
                have z4 := B2.fr.size
                have z1 := P1.below.size
                have zc := d0.size
                exact d2.trans ((P2.below.mono z2).trans (B2.fr.below (by omega) fun b h => by omega))
              have z4 := d4.size
              obtain ⟨c0, hc0, hmk⟩ := made_row0 (xs.length + ys.length) ((xs.length : Int) + (ys.length : Int)) (by omega) (by omega)
              obtain ⟨c1, hc1, hmk'⟩ := made_row0 (xs.length + ys.length) ((xs.length + ys.length : Nat) : Int) rfl (by omega)
              have d6 : Below wc.heap.size wc ((W4.alloc (.cells #[.pointer (some ⟨p, 0, none⟩), .pointer (some ⟨wc.heap.size, 0, none⟩), .slice (some ⟨g, 0, none⟩) ys.length ys.length] 35)).alloc (.cells c0 9)) := (d4.alloc z4 _).alloc (by simp; omega) _
              have own6 : ((W4.alloc (.cells #[.pointer (some ⟨p, 0, none⟩), .pointer (some ⟨wc.heap.size, 0, none⟩), .slice (some ⟨g, 0, none⟩) ys.length ys.length] 35)).alloc (.cells c0 9)).ownsRow 0 9 1 (.slice (some ⟨W4.heap.size + 1, 0, none⟩) 0 (xs.length + ys.length)) 0 [] := by
                have := World.ownsRow_made (base := 0) (e := 9) (size := 1) (W4.alloc (.cells #[.pointer (some ⟨p, 0, none⟩), .pointer (some ⟨wc.heap.size, 0, none⟩), .slice (some ⟨g, 0, none⟩) ys.length ys.length] 35)) c0 (xs.length + ys.length) (Nat.zero_le _) (by unfold maxLen; omega) (by omega)
                simpa using this
              obtain ⟨i9, hi9, hz90, hz91, hz92⟩ := info_parts info9
              have s60 := HI0.out.below d6
              have s61 := HI1.out.below d6
              go_wp2_with (first
                | (at_builtin; refine wpList_append_fits_any _ rfl (.tmp 109) (.tmp 110) 22 rfl 0 9 i9 1 Try.underlying22 hi9 hz91 (W4.heap.size + 1) 0 (xs.length + ys.length) [] rfl own6 a2 xs.length xs.length (xs.map Value.string) rfl (by simp) (nil_of s60) (src_of s60) (by simp [Value.oneCell']) (by omega) ?_; intro W7 own7 grow7; simp only [Nat.zero_add, List.nil_append] at own7; have s71 : IsStrs W7 a3 ys := HI1.out.below (d6.grown grow7 (by simp; omega) (fun k e => by cases e; omega)))
                | (at_builtin; refine wpList_append_fits_any _ rfl (.tmp 112) (.tmp 113) 22 rfl 0 9 i9 1 Try.underlying22 hi9 hz91 (W4.heap.size + 1) xs.length (xs.length + ys.length) _ rfl own7 a3 ys.length ys.length (ys.map Value.string) rfl (by simp) (nil_of s71) (src_of s71) (by simp [Value.oneCell']) (by omega) ?_; intro W8 own8 grow8; have BS := base3 HI1.out d0 rfl P1 B1 P2 B2 grow7 grow8 own8; clear own6 own7 own8 grow7 grow8 s60 s61 s71 P1 P2 B1 B2 d0 d2 d4 d6))
              go_loopw [15, 120] (fun v i wr => ∃ k : Nat, k ≤ xs.length + ys.length ∧ i = .int .i64 k ∧ v = .slice (some ⟨W8.heap.size, 0, none⟩) (bdK [] ((cat xs ys).take k)).length (xs.length + ys.length) ∧ Dist W8 wr (cat xs ys) (xs.length + ys.length) k) (fun _ i _ => xs.length + ys.length - (intOf i).toNat)
              case atStart => exact ⟨0, Nat.zero_le _, rfl, rfl, Dist.start hc0 (by omega)⟩
              case round =>
                clear hk hkl hz1 hmk hmk'
                obtain ⟨k, hk, rfl, rfl, hD⟩ := hrel
                by_cases hkl : k < xs.length + ys.length
                · obtain ⟨s, hs⟩ : ∃ s, (cat xs ys)[k]? = some s := get_some (by rw [cat_len]; omega)
                  obtain ⟨b, off, e, hcell⟩ := strs_cell (BS.step hD.below).all k s hs
                  cases e
                  rw [Nat.zero_add] at hcell
                  have hDl : (bdK [] ((cat xs ys).take k)).length ≤ k := by have := bdK_len [] ((cat xs ys).take k); simp at this; omega
                  have HS : Hid ((cat xs ys)[k]? = some s) := hs
                  clear hs
                  by_cases hin : s ∈ bdK [] ((cat xs ys).take k)
                  · have HR : Hid (bdK [] ((cat xs ys).take (k + 1)) = bdK [] ((cat xs ys).take k)) := by rw [Hid, bdK_step HS.out, tkK_in hin]
                    go_wp2_with fail
                    refine (idx8 _ (bdK [] ((cat xs ys).take k)) _ _ s _ (row_strs hD.own) rfl (by omega)).mono ?_
                    rintro e w2 ⟨rfl, rfl⟩
                    rw [zx_in hin]
                    go_wp2
                    go_roundw
                    case rel => exact ⟨k + 1, by omega, by go_num, by rw [HR.out], hD.same HS.out hin⟩
                    case measure => simp [intOf]; omega
                  · have HR : Hid (bdK [] ((cat xs ys).take (k + 1)) = bdK [] ((cat xs ys).take k) ++ [s]) := by rw [Hid, bdK_step HS.out, tkK_new hin]
                    go_wp2_with fail
                    refine (idx8 _ (bdK [] ((cat xs ys).take k)) _ _ s _ (row_strs hD.own) rfl (by omega)).mono ?_
                    rintro e w2 ⟨rfl, rfl⟩
                    rw [zx_out hin]
                    go_wp2_with (first
                      | (at_builtin; refine wpList_append_fits _ rfl (.tmp 130) (.tmp 135) 22 rfl 0 9 i9 1 Try.underlying22 hi9 hz91 W8.heap.size (bdK [] ((cat xs ys).take k)).length (xs.length + ys.length) _ rfl (hD.own.alloc _) ⟨w2.heap.size, 0, none⟩ 1 1 [.string s] rfl rfl (cell_one_at _ _ _ _ rfl) (by simp [Value.oneCell']) (by omega) ?_; intro w9 own9 grow9))
                    go_roundw
                    case rel => exact ⟨k + 1, by omega, by go_num, by rw [HR.out, List.length_append]; rfl, hD.more HS.out hin own9 grow9⟩
                    case measure => simp [intOf]; omega
                · have ht : (cat xs ys).take k = cat xs ys := List.take_of_length_le (by rw [cat_len]; omega)
                  have hown := hD.own
                  rw [ht] at hown ⊢
                  have B3 := BS.step hD.below
                  have S3 := row_strs hown
                  have hKl : (bdK [] (cat xs ys)).length ≤ xs.length + ys.length := by have := bdK_len [] (cat xs ys); rw [cat_len] at this; simpa using this
                  have i0 := cell_of (o := 0) B3.bind (by rfl)
                  have i1 := cell_of (o := 1) B3.bind (by rfl)
                  have i2 := cell_of (o := 2) B3.bind (by rfl)
                  have y0 := (Array.getElem?_eq_some_iff.1 B3.bind).1
                  have y1 : W4.heap.size < wr.heap.size + 1 := by omega
                  have y2 : W4.heap.size < wr.heap.size + 1 + 1 := by omega
                  have qp : ∀ (W : World) (a : Addr), (binOp .neq 32 (.pointer (some a)) (.pointer (some a))).run Try.prog W = .ok (.bool false) W := fun W a => neq_ptr_same W a Try.underlying32 (by kernel_rfl)
                  have qt : ∀ (W : World) (a : Addr), (binOp .neq 24 (.pointer (some a)) (.pointer (some a))).run Try.prog W = .ok (.bool false) W := fun W a => neq_ptr_same W a Try.underlying24 (by kernel_rfl)
                  clear BS hD hown ht hc0 hc1 z2 z4
                  obtain ⟨wz, hwz⟩ : ∃ x, x = wc := ⟨_, rfl⟩
                  subst hwz
                  go_upto_region 45 with go_in
                  go_cut [17] (fun v wx => v = .slice (some ⟨g, 0, none⟩) ys.length ys.length ∧ Base3 wz wx a3 (W4.heap.size + 1) wz.heap.size g W4.heap.size p xs ys ∧ IsStrs wx (some ⟨W8.heap.size, 0, none⟩) (bdK [] (cat xs ys)))
                  case first =>
                    have dd := (((Below.refl _ wr).alloc (Nat.le_refl _) (.cells #[.pointer (some ⟨p, 0, none⟩), .pointer (some ⟨wz.heap.size, 0, none⟩), .slice (some ⟨g, 0, none⟩) ys.length ys.length] 35)).alloc (by simp) (.cells #[.pointer (some ⟨p, 0, none⟩), .pointer (some ⟨wz.heap.size, 0, none⟩), .slice (some ⟨g, 0, none⟩) ys.length ys.length] 35)).alloc (by simp; omega) (.cells #[.pointer (some ⟨p, 0, none⟩), .pointer (some ⟨wz.heap.size, 0, none⟩), .slice (some ⟨g, 0, none⟩) ys.length ys.length] 35)
                    have HG : Hid (Base3 wz _ a3 (W4.heap.size + 1) wz.heap.size g W4.heap.size p xs ys ∧ IsStrs _ (some ⟨W8.heap.size, 0, none⟩) (bdK [] (cat xs ys))) := ⟨B3.step dd, S3.below dd⟩
                    clear dd B3 S3
                    go_wp2
                    go_meet
                    exact ⟨rfl, HG.out⟩
                  case rest =>
                    obtain ⟨rfl, B4, S4⟩ := hcut
                    clear B3 S3 i0 i1 i2 y0 y1 y2 qp qt
                    have HE : Hid (Below w'.heap.size w' wc) := HB.out.trans (B4.below.mono HB.out.size)
                    clear HI0 HI1
                    go_step
                    exact tail3 w' wc a3 xs ys (cat xs ys) (bdK [] (cat xs ys)) (bdC [] [] (cat xs ys)) wz.heap.size g (W4.heap.size + 1) W8.heap.size _ _ _ _ _ _ _ _ _ _ _ _ _ _ _ _ _ _ _ _ _ _ _ _ _ _ _ _ _ _ _ _ _ _ _ _ _ _ _ _ _ _ _ _ _ _ _ _ _ _ _ _ _ _ _ _ _ _ _ _ _ _ _ _ _ _ _ _ _ _ _ _ _ _ _ _ _ _ _ _ _ _ _ _ _ _ _ _ _ _ _ _ _ _ _ _ _ _ _ _ _ _ _ _ _ _ _ _ _ _ _ _ _ _ _ _ _ _ _ _ _ _ _ _ _ _ _ _ _ _ _ _ _ _ _ _ _ _ _ _ _ _ _ _ _ _ _ _ _ _ _ _ _ _ _ _ _ _ _ _ _ _ _ _ _ _ _ _ _ _ _ _ _ _ _ _ _ _ _ _ _ _ _ _ _ _ _ _ _ _ _ _ _ _ _ _ _ _ _ _ _ _ _ _ _ _ _ _ _ _ _ _ _ _ _ _ _ _ _ _ _ _ _ _ _ _ _ _ _ _ _ _ _ _ _ _ _ _ _ _ _ _ _ _ _ _ _ _ _ _ _ _ _ _ _ _ _ _ _ _ _ _ _ _ _ _ _ _ _ _ _ _ _ HE (slotFacts B4) (keyFacts HZ.out).2 B4.all B4.tab S4 (cat_len xs ys) hKl hlen0 hlen1
end Go.Proofs.Qxb6627794a
