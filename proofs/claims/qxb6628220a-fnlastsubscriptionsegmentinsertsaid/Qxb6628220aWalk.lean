/-
  FnLastSubscriptionSegmentInsert (function 3): the walk. (Written by a script.)
-/
import Derived.Test.Qxb6628220aBytes
import Derived.Test.Qxb6628220aFill
namespace Go.Proofs.Qxb6628220a
open Go.RowKit

set_option maxHeartbeats 8000000 in
set_option maxRecDepth 1000000 in
theorem walk3 (s : SchV) (c : ByteArray) (kk : Int) (g : SegV) (w : World) (h : SchOk w s) (hg : SegOk w g) :
    Calls Try.prog 3 #[s.val, .string c, .int .i64 kk, g.val] w fun e w' => e = .returned (.bool true) ∧ Below w.heap.size w w' := by
  obtain ⟨an, mo, ro, ea, es, ec, so, re, oa, gs, oc⟩ := s
  obtain ⟨gs', gb', ra', rs', rc', sa', ss', sc'⟩ := g
  have L0 := Loc.start h hg _ _ rfl rfl
  have bA : Below w.heap.size w ((w.alloc (.cells #[.string an, .int .i64 mo, .string ro, .slice ea es.length ec, .pointer so, .pointer re, .slice oa gs.length oc] 27)).alloc (.cells #[.int .i64 gs', .int .i64 gb', .slice ra' rs'.length rc', .slice sa' ss'.length sc'] 29)) := ((Below.refl _ _).alloc (Nat.le_refl _) _).alloc (by simp) _
  clear h hg
  simp only [SchV.val, SegV.val]
  go_enter Try.func3, Try.ntmps3
  go_upto_region 1 with fail
  generalize ((w.alloc (.cells #[.string an, .int .i64 mo, .string ro, .slice ea es.length ec, .pointer so, .pointer re, .slice oa gs.length oc] 27)).alloc (.cells #[.int .i64 gs', .int .i64 gb', .slice ra' rs'.length rc', .slice sa' ss'.length sc'] 29)) = W0 at *
  have s0 := L0.s0
  have s1 := L0.s1
  have s2 := L0.s2
  have s3 := L0.s3
  have s4 := L0.s4
  have s5 := L0.s5
  have s6 := L0.s6
  have t0 := L0.t0
  have t1 := L0.t1
  have t2 := L0.t2
  have t3 := L0.t3
  simp only at s0 s1 s2 s3 s4 s5 s6 t0 t1 t2 t3
  go_wp2_with fail
  refine (bytes4 ⟨an, mo, ro, ea, es, ec, so, re, oa, gs, oc⟩ c kk ⟨gs', gb', ra', rs', rc', sa', ss', sc'⟩ W0 L0.ok L0.og).mono ?_
  rintro e W1 ⟨b01, r, rfl, hr⟩
  have b1 := bA.trans (b01.mono bA.size)
  have HB1 : Hid (Below w.heap.size w W1) := b1
  have L1 := L0.below b01
  clear s0 s1 s2 s3 s4 s5 s6 t0 t1 t2 t3
  clear L0 bA b1 b01
  cases r
  case false =>
    clear hr
    go_wp2
    go_ret
    exact ⟨rfl, HB1.out⟩
  have hgl : gs.length ≤ 1048576 := hr rfl
  clear hr
  by_cases hc : c.size ≤ 1048576
  case neg =>
    go_wp2
    go_ret
    exact ⟨rfl, HB1.out⟩
  have s0 := L1.s0
  have s1 := L1.s1
  have s2 := L1.s2
  have s3 := L1.s3
  have s4 := L1.s4
  have s5 := L1.s5
  have s6 := L1.s6
  have t0 := L1.t0
  have t1 := L1.t1
  have t2 := L1.t2
  have t3 := L1.t3
  simp only at s0 s1 s2 s3 s4 s5 s6 t0 t1 t2 t3
  go_wp2_with fail
  refine (sched5 (1048576 - c.size) ⟨an, mo, ro, ea, es, ec, so, re, oa, gs, oc⟩ W1 L1.ok (by omega) (by omega)).mono ?_
  rintro e W2 ⟨b12, r, rfl, q1, q2⟩
  have L2 := L1.below b12
  have HB2 : Hid (Below w.heap.size w W2) := HB1.out.trans (b12.mono HB1.out.size)
  clear s0 s1 s2 s3 s4 s5 s6 t0 t1 t2 t3
  clear L1 b12 HB1
  by_cases hr0 : r < 0
  · go_wp2
    go_ret
    exact ⟨rfl, HB2.out⟩
  have s0 := L2.s0
  have s1 := L2.s1
  have s2 := L2.s2
  have s3 := L2.s3
  have s4 := L2.s4
  have s5 := L2.s5
  have s6 := L2.s6
  have t0 := L2.t0
  have t1 := L2.t1
  have t2 := L2.t2
  have t3 := L2.t3
  simp only at s0 s1 s2 s3 s4 s5 s6 t0 t1 t2 t3
  go_wp2_with fail
  refine (seg6 r ⟨gs', gb', ra', rs', rc', sa', ss', sc'⟩ W2 L2.og q2 q1).mono ?_
  rintro e W3 ⟨b23, r3, rfl, q3, q4⟩
  have L3 := L2.below b23
  have HB3 : Hid (Below w.heap.size w W3) := HB2.out.trans (b23.mono HB2.out.size)
  clear s0 s1 s2 s3 s4 s5 s6 t0 t1 t2 t3
  clear L2 b23 HB2
  by_cases hr3 : r3 < 0
  · go_wp2
    go_ret
    exact ⟨rfl, HB3.out⟩
  have s0 := L3.s0
  have s1 := L3.s1
  have s2 := L3.s2
  have s3 := L3.s3
  have s4 := L3.s4
  have s5 := L3.s5
  have s6 := L3.s6
  have t0 := L3.t0
  have t1 := L3.t1
  have t2 := L3.t2
  have t3 := L3.t3
  simp only at s0 s1 s2 s3 s4 s5 s6 t0 t1 t2 t3
  by_cases hk0 : 0 ≤ kk
  case neg =>
    go_wp2
    go_ret
    exact ⟨rfl, HB3.out⟩
  by_cases hk1 : kk ≤ gs.length
  case neg =>
    go_wp2
    go_ret
    exact ⟨rfl, HB3.out⟩
  obtain ⟨k, rfl⟩ := Int.eq_ofNat_of_zero_le hk0
  have hkn : k ≤ gs.length := by omega
  clear hk0 hk1
  obtain ⟨c0, hc0, hmk⟩ := made_row 33 34 4 64 _ Try.underlying33 info34 gs.length (by omega) (by omega)
  obtain ⟨c1, hc1, hmk1⟩ := made_row 33 34 4 64 _ Try.underlying33 info34 (gs.length + 1) (by omega) (by omega)
  have HC1 : Hid (c1.size = (gs.length + 1) * 4) := hc1
  have HM1 : Hid (∀ W : World, (Instr.makeSlice 33 (.int .i64 ((gs.length : Int) + 1)) (.int .i64 ((gs.length : Int) + 1))).run Try.prog W = .ok (.slice (some ⟨W.heap.size, 0, none⟩) (gs.length + 1) (gs.length + 1)) (W.alloc (.cells c1 34))) := fun W => by have := hmk1 W; simpa using this
  clear hc1 hmk1
  have HL3 : Hid (Loc w.heap.size W3 ⟨an, mo, ro, ea, es, ec, so, re, oa, gs, oc⟩ ⟨gs', gb', ra', rs', rc', sa', ss', sc'⟩) := L3
  have z3 := HB3.out.size
  have hW3 : w.heap.size + 1 < W3.heap.size := World.block_lt_of_cell? W3 _ t0
  go_upto_region 14 with fail
  go_cut [11] (fun v wx => wx = W3.alloc (.cells c0 34) ∧ v = .slice (some ⟨W3.heap.size, 0, none⟩) gs.length gs.length)
  case first =>
    go_wp2
    go_meet
    exact ⟨rfl, rfl⟩
  obtain ⟨e1, e2⟩ := hcut
  subst e1
  subst e2
  clear s0 s1 s2 s3 s4 s5 s6 t0 t1 t2 t3 L3 hmk
  go_wp2
  go_loopw [12] (fun i wr => ∃ j : Nat, j ≤ gs.length ∧ i = .int .i64 j ∧ RowRel W3 wr gs j) (fun i _ => gs.length - (intOf i).toNat)
  case atStart => exact ⟨0, Nat.zero_le _, rfl, RowRel.start W3 c0 gs hc0⟩
  case round =>
    obtain ⟨j, hj, rfl, hR⟩ := hrel
    clear hc0
    by_cases hjl : j < gs.length
    · obtain ⟨⟨xs1, xb, xra, xrs, xrc, xsa, xss, xsc⟩, hx⟩ := get_some (show j < gs.length by omega)
      have Lr := HL3.out.below hR.below
      obtain ⟨qb, qo, rfl, q0, q1, q2, q3⟩ := segs_cell Lr.ok.o j _ hx
      simp only at q0 q1 q2 q3
      have s6 := Lr.s6
      simp only at s6
      have HT : Hid ((gs)[j]? = some ⟨xs1, xb, xra, xrs, xrc, xsa, xss, xsc⟩) := hx
      clear hx Lr
      go_wp2_with fail
      refine (seg7 ⟨xs1, xb, xra, xrs, xrc, xsa, xss, xsc⟩ wr).mono ?_
      rintro e w2 ⟨rfl, b2⟩
      have hR2 := hR.grow b2
      simp only [SegV.val]
      clear hR b2 q0 q1 q2 q3 s6
      go_wp2_with (refine wpList_laid rfl _ _ rfl hR2 HT.out rfl rfl ?_; intro w3 hR3)
      go_roundw
      case rel => first | exact ⟨j + 1, by omega, by go_num, hR3⟩ | ((repeat apply Exists.intro); exact ⟨⟨j + 1, by omega, by go_num, hR3⟩, rfl⟩)
      case measure => simp [intOf]; omega
    · have HO4 : Hid (RowRel W3 wr gs gs.length) := by have := hR; rw [show j = gs.length by omega] at this; exact this
      have HL4 : Hid (Loc w.heap.size wr ⟨an, mo, ro, ea, es, ec, so, re, oa, gs, oc⟩ ⟨gs', gb', ra', rs', rc', sa', ss', sc'⟩) := HL3.out.below hR.below
      have HB4 : Hid (Below w.heap.size w wr) := HB3.out.trans (hR.below.mono z3)
      have hz4 := hR.size
      have hmk1 := HM1.out
      have hc1 : c1.size = (insAt gs k ⟨gs', gb', ra', rs', rc', sa', ss', sc'⟩).length * 4 := by rw [insAt_len hkn]; exact HC1.out
      have s6 := HL4.out.s6
      simp only at s6
      clear hR HM1 HC1
      go_wp2
      clear s6 hmk1
      obtain ⟨W4, hW4⟩ : ∃ x, x = wr := ⟨_, rfl⟩
      subst hW4
      go_loopw [14] (fun i wr => ∃ j : Nat, j ≤ k ∧ i = .int .i64 j ∧ RowRel W4 wr (insAt gs k ⟨gs', gb', ra', rs', rc', sa', ss', sc'⟩) j) (fun i _ => k - (intOf i).toNat)
      case atStart => exact ⟨0, Nat.zero_le _, rfl, RowRel.start W4 c1 _ hc1⟩
      case round =>
        clear hc1
        have hIl : (insAt gs k ⟨gs', gb', ra', rs', rc', sa', ss', sc'⟩).length = gs.length + 1 := insAt_len hkn
        have HIl : Hid ((insAt gs k ⟨gs', gb', ra', rs', rc', sa', ss', sc'⟩).length = gs.length + 1) := hIl
        clear hIl
        obtain ⟨j2, hj2, rfl, hR⟩ := hrel
        by_cases hjl2 : j2 < k
        · obtain ⟨⟨xs1, xb, xra, xrs, xrc, xsa, xss, xsc⟩, hx⟩ := get_some (show j2 < gs.length by omega)
          have Lr := HL4.out.below hR.below
          obtain ⟨qb, qo, rfl, q0, q1, q2, q3⟩ := segs_cell Lr.ok.o j2 _ hx
          simp only at q0 q1 q2 q3
          have s6 := Lr.s6
          simp only at s6
          have HT : Hid ((insAt gs k ⟨gs', gb', ra', rs', rc', sa', ss', sc'⟩)[j2]? = some ⟨xs1, xb, xra, xrs, xrc, xsa, xss, xsc⟩) := insAt_lo hjl2 hx
          clear hx Lr
          go_wp2_with fail
          refine (seg7 ⟨xs1, xb, xra, xrs, xrc, xsa, xss, xsc⟩ wr).mono ?_
          rintro e w2 ⟨rfl, b2⟩
          have hR2 := hR.grow b2
          simp only [SegV.val]
          clear hR b2 q0 q1 q2 q3 s6
          go_wp2_with (refine wpList_laid rfl _ _ rfl hR2 HT.out rfl rfl ?_; intro w3 hR3)
          go_roundw
          case rel => first | exact ⟨j2 + 1, by omega, by go_num, hR3⟩ | ((repeat apply Exists.intro); exact ⟨⟨j2 + 1, by omega, by go_num, hR3⟩, rfl⟩)
          case measure => simp [intOf]; omega
        · have HR5 : Hid (RowRel W4 wr (insAt gs k ⟨gs', gb', ra', rs', rc', sa', ss', sc'⟩) k) := by have := hR; rw [show j2 = k by omega] at this; exact this
          have Lr := HL4.out.below hR.below
          have t0 := Lr.t0
          have t1 := Lr.t1
          have t2 := Lr.t2
          have t3 := Lr.t3
          simp only at t0 t1 t2 t3
          clear Lr hR
          go_wp2_with fail
          refine (seg7 ⟨gs', gb', ra', rs', rc', sa', ss', sc'⟩ wr).mono ?_
          rintro e w2 ⟨rfl, b2⟩
          have hR2 := HR5.out.grow b2
          simp only [SegV.val]
          clear b2 t0 t1 t2 t3 HR5
          go_wp2_with (refine wpList_laid rfl _ _ rfl hR2 (insAt_at hkn) rfl rfl ?_; intro w3 hR3)
          have HR6 : Hid (RowRel W4 w3 (insAt gs k ⟨gs', gb', ra', rs', rc', sa', ss', sc'⟩) (k + 1)) := hR3
          clear hR2 hR3
          go_loopw [15] (fun i wr => ∃ j : Nat, k ≤ j ∧ j ≤ gs.length ∧ i = .int .i64 j ∧ RowRel W4 wr (insAt gs k ⟨gs', gb', ra', rs', rc', sa', ss', sc'⟩) (j + 1)) (fun i _ => gs.length - (intOf i).toNat)
          case atStart => exact ⟨k, Nat.le_refl _, hkn, rfl, HR6.out⟩
          case round =>
            clear HR6
            obtain ⟨j3, hj3, hj3', rfl, hR⟩ := hrel
            by_cases hjl3 : j3 < gs.length
            · obtain ⟨⟨xs1, xb, xra, xrs, xrc, xsa, xss, xsc⟩, hx⟩ := get_some (show j3 < gs.length by omega)
              have Lr := HL4.out.below hR.below
              obtain ⟨qb, qo, rfl, q0, q1, q2, q3⟩ := segs_cell Lr.ok.o j3 _ hx
              simp only at q0 q1 q2 q3
              have s6 := Lr.s6
              simp only at s6
              have HT : Hid ((insAt gs k ⟨gs', gb', ra', rs', rc', sa', ss', sc'⟩)[j3 + 1]? = some ⟨xs1, xb, xra, xrs, xrc, xsa, xss, xsc⟩) := insAt_hi hj3 hx
              clear hx Lr
              go_wp2_with fail
              refine (seg7 ⟨xs1, xb, xra, xrs, xrc, xsa, xss, xsc⟩ wr).mono ?_
              rintro e w2 ⟨rfl, b2⟩
              have hR2 := hR.grow b2
              simp only [SegV.val]
              clear hR b2 q0 q1 q2 q3 s6
              go_wp2_with (refine wpList_laid rfl _ _ rfl hR2 HT.out rfl rfl ?_; intro w3 hR3)
              go_roundw
              case rel => first | exact ⟨j3 + 1, by omega, by omega, by go_num, hR3⟩ | ((repeat apply Exists.intro); exact ⟨⟨j3 + 1, by omega, by omega, by go_num, hR3⟩, rfl⟩)
              case measure => simp [intOf]; omega
            · have hR7 : RowRel W4 wr (insAt gs k ⟨gs', gb', ra', rs', rc', sa', ss', sc'⟩) (insAt gs k ⟨gs', gb', ra', rs', rc', sa', ss', sc'⟩).length := by have := hR; rw [show j3 + 1 = (insAt gs k ⟨gs', gb', ra', rs', rc', sa', ss', sc'⟩).length by rw [HIl.out]; omega] at this; exact this
              have L5 := HL4.out.below hR.below
              have O5 : IsSegs wr (some ⟨W3.heap.size, 0, none⟩) gs := HO4.out.segs.below hR.below
              have I5 := hR7.segs
              have K5 : ∀ x ∈ insAt gs k ⟨gs', gb', ra', rs', rc', sa', ss', sc'⟩, SegOk wr x := fun x hx => (insAt_mem hx).elim (fun h => L5.ok.g x h) (fun h => h ▸ L5.og)
              have HB5 : Hid (Below w.heap.size w wr) := HB4.out.trans (hR.below.mono HB4.out.size)
              clear hR hR7 HL4 HO4 HB4
              have s0 := L5.s0
              have s1 := L5.s1
              have s2 := L5.s2
              have s3 := L5.s3
              have s4 := L5.s4
              have s5 := L5.s5
              have s6 := L5.s6
              simp only at s0 s1 s2 s3 s4 s5 s6
              go_wp2_with fail
              refine (make8 ⟨an, mo, ro, ea, es, ec, so, re, oa, gs, oc⟩ _ wr L5.ok _ _ _ rfl).mono ?_
              rintro e W6 ⟨p1, rfl, hp1, b56⟩
              have L6 := L5.below b56
              have O6 := O5.below b56
              have I6 := I5.below b56
              have K6 : ∀ x ∈ insAt gs k ⟨gs', gb', ra', rs', rc', sa', ss', sc'⟩, SegOk W6 x := fun x hx => (K5 x hx).below b56
              have HB6 : Hid (Below w.heap.size w W6) := HB5.out.trans (b56.mono HB5.out.size)
              clear s0 s1 s2 s3 s4 s5 s6 L5 O5 I5 K5 HB5 b56
              go_wp2_with fail
              refine (last9 p1 _ gs _ c W6 hp1 O6 L6.ok.g (by omega)).mono ?_
              rintro e W7 ⟨rfl, b67⟩
              have L7 := L6.below b67
              have I7 := I6.below b67
              have K7 : ∀ x ∈ insAt gs k ⟨gs', gb', ra', rs', rc', sa', ss', sc'⟩, SegOk W7 x := fun x hx => (K6 x hx).below b67
              have HB7 : Hid (Below w.heap.size w W7) := HB6.out.trans (b67.mono HB6.out.size)
              clear L6 O6 I6 K6 HB6 b67 hp1
              obtain ⟨hb1, hb2⟩ := lastTo_lt (hit gs c) gs.length
              have hIns := last_ins (g := ⟨gs', gb', ra', rs', rc', sa', ss', sc'⟩) c hkn
              obtain ⟨r5, hr5⟩ : ∃ r5, r5 = lastTo (hit gs c) gs.length := ⟨_, rfl⟩
              rw [← hr5] at hb1 hb2 hIns
              rw [← hr5]
              have HR5 : Hid (r5 = lastTo (hit gs c) gs.length) := hr5
              clear hr5
              have s0 := L7.s0
              have s1 := L7.s1
              have s2 := L7.s2
              have s3 := L7.s3
              have s4 := L7.s4
              have s5 := L7.s5
              have s6 := L7.s6
              simp only at s0 s1 s2 s3 s4 s5 s6
              go_wp2_with fail
              refine (make8 ⟨an, mo, ro, ea, es, ec, so, re, oa, gs, oc⟩ _ W7 L7.ok _ _ _ rfl).mono ?_
              rintro e W8 ⟨p2, rfl, hp2, b78⟩
              have L8 := L7.below b78
              have I8 := I7.below b78
              have K8 : ∀ x ∈ insAt gs k ⟨gs', gb', ra', rs', rc', sa', ss', sc'⟩, SegOk W8 x := fun x hx => (K7 x hx).below b78
              have HB8 : Hid (Below w.heap.size w W8) := HB7.out.trans (b78.mono HB7.out.size)
              clear s0 s1 s2 s3 s4 s5 s6 L7 I7 K7 HB7 b78
              go_wp2_with fail
              refine (last9 p2 _ (insAt gs k ⟨gs', gb', ra', rs', rc', sa', ss', sc'⟩) _ c W8 (by rw [HIl.out]; exact hp2) I8 K8 (by rw [HIl.out]; omega)).mono ?_
              rintro e W9 ⟨rfl, b89⟩
              have L9 := L8.below b89
              have HB9 : Hid (Below w.heap.size w W9) := HB8.out.trans (b89.mono HB8.out.size)
              clear L8 I8 K8 HB8 b89 hp2
              rw [HIl.out]
              obtain ⟨r6, hr6⟩ : ∃ r6, r6 = lastTo (hit (insAt gs k ⟨gs', gb', ra', rs', rc', sa', ss', sc'⟩) c) (gs.length + 1) := ⟨_, rfl⟩
              rw [← hr6] at hIns
              rw [← hr6]
              clear hr6
              have HLast : Hid (Calls Try.prog 11 #[.slice oa gs.length oc, .string c, .int .i64 r5] W9 fun e w' => e = .returned (.bool true) ∧ w' = W9) := isLast11 oa gs oc c r5 W9 L9.ok.o L9.ok.g (by omega) HR5.out
              have HHas : Hid (Calls Try.prog 10 #[.slice sa' ss'.length sc', .string c] W9 fun e w' => w' = W9 ∧ e = .returned (.bool (hasB ss' c))) := has10 sa' ss' sc' c W9 L9.og.s L9.og.sl
              have s6 := L9.s6
              have t3 := L9.t3
              simp only at s6 t3
              clear L9 HR5
              by_cases hkr : (k : Int) ≤ r5
              · rw [if_pos hkr] at hIns
                subst hIns
                go_wp2_with fail
                refine HLast.out.mono ?_
                rintro e w' ⟨rfl, rfl⟩
                go_wp2
                go_ret
                exact ⟨rfl, HB9.out⟩
              · rw [if_neg hkr] at hIns
                have HIns : Hid (r6 = if hasB ss' c then (k : Int) else r5) := hIns
                clear hIns
                go_wp2_with fail
                refine HHas.out.mono ?_
                rintro e w' ⟨rfl, rfl⟩
                cases hh : hasB ss' c with
                | true =>
                  have hIns := HIns.out
                  rw [hh, if_pos rfl] at hIns
                  clear HIns hh
                  subst hIns
                  go_wp2_with fail
                  refine HLast.out.mono ?_
                  rintro e w' ⟨rfl, rfl⟩
                  go_wp2
                  go_ret
                  exact ⟨rfl, HB9.out⟩
                | false =>
                  have hIns := HIns.out
                  rw [hh, if_neg (by simp)] at hIns
                  clear HIns hh
                  subst hIns
                  go_wp2_with fail
                  refine HLast.out.mono ?_
                  rintro e w' ⟨rfl, rfl⟩
                  go_wp2
                  go_ret
                  exact ⟨rfl, HB9.out⟩

end Go.Proofs.Qxb6628220a
