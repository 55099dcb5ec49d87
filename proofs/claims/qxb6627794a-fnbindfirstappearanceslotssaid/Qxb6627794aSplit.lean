/-
  FnBindSplitAgrees (function 4): the walk.
-/
import Derived.Test.Qxb6627794aFin
import Derived.Deep.DeepCutAuto
import Derived.Deep.QuietTactic
import Derived.BigQuiet
namespace Go.Proofs.Qxb6627794a
open Go.RowKit Go.Maps

theorem size9 : (Try.prog.info? 9).map (·.size) = some 1 := by kernel_rfl

theorem IsStrs.src {w : World} {ad : Addr} {ss : List ByteArray} (h : IsStrs w (some ad) ss) : ∀ j v, (ss.map Value.string)[j]? = some v → w.cell? (ad.add j) = some v := by
  intro j v hv
  rw [List.getElem?_map] at hv
  obtain ⟨s, hs, rfl⟩ := Option.map_eq_some_iff.1 hv
  rcases h with rfl | ⟨b, off, e, _, hc⟩
  · simp at hs
  · cases e
    have : (⟨b, off, none⟩ : Addr).add j = ⟨b, off + j, none⟩ := by unfold Addr.add; split <;> simp_all
    rw [this]; exact hc j s hs

/-- 'copy' of all strings of a slice into a row that has just been made. -/
theorem copied {w : World} {ad : Addr} {c0 : Array Value} {ss : List ByteArray} (cap : Nat) (h : IsStrs w (some ad) ss) (hc : c0.size = ss.length) :
    ∃ W2, (Builtin.copy_ #[22, 22] 3 #[.slice (some ⟨w.heap.size, 0, none⟩) ss.length ss.length, .slice (some ad) ss.length cap]).run Try.prog (w.alloc (.cells c0 9)) = .ok (.int .i64 ss.length) W2 ∧
      IsStrs W2 (some ⟨w.heap.size, 0, none⟩) ss ∧ Below w.heap.size w W2 := by
  have hal : Below w.heap.size w (w.alloc (.cells c0 9)) := (Below.refl _ _).alloc (Nat.le_refl _) _
  have hr := run_copy_row (P := Try.prog) (w.alloc (.cells c0 9)) 22 22 3 9 w.heap.size 0 ss.length ss.length ad ss.length cap c0 9 (ss.map Value.string) Try.underlying22 size9 (heap_alloc_new _ _) (by simp) (h.below hal).src (by simp; omega) (by simp [Value.oneCell'])
  refine ⟨_, by simpa [goInt] using hr, .inr ⟨w.heap.size, 0, rfl, by simp [World.setRow], fun j s hs => ?_⟩, ?_⟩
  · refine cell_of (setRow_heap _ _ c0 _ 9 _ (heap_alloc_new _ _)) ?_
    have hj : j < ss.length := (List.getElem?_eq_some_iff.1 hs).1
    have hg : ss[j] = s := by rw [List.getElem?_eq_getElem hj] at hs; exact Option.some.inj hs
    simp [List.getElem?_append, hj, hg]
  · exact below_setRow hal (Nat.le_refl _) _

/-- 'keys[c:]': its address is a letter, told where there is something behind c. -/
theorem slice_from (a : Option Addr) {n c : Nat} (h : c ≤ n) : ∃ a3, (c < n → a3 = a.map (·.add c)) ∧ ∀ W : World, (Instr.slice 22 (.slice a n n) (some (.int .i64 (c : Int))) none none).run Try.prog W = .ok (.slice a3 (n - c) (n - c)) W := by
  refine ⟨if n = c then a else a.map (·.add c), fun hlt => if_neg (by omega), fun W => ?_⟩
  obtain ⟨i, hi, _, hz1, _⟩ := info_parts info9
  simp [Instr.slice, run_underlying Try.underlying22, Instr.sliceBounds, Instr.sliceBound, asIntOf, sizeOf, typeInfo, hi, hz1]
  intro hh
  omega

/-- What the loops over the slots read. -/
def LoopFacts (w : World) (gw g1 g2 c : Nat) (ss K : List ByteArray) (a : Option Addr) : Prop :=
  ∀ i s, ss[i]? = some s → ∃ x : Nat, w.cell? ⟨gw, i, none⟩ = some (.int .i32 x) ∧ (i < c → w.cell? ⟨g1, i, none⟩ = some (.int .i32 x)) ∧ (c ≤ i → w.cell? ⟨g2, i - c, none⟩ = some (.int .i32 x)) ∧ K[x]? = some s ∧
    ∃ b off, a = some ⟨b, off, none⟩ ∧ w.cell? ⟨b, off + i, none⟩ = some (.string s)

theorem loopFacts {wc w : World} {a : Option Addr} {tw tp gw g1 g2 : Nat} {ss : List ByteArray} {c : Nat} (F : Fin4 wc w a tw tp gw g1 g2 ss c) (hc : c ≤ ss.length) : LoopFacts w gw g1 g2 c ss (bdK [] ss) a := by
  intro i s hs
  obtain ⟨x, h1, h2⟩ := slot_names [] ss i s hs
  refine ⟨x, row32 F.rw_ h1, fun hi => row32 F.r1 (split_left h1 hi), fun hi => row32 F.r2 (split_right hc h1 hi), h2, ?_⟩
  rcases F.strs with rfl | ⟨b, off, e, _, hcell⟩
  · simp at hs
  · exact ⟨b, off, e, hcell i s hs⟩

set_option maxHeartbeats 1000000 in
set_option maxRecDepth 100000 in
theorem walk4 (a : Option Addr) (ss : List ByteArray) (cap : Nat) (cut : Int) (w : World) (hs : IsStrs w a ss) (hnil : a = none → ss = [] ∧ cap = 0) (hl : ss.length ≤ 140737488351232) :
    Calls Try.prog 4 #[.slice a ss.length cap, .int .i64 cut] w fun e w' => e = .returned (.bool true) ∧ Below w.heap.size w w' := by
  have q22 : ∀ (w : World) (ao : Option Addr) (n c : Nat), (binOp .neq 22 (.slice ao n c) (.slice none 0 0)).run Try.prog w = .ok (.bool ao.isSome) w := fun w ao n c => by
    rw [run_neq_slice_nil_any w _ _ ao n c 0 0 Try.underlying22]; simp
  go_enter Try.func4, Try.ntmps4
  go_wp2_with fail
  refine (bytes19 a ss cap cut w hs hl).mono ?_
  rintro e w' ⟨rfl, r, rfl, hr⟩
  cases r
  · go_wp2
    go_ret
    exact ⟨rfl, Below.refl _ _⟩
  have hsz := hr rfl
  have HZ : Hid (∀ s ∈ ss, s.size ≤ 1048576) := hsz
  have HI : Hid (IsStrs w' a ss) := hs
  clear hr hsz hs
  by_cases hlen : ss.length ≤ 4096
  · go_upto_if 35 with fail
    go_cut [0, 5] (fun kv zc wx => ∃ a2, kv = .slice a2 ss.length ss.length ∧ IsStrs wx a2 ss ∧ Below w'.heap.size w' wx)
    case first =>
      cases a with
      | none =>
        obtain ⟨rfl, rfl⟩ := hnil rfl
        go_wp2
        go_meet
        exact ⟨none, rfl, .inl rfl, Below.refl _ _⟩
      | some ad =>
        obtain ⟨c0, hc0, hmk⟩ := made_row 22 9 1 16 _ Try.underlying22 info9 ss.length (by omega) (by omega)
        clear hnil
        obtain ⟨W2, hcopy, hs2, hb2⟩ := copied cap HI.out (by omega : c0.size = ss.length)
        have R : Hid (IsStrs W2 (some ⟨w'.heap.size, 0, none⟩) ss ∧ Below w'.heap.size w' W2) := ⟨hs2, hb2⟩
        clear hs2 hb2 hc0
        go_wp2
        go_meet
        exact ⟨_, rfl, R.out⟩
    case rest =>
      obtain ⟨a2, rfl, hs2, hbel⟩ := hcut
      clear HI hnil q22
      have HB : Hid (Below w'.heap.size w' wc) := hbel
      have HI : Hid (IsStrs wc a2 ss) := hs2
      have hcell : ∀ k s, ss[k]? = some s → ∃ b off, a2 = some ⟨b, off, none⟩ ∧ wc.cell? ⟨b, off + k, none⟩ = some (.string s) := by
        rcases hs2 with rfl | ⟨b, off, e, _, hc⟩
        · simp
        · exact fun k s hs => ⟨b, off, e, hc k s hs⟩
      have HC : Hid (∀ k s, ss[k]? = some s → ∃ b off, a2 = some ⟨b, off, none⟩ ∧ wc.cell? ⟨b, off + k, none⟩ = some (.string s)) := hcell
      clear hbel hs2 hcell
      go_wp2
      go_loop [6, 45] (fun n i => ∃ (k : Nat) (z : Int), k ≤ ss.length ∧ i = .int .i64 k ∧ n = .int .i64 z ∧ 0 ≤ z ∧ z ≤ 1048576) (fun _ i => ss.length - (intOf i).toNat)
      case atStart => exact ⟨0, 0, Nat.zero_le _, rfl, rfl, by omega, by omega⟩
      case round =>
        obtain ⟨k, z, hk, rfl, rfl, hz0, hz1⟩ := hrel
        by_cases hkl : k < ss.length
        · obtain ⟨s, hs⟩ := get_some hkl
          obtain ⟨b, off, ha2, hcell⟩ := HC.out k s hs
          have hsz := HZ.out s (List.mem_of_getElem? hs)
          clear hs
          subst ha2
          by_cases hsum : z + (16 + s.size) ≤ 1048576
          · go_wp2
            go_round
            case rel => exact ⟨k + 1, _, by omega, by go_num, rfl, by omega, by omega⟩
            case measure => simp [intOf]; omega
          · go_wp2
            go_ret
            exact ⟨rfl, HB.out⟩
        · by_cases hcut : 0 ≤ cut ∧ cut ≤ ss.length
          · obtain ⟨hc0, hc1⟩ := hcut
            obtain ⟨c, rfl⟩ := Int.eq_ofNat_of_zero_le hc0
            have hcn : c ≤ ss.length := by omega
            clear hc0 hc1
            go_wp2_with fail
            have d0 := (Below.refl wc.heap.size wc).alloc (Nat.le_refl _) (.cells #[.map none, .slice none 0 0, .slice none 0 0, .slice none 0 0, .slice none 0 0, .map none, .int .u64 0] 31)
            have T0 := Tab.new wc
            generalize hW0 : wc.alloc (.cells #[.map none, .slice none 0 0, .slice none 0 0, .slice none 0 0, .slice none 0 0, .map none, .int .u64 0] 31) = W0 at *
            have hz0 : wc.heap.size < W0.heap.size := by rw [← hW0]; simp
            clear hW0
            refine (prep6' a2 ss _ _ _ (HI.out.below d0) rfl hlen).mono ?_
            rintro e W1 ⟨p1, rfl, P1⟩
            go_wp2_with fail
            refine (bind7' _ _ _ _ _ [] ss [] T0 (fun b hb => hb ▸ hz0) P1 (by simp; omega) (by simp; omega) HZ.out).mono ?_
            rintro e W2 ⟨gw, rfl, B1⟩
            go_wp2_with fail
            have d2 : Below wc.heap.size wc W2 := by
              have z0 := P1.below.size
              have zc := d0.size
              exact d0.trans ((P1.below.mono zc).trans (B1.fr.below (by omega) fun b h => by omega))
            have z2 := d2.size
            refine (prep6' a2 (ss.take c) _ _ _ ((HI.out.take c).below ((d2.alloc z2 _).alloc (by simp; omega) _)) (by simp; omega) (by simp; omega)).mono ?_
            rintro e W5 ⟨p2, rfl, P2⟩
            have T4 : Tab (fun b => b = W2.heap.size + 1) ((W2.alloc (.cells #[.pointer (some ⟨p1, 0, none⟩), .pointer (some ⟨wc.heap.size, 0, none⟩), .slice (some ⟨gw, 0, none⟩) ss.length ss.length] 35)).alloc (.cells #[.map none, .slice none 0 0, .slice none 0 0, .slice none 0 0, .slice none 0 0, .map none, .int .u64 0] 31)) (W2.heap.size + 1) [] [] := by
              have := Tab.new (W2.alloc (.cells #[.pointer (some ⟨p1, 0, none⟩), .pointer (some ⟨wc.heap.size, 0, none⟩), .slice (some ⟨gw, 0, none⟩) ss.length ss.length] 35))
              simpa using this
            go_wp2_with fail
            refine (bind7' _ _ _ _ _ [] (ss.take c) [] T4 (fun b hb => by simp; omega) P2 (by simp; omega) (by simp; omega) (fun s h => HZ.out s (List.mem_of_mem_take h))).mono ?_
            rintro e W6 ⟨g1, rfl, B2⟩
            obtain ⟨a3, ha3, hsl⟩ := slice_from a2 hcn
            have HA : Hid (c < ss.length → a3 = a2.map (·.add c)) := ha3
            clear ha3
            go_wp2_with fail
            have d6 : Below wc.heap.size wc W6 := by
              have z4 := P2.below.size
              simp at z4
              exact ((d2.alloc z2 _).alloc (by simp; omega) _).trans ((P2.below.mono (by simp; omega)).trans (B2.fr.below (by omega) fun b h => by omega))
            have z6 := d6.size
            refine (prep6' a3 (ss.drop c) _ _ _ (((HI.out.below d6).drop c a3 HA.out).below ((Below.refl _ _).alloc (Nat.le_refl _) _)) (by simp) (by simp; omega)).mono ?_
            rintro e W8 ⟨p3, rfl, P3⟩
            go_wp2_with fail
            refine (bind7' _ _ _ _ _ (bdK [] (ss.take c)) (ss.drop c) (bdC [] [] (ss.take c)) (B2.tab.kept (w' := W6.alloc _) fun b hb _ => Below.heap_alloc _ _ _ hb) (fun b hb => by have := hb.2.2; simp; omega) P3 ?_ ?_ (fun s h => HZ.out s (List.mem_of_mem_drop h))).mono ?_
            · have := bdK_len [] (ss.take c); simp at this ⊢; omega
            · rw [bd_sum _ _ _ rfl]; simp; omega
            rintro e W9 ⟨g2, rfl, B3⟩
            obtain ⟨F, f1, f2⟩ := fin4 HI.out d0 rfl P1 B1 P2 B2 P3 B3
            have z69 := (Array.getElem?_eq_some_iff.1 f2).1
            have z29 := (Array.getElem?_eq_some_iff.1 f1).1
            simp only [List.length_drop] at *
            clear B1 B2 B3 P1 P2 P3 T0 T4 d0 d2 d6 z2 z6 hsl HA hz0
            have i0 := cell_of (o := 0) f1 (by rfl)
            have i1 := cell_of (o := 1) f1 (by rfl)
            have i2 := cell_of (o := 2) f1 (by rfl)
            have j0 := cell_of (o := 0) f2 (by rfl)
            have j1 := cell_of (o := 1) f2 (by rfl)
            have j2 := cell_of (o := 2) f2 (by rfl)
            have y0 : W2.heap.size < W9.heap.size + 1 := by omega
            have y1 : W6.heap.size < W9.heap.size + 1 := by omega
            have y2 : W6.heap.size < W9.heap.size + 1 + 1 := by omega
            clear f1 f2
            go_upto_region 26 with go_in
            go_cut [15] (fun v wx => v = .slice (some ⟨g2, 0, none⟩) (ss.length - c) (ss.length - c) ∧ Fin4 wc wx a2 wc.heap.size (W2.heap.size + 1) gw g1 g2 ss c)
            case first =>
              have G := F.step (((((Below.refl _ W9).alloc (Nat.le_refl _) (.cells #[.pointer (some ⟨p3, 0, none⟩), .pointer (some ⟨W2.heap.size + 1, 0, none⟩), .slice (some ⟨g2, 0, none⟩) (ss.length - c) (ss.length - c)] 35)).alloc (by simp) (.cells #[.pointer (some ⟨p1, 0, none⟩), .pointer (some ⟨wc.heap.size, 0, none⟩), .slice (some ⟨gw, 0, none⟩) ss.length ss.length] 35)).alloc (by simp; omega) (.cells #[.pointer (some ⟨p2, 0, none⟩), .pointer (some ⟨W2.heap.size + 1, 0, none⟩), .slice (some ⟨g1, 0, none⟩) c c] 35)).alloc (by simp; omega) (.cells #[.pointer (some ⟨p3, 0, none⟩), .pointer (some ⟨W2.heap.size + 1, 0, none⟩), .slice (some ⟨g2, 0, none⟩) (ss.length - c) (ss.length - c)] 35))
              have HG : Hid _ := G
              clear G F
              go_wp2
              go_meet
              exact ⟨rfl, HG.out⟩
            case rest =>
              obtain ⟨rfl, F2⟩ := hcut
              have HE : Hid (Below w'.heap.size w' wc) := HB.out.trans (F2.below.mono HB.out.size)
              have HL := loopFacts F2 hcn
              clear HI HC HB F i0 i1 i2 j0 j1 j2 y0 y1 y2 z69 z29
              obtain ⟨kaw, raw, kcw, rcw, Vw⟩ := F2.tabw.view
              obtain ⟨kap, rap, kcp, rcp, Vp⟩ := F2.tabp.view
              have kw1 := Vw.k
              have kw2 := Vw.r
              have kp1 := Vp.k
              have kp2 := Vp.r
              have hKl : (bdK [] ss).length ≤ ss.length := by have := bdK_len [] ss; simpa using this
              have HCl : Hid ((bdC [] [] ss).length = (bdK [] ss).length) := bd_len [] [] ss rfl
              have HCs : Hid ((bdC [] [] ss).sum = ss.length) := by have := bd_sum [] [] ss rfl; simpa [Hid] using this
              have HCp : Hid (∀ c ∈ bdC [] [] ss, 1 ≤ c) := bdC_pos [] [] ss rfl (by simp)
              clear F2
              generalize bdK [] ss = K at *
              generalize bdC [] [] ss = C at *
              have hne : (((ss.length - c : Nat) : Int) != (ss.length : Int) - (c : Int)) = false := by simp; omega
              go_wp2
              go_loop [115] (fun i => ∃ k : Nat, k ≤ ss.length ∧ i = .int .i64 k) (fun i => ss.length - (intOf i).toNat)
              case atStart => exact ⟨0, Nat.zero_le _, rfl⟩
              case round =>
                obtain ⟨k, hk, rfl⟩ := hrel
                by_cases hkl : k < ss.length
                · obtain ⟨s, hs⟩ := get_some hkl
                  obtain ⟨x, x1, x2, x3, _⟩ := HL k s hs
                  clear hs
                  by_cases hkc : k < c
                  · have x2' := x2 hkc
                    clear x2 x3
                    go_wp2
                    go_round
                    case rel => exact ⟨k + 1, by omega, by go_num⟩
                    case measure => simp [intOf]; omega
                  · have x3' := x3 (by omega)
                    clear x2 x3
                    go_wp2
                    go_round
                    case rel => exact ⟨k + 1, by omega, by go_num⟩
                    case measure => simp [intOf]; omega
                · clear hne
                  go_wp2
                  go_loopw [167] (fun i wr => ∃ (k m : Nat), k ≤ K.length ∧ i = .int .i64 k ∧ wr = wc.drewN m) (fun i _ => K.length - (intOf i).toNat)
                  case atStart => exact ⟨0, 0, Nat.zero_le _, rfl, rfl⟩
                  case round =>
                    clear hk hkl
                    obtain ⟨k, m, hk, rfl, rfl⟩ := hrel
                    by_cases hkl : k < K.length
                    · obtain ⟨s, hs⟩ := get_some hkl
                      obtain ⟨x, hx⟩ := get_some (show k < C.length by rw [HCl.out]; exact hkl)
                      obtain ⟨gk, rfl, k1⟩ := Vw.keys k s hs
                      obtain ⟨gk', rfl, k2⟩ := Vp.keys k s hs
                      obtain ⟨gr, rfl, k3⟩ := Vw.reads k x hx
                      obtain ⟨gr', rfl, k4⟩ := Vp.reads k x hx
                      clear hs hx
                      go_wp2
                      go_quiet (fail)
                      go_wp2
                      go_roundw
                      case rel => exact ⟨k + 1, _, by omega, by go_num, rfl⟩
                      case measure => simp [intOf]; omega
                    · go_wp2
                      go_loopw [193] (fun i wr => ∃ (k m : Nat), k ≤ ss.length ∧ i = .int .i64 k ∧ wr = wc.drewN m) (fun i _ => ss.length - (intOf i).toNat)
                      case atStart => exact ⟨0, _, Nat.zero_le _, rfl, rfl⟩
                      case round =>
                        clear hk hkl
                        obtain ⟨k, m, hk, rfl, rfl⟩ := hrel
                        by_cases hkl : k < ss.length
                        · obtain ⟨s, hs⟩ := get_some hkl
                          obtain ⟨x, x1, _, _, hKx, b, off, rfl, x4⟩ := HL k s hs
                          have hxl : x < K.length := (List.getElem?_eq_some_iff.1 hKx).1
                          obtain ⟨gk, rfl, k1⟩ := Vw.keys x s hKx
                          have hx0 : decide ((x : Int) < 0) = false := by simp
                          have hx1 : decide ((K.length : Int) ≤ (x : Int)) = false := by simp; omega
                          have hwx : IntKind.i64.wrap (x : Int) = (x : Int) := by rw [IntKind.wrap_i64]; omega
                          clear hs hKx
                          go_wp2
                          go_quiet (fail)
                          go_wp2
                          go_roundw
                          case rel => exact ⟨k + 1, _, by omega, by go_num, rfl⟩
                          case measure => simp [intOf]; omega
                        · go_wp2
                          go_loop [25, 223] (fun tt i => ∃ k : Nat, k ≤ K.length ∧ i = .int .i64 k ∧ tt = .int .i64 (C.take k).sum) (fun _ i => K.length - (intOf i).toNat)
                          case atStart => exact ⟨0, Nat.zero_le _, rfl, rfl⟩
                          case round =>
                            clear hk hkl
                            obtain ⟨k, hk, rfl, rfl⟩ := hrel
                            by_cases hkl : k < K.length
                            · obtain ⟨x, hx⟩ := get_some (show k < C.length by rw [HCl.out]; exact hkl)
                              obtain ⟨gr, rfl, k3⟩ := Vw.reads k x hx
                              have hx1 := HCp.out x (List.mem_of_getElem? hx)
                              have hs1 := sum_take_succ hx
                              have hs2 := sum_take_le C (k + 1)
                              rw [HCs.out] at hs2
                              have HS : Hid ((C.take (k + 1)).sum = (C.take k).sum + x) := hs1
                              rw [hs1] at hs2
                              have hwx : IntKind.i64.wrap (x : Int) = (x : Int) := by rw [IntKind.wrap_i64]; omega
                              clear hx hs1
                              generalize (C.take k).sum = q at *
                              go_wp2
                              go_round
                              case rel => exact ⟨k + 1, by omega, by go_num, by rw [HS.out]; go_num⟩
                              case measure => simp [intOf]; omega
                            · have hq : (C.take k).sum = ss.length := by rw [List.take_of_length_le (by have := HCl.out; omega)]; exact HCs.out
                              have hq2 : (((C.take k).sum : Nat) : Int) = (ss.length : Int) := by rw [hq]
                              have HQ : Hid ((((C.take k).sum : Nat) : Int) = (ss.length : Int)) := hq2
                              clear hq hq2
                              go_wp2
                              go_ret
                              exact ⟨by rw [HQ.out]; simp, below_drewN HE.out _⟩
          · by_cases hc0 : cut < 0
            · go_wp2
              go_ret
              exact ⟨rfl, HB.out⟩
            · have hc1 : ¬ cut ≤ ss.length := fun h => hcut ⟨by omega, h⟩
              go_wp2
              go_ret
              exact ⟨rfl, HB.out⟩
  · go_wp2
    go_ret
    exact ⟨rfl, Below.refl _ _⟩
end Go.Proofs.Qxb6627794a
