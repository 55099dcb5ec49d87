/-
  zzLssSchedBudget (5), zzBytes (4): they read, and answer.
-/
import Derived.Test.Qxb6628220aMem
namespace Go.Proofs.Qxb6628220a
open Go.RowKit

/-- What a walk is told of a slice of segments. -/
def IsSegs (w : World) (a : Option Addr) (gs : List SegV) : Prop :=
  gs = [] ∨ ∃ b off, a = some ⟨b, off, none⟩ ∧ b < w.heap.size ∧ ∀ (j : Nat) g, gs[j]? = some g →
    w.cell? ⟨b, off + j * 4, none⟩ = some (.int .i64 g.s) ∧ w.cell? ⟨b, off + j * 4 + 1, none⟩ = some (.int .i64 g.b) ∧
    w.cell? ⟨b, off + j * 4 + 2, none⟩ = some (.slice g.ra g.rs.length g.rc) ∧ w.cell? ⟨b, off + j * 4 + 3, none⟩ = some (.slice g.sa g.ss.length g.sc)
theorem IsSegs.below {w w' : World} {a : Option Addr} {gs : List SegV} (h : IsSegs w a gs) (hb : Below w.heap.size w w') : IsSegs w' a gs := by
  rcases h with h | ⟨b, off, e, hlt, hc⟩
  · exact .inl h
  · refine .inr ⟨b, off, e, Nat.lt_of_lt_of_le hlt hb.size, fun j g hg => ?_⟩
    obtain ⟨h0, h1, h2, h3⟩ := hc j g hg
    exact ⟨(hb.cell (p := ⟨b, off + j * 4, none⟩) hlt).trans h0, (hb.cell (p := ⟨b, off + j * 4 + 1, none⟩) hlt).trans h1, (hb.cell (p := ⟨b, off + j * 4 + 2, none⟩) hlt).trans h2, (hb.cell (p := ⟨b, off + j * 4 + 3, none⟩) hlt).trans h3⟩
theorem segs_cell {w : World} {a : Option Addr} {gs : List SegV} (h : IsSegs w a gs) : ∀ (j : Nat) g, gs[j]? = some g → ∃ b off, a = some ⟨b, off, none⟩ ∧
    w.cell? ⟨b, off + j * 4, none⟩ = some (.int .i64 g.s) ∧ w.cell? ⟨b, off + j * 4 + 1, none⟩ = some (.int .i64 g.b) ∧
    w.cell? ⟨b, off + j * 4 + 2, none⟩ = some (.slice g.ra g.rs.length g.rc) ∧ w.cell? ⟨b, off + j * 4 + 3, none⟩ = some (.slice g.sa g.ss.length g.sc) := by
  rcases h with rfl | ⟨b, off, e, _, hc⟩
  · simp
  · exact fun k s hs => ⟨b, off, e, hc k s hs⟩

/-- A schedule. -/
structure SchV where
  an : ByteArray
  mo : Int
  ro : ByteArray
  ea : Option Addr
  es : List ByteArray
  ec : Nat
  so : Option Addr
  re : Option Addr
  oa : Option Addr
  gs : List SegV
  oc : Nat
def SchV.val (s : SchV) : Value := .agg #[.string s.an, .int .i64 s.mo, .string s.ro, .slice s.ea s.es.length s.ec, .pointer s.so, .pointer s.re, .slice s.oa s.gs.length s.oc]

/-- All that it leads to can be read. -/
structure SchOk (w : World) (s : SchV) : Prop where
  e : IsStrs w s.ea s.es
  el : s.es.length ≤ 9223372036854775807
  so : ∀ p, s.so = some p → ∃ b off, p = ⟨b, off, none⟩ ∧ ∃ (i : Int) (d : ByteArray) (t : Bool), w.cell? ⟨b, off, none⟩ = some (.int .i64 i) ∧ w.cell? ⟨b, off + 1, none⟩ = some (.string d) ∧ w.cell? ⟨b, off + 2, none⟩ = some (.bool t)
  re : ∀ p, s.re = some p → ∃ b off, p = ⟨b, off, none⟩ ∧ ∃ i : Int, w.cell? ⟨b, off, none⟩ = some (.int .i64 i)
  o : IsSegs w s.oa s.gs
  gl : s.gs.length ≤ 9223372036854775807
  g : ∀ g ∈ s.gs, SegOk w g
theorem SchOk.below {w w' : World} {s : SchV} (h : SchOk w s) (hb : Below w.heap.size w w') : SchOk w' s := by
  have keep : ∀ (b o : Nat) (v : Value), w.cell? ⟨b, o, none⟩ = some v → w'.cell? ⟨b, o, none⟩ = some v := fun b o v hc => (hb.cell (p := ⟨b, o, none⟩) (World.block_lt_of_cell? w _ hc)).trans hc
  refine ⟨h.e.below hb, h.el, fun p hp => ?_, fun p hp => ?_, h.o.below hb, h.gl, fun g hg => (h.g g hg).below hb⟩
  · obtain ⟨b, off, e, i, d, t, h0, h1, h2⟩ := h.so p hp
    exact ⟨b, off, e, i, d, t, keep _ _ _ h0, keep _ _ _ h1, keep _ _ _ h2⟩
  · obtain ⟨b, off, e, i, h0⟩ := h.re p hp
    exact ⟨b, off, e, i, keep _ _ _ h0⟩

set_option maxHeartbeats 1000000 in
set_option maxRecDepth 100000 in
theorem sched5 (b : Int) (s : SchV) (w : World) (h : SchOk w s) (hb : b ≤ 1048576) (hb2 : -1 ≤ b) :
    Calls Try.prog 5 #[.int .i64 b, s.val] w fun e w' => Below w.heap.size w w' ∧ RetInt e fun r => -1 ≤ r ∧ r ≤ 1048576 := by
  obtain ⟨an, mo, ro, ea, es, ec, so, re, oa, gs, oc⟩ := s
  have h1 := h.e
  have h2 := h.el
  have h3 := h.so
  have h5 := h.o
  have h6 := h.gl
  have h7 := h.g
  simp only at h1 h2 h3 h5 h6 h7
  clear h
  simp only [SchV.val]
  have bA : Below w.heap.size w (w.alloc (.cells #[.string an, .int .i64 mo, .string ro, .slice ea es.length ec, .pointer so, .pointer re, .slice oa gs.length oc] 27)) := (Below.refl _ _).alloc (Nat.le_refl _) _
  go_enter Try.func5, Try.ntmps5
  by_cases hneg : b < 0
  · go_wp2
    go_ret
    exact ⟨bA, _, rfl, by omega, by omega⟩
  by_cases ha : (an.size : Int) ≤ b
  case neg =>
    go_wp2
    go_ret
    exact ⟨bA, _, rfl, by omega, by omega⟩
  by_cases hr : (ro.size : Int) ≤ b - an.size
  case neg =>
    go_wp2
    go_ret
    exact ⟨bA, _, rfl, by omega, by omega⟩
  go_upto_if 32 with fail
  go_cut [0] (fun v wx => wx = w.alloc (.cells #[.string an, .int .i64 mo, .string ro, .slice ea es.length ec, .pointer so, .pointer re, .slice oa gs.length oc] 27) ∧ ∃ z : Int, v = .int .i64 z ∧ 0 ≤ z ∧ z ≤ 1048576)
  case first =>
    cases so with
    | none =>
      go_wp2
      go_meet
      exact ⟨rfl, _, rfl, by omega, by omega⟩
    | some p =>
      obtain ⟨pb, po, rfl, i, d, t, -, c1, -⟩ := h3 p rfl
      have lt1 := World.block_lt_of_cell? w _ c1
      simp only at lt1
      by_cases hd : (d.size : Int) ≤ b - an.size - ro.size
      · go_wp2
        go_meet
        exact ⟨rfl, _, rfl, by omega, by omega⟩
      · go_wp2
        go_ret
        exact ⟨bA, _, rfl, by omega, by omega⟩
  case rest =>
    obtain ⟨rfl, z, rfl, hz0, hz1⟩ := hcut
    clear h3 hneg ha hr hb hb2
    go_wp2_with fail
    refine (strs12 z ea es ec _ (h1.below bA) hz1 (by omega) h2).mono ?_
    rintro e w1 ⟨rfl, r1, rfl, p1, p2⟩
    by_cases hr1 : r1 < 0
    · go_wp2
      go_ret
      exact ⟨bA, _, rfl, by omega, by omega⟩
    by_cases hr2 : (gs.length : Int) ≤ r1 / 64
    case neg =>
      go_wp2
      go_ret
      exact ⟨bA, _, rfl, by omega, by omega⟩
    have c6 : (w.alloc (.cells #[.string an, .int .i64 mo, .string ro, .slice ea es.length ec, .pointer so, .pointer re, .slice oa gs.length oc] 27)).cell? ⟨w.heap.size, 6, none⟩ = some (.slice oa gs.length oc) := by simp
    have hsz : (w.alloc (.cells #[.string an, .int .i64 mo, .string ro, .slice ea es.length ec, .pointer so, .pointer re, .slice oa gs.length oc] 27)).heap.size = w.heap.size + 1 := by simp
    have H5 : Hid (IsSegs (w.alloc (.cells #[.string an, .int .i64 mo, .string ro, .slice ea es.length ec, .pointer so, .pointer re, .slice oa gs.length oc] 27)) oa gs) := h5.below bA
    have H7 : Hid (∀ g ∈ gs, SegOk (w.alloc (.cells #[.string an, .int .i64 mo, .string ro, .slice ea es.length ec, .pointer so, .pointer re, .slice oa gs.length oc] 27)) g) := fun g hg => (h7 g hg).below bA
    clear h1 h2 h5 h7
    generalize hW : w.alloc (.cells #[.string an, .int .i64 mo, .string ro, .slice ea es.length ec, .pointer so, .pointer re, .slice oa gs.length oc] 27) = W0 at *
    clear hW
    go_wp2
    go_loopw [0, 5] (fun v i wr => ∃ (k : Nat) (z : Int), k ≤ gs.length ∧ i = .int .i64 k ∧ v = .int .i64 z ∧ 0 ≤ z ∧ z ≤ 1048576 ∧ Below W0.heap.size W0 wr) (fun _ i _ => gs.length - (intOf i).toNat)
    case atStart => exact ⟨0, _, Nat.zero_le _, rfl, rfl, by omega, by omega, Below.refl _ _⟩
    case round =>
      obtain ⟨k, z, hk, rfl, rfl, hz0, hz1, bel⟩ := hrel
      have d6 := (bel.cell (p := ⟨w.heap.size, 6, none⟩) (by simp only; omega)).trans c6
      by_cases hkl : k < gs.length
      · obtain ⟨g, hg⟩ := get_some hkl
        have ok := (H7.out g (List.mem_of_getElem? hg)).below bel
        obtain ⟨gb, go, rfl, g0, g1, g2, g3⟩ := segs_cell (H5.out.below bel) k g hg
        have HG : Hid (gs[k]? = some g) := hg
        clear hg c6
        go_wp2_with fail
        refine (seg6 z g _ ok hz1 (by omega)).mono ?_
        rintro e w2 ⟨b2, r2, rfl, q1, q2⟩
        have HB2 : Hid (Below wr.heap.size wr w2) := b2
        have z1 := bel.size
        clear b2
        by_cases hr3 : r2 < 0
        · go_wp2
          go_ret
          exact ⟨bA.trans ((bel.trans (HB2.out.mono z1)).mono (by omega)), _, rfl, by omega, by omega⟩
        · go_wp2
          go_roundw
          case rel => exact ⟨k + 1, _, by omega, by go_num, rfl, by omega, by omega, bel.trans (HB2.out.mono z1)⟩
          case measure => simp [intOf]; omega
      · go_wp2
        go_ret
        exact ⟨bA.trans (bel.mono (by omega)), _, rfl, by omega, by omega⟩
end Go.Proofs.Qxb6628220a
