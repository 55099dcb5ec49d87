/-
  The arguments, opened as the walks are told of them.
-/
import Derived.Test.Qxb6628220aFill
import Derived.ProofKit
import Derived.OpenShut
import Derived.ShutString
import Derived.ChangeOld
import Derived.SizedLaws
import Derived.SliceStrings
import Derived.Lib.SmallJoins
namespace Go.Proofs.Qxb6628220a
open Go.ChangeShapes Go.WideShapes Go.ChangeAt Go.RowKit

theorem own : ownKnob Try.prog.godebug = none := by kernel_rfl
theorem laidOut : laidOutB Try.prog = true := by kernel_rfl
theorem cells3 : Try.prog.cellsOf 3 = 1 := by kernel_rfl
theorem cells4 : Try.prog.cellsOf 4 = 1 := by kernel_rfl
theorem cells9 : Try.prog.cellsOf 9 = 1 := by kernel_rfl
theorem cells22 : Try.prog.cellsOf 22 = 1 := by kernel_rfl
theorem cells23 : Try.prog.cellsOf 23 = 1 := by kernel_rfl
theorem cells24 : Try.prog.cellsOf 24 = 1 := by kernel_rfl
theorem cells25 : Try.prog.cellsOf 25 = 1 := by kernel_rfl
theorem cells27 : Try.prog.cellsOf 27 = 7 := by kernel_rfl
theorem cells29 : Try.prog.cellsOf 29 = 4 := by kernel_rfl
theorem cells42 : Try.prog.cellsOf 42 = 3 := by kernel_rfl
theorem cells57 : Try.prog.cellsOf 57 = 1 := by kernel_rfl

variable {H : Type} {enc : TypeId × Value → H} {W : World} {base fuel : Nat} {x : DataW H × List MemPlace}

theorem open_strs {v : Value} (h : DataW.trod enc Try.prog W base (fun _ => true) true fuel 22 [v] = some x) :
    ∃ (a : Option Addr) (ss : List ByteArray) (cap : Nat), v = .slice a ss.length cap ∧ IsStrs W a ss ∧ ss.length ≤ 9223372036854775807 := by
  rcases open_strings Try.underlying22 Try.underlying9 cells9 h with ⟨hcs, _⟩ | ⟨ad, len, cap, ss, hcs, _, hl, hm, hz, hx, hcell, _⟩
  · simp at hcs
    subst hcs
    exact ⟨none, [], 0, rfl, .inl rfl, by simp⟩
  · simp at hcs
    subst hcs
    simp at hz
    have hlen : (ss.take len).length = len := by simp; omega
    refine ⟨some ad, ss.take len, cap, by rw [hlen], ?_, by rw [hlen]; unfold maxLen at hm; omega⟩
    by_cases h0 : len = 0
    · exact .inl (by rw [h0]; simp)
    · obtain ⟨b, off, spot⟩ := ad
      have h00 := hcell 0 (by omega)
      have hspot : spot = none := by simpa [Addr.add] using World.cell?_spot h00
      subst hspot
      have hb : b < W.heap.size := by
        have := World.block_lt_of_cell? W _ h00
        simpa [Addr.add] using this
      refine .inr ⟨b, off, rfl, hb, fun j s hs => ?_⟩
      rw [List.getElem?_take] at hs
      split at hs
      · have hj := (List.getElem?_eq_some_iff.1 hs).1
        have := hcell j hj
        rw [Go.WideShapes.add_plain] at this
        rw [this]
        simp [hs]
      · cases hs

theorem open_seg {cs : List Value} (h : DataW.trod enc Try.prog W base (fun _ => true) true fuel 29 cs = some x) :
    ∃ g : SegV, cs = [.int .i64 g.s, .int .i64 g.b, .slice g.ra g.rs.length g.rc, .slice g.sa g.ss.length g.sc] ∧ SegOk W g := by
  obtain ⟨xs, n, _, _, hlen, hxl, hf⟩ := DataW.trod_struct Try.underlying29 h
  rw [cells29] at hlen
  match xs, hxl, cs, hlen with
  | [y0, y1, y2, y3], _, [v0, v1, v2, v3], _ =>
    have h0 := hf 0 _ rfl
    have h1 := hf 1 _ rfl
    have h2 := hf 2 _ rfl
    have h3 := hf 3 _ rfl
    simp [cells3, cells22] at h0 h1 h2 h3
    obtain ⟨i0, e0, _⟩ := DataW.trod_int Try.underlying3 h0
    obtain ⟨i1, e1, _⟩ := DataW.trod_int Try.underlying3 h1
    obtain ⟨ra, rs, rc, e2, r1, r2⟩ := open_strs h2
    obtain ⟨sa, ss, sc, e3, q1, q2⟩ := open_strs h3
    simp at e0 e1
    subst e0
    subst e1
    subst e2
    subst e3
    exact ⟨⟨i0, i1, ra, rs, rc, sa, ss, sc⟩, rfl, r1, q1, r2, q2⟩

theorem list_of_each {α : Type} (p : Nat → α → Prop) : ∀ len, (∀ i, i < len → ∃ g, p i g) → ∃ gs : List α, gs.length = len ∧ ∀ (i : Nat) g, gs[i]? = some g → p i g
  | 0, _ => ⟨[], rfl, by simp⟩
  | m + 1, each => by
    obtain ⟨gs, hl, hg⟩ := list_of_each p m (fun i hi => each i (by omega))
    obtain ⟨g, hm⟩ := each m (by omega)
    refine ⟨gs ++ [g], by simp [hl], fun i g' hi => ?_⟩
    by_cases e : i < m
    · rw [List.getElem?_append_left (by omega)] at hi
      exact hg i g' hi
    · have hlt := (List.getElem?_eq_some_iff.1 hi).1
      simp at hlt
      have : i = m := by omega
      subst this
      rw [List.getElem?_append_right (by omega), hl] at hi
      simp at hi
      subst hi
      exact hm

theorem open_segs {v : Value} (h : DataW.trod enc Try.prog W base (fun _ => true) true fuel 25 [v] = some x) :
    ∃ (a : Option Addr) (gs : List SegV) (cap : Nat), v = .slice a gs.length cap ∧ IsSegs W a gs ∧ gs.length ≤ 9223372036854775807 ∧ ∀ g ∈ gs, SegOk W g := by
  rcases DataW.trod_slice Try.underlying25 h with ⟨hcs, _⟩ | ⟨ad, len, cap, elems, rest, n, _, hcs, _, _, hl, hm, hlen, hel, _, _⟩
  · simp at hcs
    subst hcs
    exact ⟨none, [], 0, rfl, .inl rfl, by simp, by simp⟩
  · simp at hcs
    subst hcs
    have each : ∀ i, i < len → ∃ g : SegV, W.cells? base (ad.add (i * 4)) 4 = some [.int .i64 g.s, .int .i64 g.b, .slice g.ra g.rs.length g.rc, .slice g.sa g.ss.length g.sc] ∧ SegOk W g := fun i hi => by
      have hi' := hel i hi
      rw [cells29, List.getElem?_eq_getElem (by omega)] at hi'
      obtain ⟨cs', h1, h2⟩ := Option.bind_eq_some_iff.1 hi'
      obtain ⟨g, e, ok⟩ := open_seg h2
      exact ⟨g, by rw [h1, e], ok⟩
    obtain ⟨gs, hgl, hgs⟩ : ∃ gs : List SegV, gs.length = len ∧ ∀ (i : Nat) g, gs[i]? = some g → W.cells? base (ad.add (i * 4)) 4 = some [.int .i64 g.s, .int .i64 g.b, .slice g.ra g.rs.length g.rc, .slice g.sa g.ss.length g.sc] ∧ SegOk W g := by
      exact list_of_each _ len each
    refine ⟨some ad, gs, cap, by rw [hgl], ?_, by rw [hgl]; unfold maxLen at hm; omega, fun g hg => ?_⟩
    · by_cases h0 : gs = []
      · exact .inl h0
      · have hpos : 0 < gs.length := List.length_pos_iff.2 h0
        obtain ⟨g0, hg0⟩ := get_some hpos
        obtain ⟨b, off, spot⟩ := ad
        have hc0 := (World.cells?_some (hgs 0 g0 hg0).1).2.2 0
        simp [Addr.add] at hc0
        have hspot : spot = none := World.cell?_spot hc0
        subst hspot
        refine .inr ⟨b, off, rfl, World.block_lt_of_cell? W _ hc0, fun j g hj => ?_⟩
        have hc := (World.cells?_some (hgs j g hj).1).2.2
        have k0 := hc 0 (by omega)
        have k1 := hc 1 (by omega)
        have k2 := hc 2 (by omega)
        have k3 := hc 3 (by omega)
        simp only [Go.WideShapes.add_plain] at k0 k1 k2 k3
        exact ⟨k0, k1, k2, k3⟩
    · obtain ⟨i, hi⟩ := List.getElem?_of_mem hg
      exact (hgs i g hi).2

theorem open_senior {v : Value} (h : DataW.trod enc Try.prog W base (fun _ => true) true fuel 23 [v] = some x) :
    ∃ so : Option Addr, v = .pointer so ∧ ∀ p, so = some p → ∃ b off, p = ⟨b, off, none⟩ ∧ ∃ (i : Int) (d : ByteArray) (t : Bool), W.cell? ⟨b, off, none⟩ = some (.int .i64 i) ∧ W.cell? ⟨b, off + 1, none⟩ = some (.string d) ∧ W.cell? ⟨b, off + 2, none⟩ = some (.bool t) := by
  rcases DataW.trod_pointer Try.underlying23 h with ⟨hcs, _⟩ | ⟨ad, cs', y, n, _, hcs, _, hc, ht⟩
  · simp at hcs
    exact ⟨none, hcs, fun p hp => by cases hp⟩
  · simp at hcs
    refine ⟨some ad, hcs, fun p hp => ?_⟩
    cases hp
    obtain ⟨xs, m, _, _, hlen, hxl, hf⟩ := DataW.trod_struct Try.underlying42 ht
    rw [cells42] at hlen hc
    match xs, hxl, cs', hlen with
    | [y0, y1, y2], _, [v0, v1, v2], _ =>
      have h0 := hf 0 _ rfl
      have h1 := hf 1 _ rfl
      have h2 := hf 2 _ rfl
      simp [cells3, cells9, cells4] at h0 h1 h2
      obtain ⟨i0, e0, _⟩ := DataW.trod_int Try.underlying3 h0
      obtain ⟨d, e1, _⟩ := DataW.trod_string Try.underlying9 h1
      obtain ⟨t, e2, _⟩ := DataW.trod_bool Try.underlying4 h2
      simp at e0 e1 e2
      subst e0
      subst e1
      subst e2
      obtain ⟨b, off, spot⟩ := ad
      have hcc := (World.cells?_some hc).2.2
      have k0 := hcc 0 (by omega)
      have hspot : spot = none := by simp [Addr.add] at k0; exact World.cell?_spot k0
      subst hspot
      have k1 := hcc 1 (by omega)
      have k2 := hcc 2 (by omega)
      simp only [Go.WideShapes.add_plain] at k0 k1 k2
      exact ⟨b, off, rfl, i0, d, t, k0, k1, k2⟩

theorem open_residual {v : Value} (h : DataW.trod enc Try.prog W base (fun _ => true) true fuel 24 [v] = some x) :
    ∃ so : Option Addr, v = .pointer so ∧ ∀ p, so = some p → ∃ b off, p = ⟨b, off, none⟩ ∧ ∃ i : Int, W.cell? ⟨b, off, none⟩ = some (.int .i64 i) := by
  rcases DataW.trod_pointer Try.underlying24 h with ⟨hcs, _⟩ | ⟨ad, cs', y, n, _, hcs, _, hc, ht⟩
  · simp at hcs
    exact ⟨none, hcs, fun p hp => by cases hp⟩
  · simp at hcs
    refine ⟨some ad, hcs, fun p hp => ?_⟩
    cases hp
    obtain ⟨xs, m, _, _, hlen, hxl, hf⟩ := DataW.trod_struct Try.underlying57 ht
    rw [cells57] at hlen hc
    match xs, hxl, cs', hlen with
    | [y0], _, [v0], _ =>
      have h0 := hf 0 _ rfl
      simp [cells3] at h0
      obtain ⟨i0, e0, _⟩ := DataW.trod_int Try.underlying3 h0
      simp at e0
      subst e0
      obtain ⟨b, off, spot⟩ := ad
      have k0 := (World.cells?_some hc).2.2 0 (by omega)
      have hspot : spot = none := by simp [Addr.add] at k0; exact World.cell?_spot k0
      subst hspot
      simp only [Go.WideShapes.add_plain] at k0
      exact ⟨b, off, rfl, i0, k0⟩

theorem open_sch {cs : List Value} (h : DataW.trod enc Try.prog W base (fun _ => true) true fuel 27 cs = some x) :
    ∃ s : SchV, cs = [.string s.an, .int .i64 s.mo, .string s.ro, .slice s.ea s.es.length s.ec, .pointer s.so, .pointer s.re, .slice s.oa s.gs.length s.oc] ∧ SchOk W s := by
  obtain ⟨xs, n, _, _, hlen, hxl, hf⟩ := DataW.trod_struct Try.underlying27 h
  rw [cells27] at hlen
  match xs, hxl, cs, hlen with
  | [y0, y1, y2, y3, y4, y5, y6], _, [v0, v1, v2, v3, v4, v5, v6], _ =>
    have h0 := hf 0 _ rfl
    have h1 := hf 1 _ rfl
    have h2 := hf 2 _ rfl
    have h3 := hf 3 _ rfl
    have h4 := hf 4 _ rfl
    have h5 := hf 5 _ rfl
    have h6 := hf 6 _ rfl
    simp [cells3, cells9, cells22, cells23, cells24, cells25] at h0 h1 h2 h3 h4 h5 h6
    obtain ⟨an, e0, _⟩ := DataW.trod_string Try.underlying9 h0
    obtain ⟨mo, e1, _⟩ := DataW.trod_int Try.underlying3 h1
    obtain ⟨ro, e2, _⟩ := DataW.trod_string Try.underlying9 h2
    obtain ⟨ea, es, ec, e3, r1, r2⟩ := open_strs h3
    obtain ⟨so, e4, r3⟩ := open_senior h4
    obtain ⟨re, e5, r4⟩ := open_residual h5
    obtain ⟨oa, gs, oc, e6, r5, r6, r7⟩ := open_segs h6
    simp at e0 e1 e2
    subst e0
    subst e1
    subst e2
    subst e3
    subst e4
    subst e5
    subst e6
    exact ⟨⟨an, mo, ro, ea, es, ec, so, re, oa, gs, oc⟩, rfl, r1, r2, r3, r4, r5, r6, r7⟩

end Go.Proofs.Qxb6628220a
