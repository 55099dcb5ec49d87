/-
  Rows of segments that the law lays; the two structs that it holds.
-/
import Derived.Test.Qxb6628220aMake
import Derived.Test.Qxb6628220aLast
import Derived.Deep.MidRow
namespace Go.Proofs.Qxb6628220a
open Go.RowKit

theorem cell_of {w : World} {b o : Nat} {c : Array Value} {e : TypeId} {v : Value} (h : w.heap[b]? = some (.cells c e (0, 0))) (hc : c[o]? = some v) : w.cell? ⟨b, o, none⟩ = some v := by
  simp [World.cell?, h, hc]
theorem free_of {w : World} {b o : Nat} {c : Array Value} {e : TypeId} (h : w.heap[b]? = some (.cells c e (0, 0))) : w.frozen? ⟨b, o, none⟩ = false := by
  simp [World.frozen?, h]
theorem setCell_heap {w : World} {t i : Nat} {c : Array Value} {e : TypeId} {f : Nat × Nat} (h : w.heap[t]? = some (.cells c e f)) (u : Value) : (w.setCell ⟨t, i, none⟩ u).heap[t]? = some (.cells (c.setIfInBounds i u) e f) := by
  simp [World.setCell, Array.getElem?_modify, h]
theorem info34 : (Try.prog.info? 34).map (fun i => (i.zero, i.size, i.bytes)) = some (some (.agg #[.int .i64 0, .int .i64 0, .slice none 0 0, .slice none 0 0]), 4, 64) := by kernel_rfl

/-- 'make' of n elements. -/
theorem made_row (t e size bytes : Nat) (z : Value) (ht : Try.prog.underlying t = some (.slice e)) (hi : (Try.prog.info? e).map (fun i => (i.zero, i.size, i.bytes)) = some (some z, size, bytes))
    (n : Nat) (hb : bytes * n ≤ 281474976710656) (hn : n ≤ 140737488351232) :
    ∃ c0 : Array Value, c0.size = n * size ∧
      ∀ W : World, (Instr.makeSlice t (.int .i64 (n : Int)) (.int .i64 (n : Int))).run Try.prog W = .ok (.slice (some ⟨W.heap.size, 0, none⟩) n n) (W.alloc (.cells c0 e)) := by
  obtain ⟨i, hi', hz0, hz1, hz2⟩ := info_parts hi
  clear hi
  subst hz1
  subst hz2
  refine ⟨madeCells z.cells (n * i.size), size_madeCells _ _, fun W => ?_⟩
  have h := run_make (P := Try.prog) W t e i z ht hi' hz0 .i64 .i64 (n : Int) (n : Int) (by omega) (Int.le_refl _) (by omega) (by omega)
  simpa using h

/-- The first k segments lie in the row. -/
def SegsIn (cur : Array Value) (ts : List SegV) (k : Nat) : Prop := ∀ (j : Nat) g, j < k → ts[j]? = some g →
  cur[j * 4]? = some (.int .i64 g.s) ∧ cur[j * 4 + 1]? = some (.int .i64 g.b) ∧ cur[j * 4 + 2]? = some (.slice g.ra g.rs.length g.rc) ∧ cur[j * 4 + 3]? = some (.slice g.sa g.ss.length g.sc)

theorem SegsIn.step {cur : Array Value} {ts : List SegV} {k : Nat} {g : SegV} (h : SegsIn cur ts k) (hg : ts[k]? = some g) (hlt : k * 4 + 3 < cur.size) :
    SegsIn ((((cur.setIfInBounds (k * 4) (.int .i64 g.s)).setIfInBounds (k * 4 + 1) (.int .i64 g.b)).setIfInBounds (k * 4 + 2) (.slice g.ra g.rs.length g.rc)).setIfInBounds (k * 4 + 3) (.slice g.sa g.ss.length g.sc)) ts (k + 1) := by
  intro j g' hj hg'
  by_cases e : j = k
  · subst e
    rw [hg] at hg'
    cases hg'
    refine ⟨?_, ?_, ?_, ?_⟩
    · rw [Array.getElem?_setIfInBounds_ne (by omega), Array.getElem?_setIfInBounds_ne (by omega), Array.getElem?_setIfInBounds_ne (by omega), Array.getElem?_setIfInBounds_self_of_lt (by omega)]
    · rw [Array.getElem?_setIfInBounds_ne (by omega), Array.getElem?_setIfInBounds_ne (by omega), Array.getElem?_setIfInBounds_self_of_lt (by simp; omega)]
    · rw [Array.getElem?_setIfInBounds_ne (by omega), Array.getElem?_setIfInBounds_self_of_lt (by simp; omega)]
    · rw [Array.getElem?_setIfInBounds_self_of_lt (by simp; omega)]
  · obtain ⟨h0, h1, h2, h3⟩ := h j g' (by omega) hg'
    refine ⟨?_, ?_, ?_, ?_⟩
    · rw [Array.getElem?_setIfInBounds_ne (by omega), Array.getElem?_setIfInBounds_ne (by omega), Array.getElem?_setIfInBounds_ne (by omega), Array.getElem?_setIfInBounds_ne (by omega)]; exact h0
    · rw [Array.getElem?_setIfInBounds_ne (by omega), Array.getElem?_setIfInBounds_ne (by omega), Array.getElem?_setIfInBounds_ne (by omega), Array.getElem?_setIfInBounds_ne (by omega)]; exact h1
    · rw [Array.getElem?_setIfInBounds_ne (by omega), Array.getElem?_setIfInBounds_ne (by omega), Array.getElem?_setIfInBounds_ne (by omega), Array.getElem?_setIfInBounds_ne (by omega)]; exact h2
    · rw [Array.getElem?_setIfInBounds_ne (by omega), Array.getElem?_setIfInBounds_ne (by omega), Array.getElem?_setIfInBounds_ne (by omega), Array.getElem?_setIfInBounds_ne (by omega)]; exact h3

/-- A row that is filled, its first k segments laid. -/
structure RowRel (w wr : World) (ts : List SegV) (k : Nat) : Prop where
  row : ∃ cur, wr.heap[w.heap.size]? = some (.cells cur 34 (0, 0)) ∧ cur.size = ts.length * 4 ∧ SegsIn cur ts k
  below : Below w.heap.size w wr
theorem RowRel.size {w wr : World} {ts : List SegV} {k : Nat} (h : RowRel w wr ts k) : w.heap.size < wr.heap.size := by
  obtain ⟨cur, hc, _⟩ := h.row
  exact (Array.getElem?_eq_some_iff.1 hc).1
theorem RowRel.start (w : World) (c0 : Array Value) (ts : List SegV) (h : c0.size = ts.length * 4) : RowRel w (w.alloc (.cells c0 34)) ts 0 :=
  ⟨⟨c0, heap_alloc_new _ _, h, fun j g hj => by omega⟩, (Below.refl _ _).alloc (Nat.le_refl _) _⟩
theorem RowRel.grow {w wr w2 : World} {ts : List SegV} {k : Nat} (h : RowRel w wr ts k) (hb : Below wr.heap.size wr w2) : RowRel w w2 ts k := by
  have hz := h.size
  obtain ⟨cur, hc, hs, hi⟩ := h.row
  exact ⟨⟨cur, (hb.block _ hz).trans hc, hs, hi⟩, h.below.trans (hb.mono h.below.size)⟩
theorem RowRel.step {w w2 : World} {ts : List SegV} {k : Nat} {g : SegV} (h : RowRel w w2 ts k) (hg : ts[k]? = some g) :
    RowRel w ((((w2.setCell ⟨w.heap.size, k * 4, none⟩ (.int .i64 g.s)).setCell ⟨w.heap.size, k * 4 + 1, none⟩ (.int .i64 g.b)).setCell ⟨w.heap.size, k * 4 + 2, none⟩ (.slice g.ra g.rs.length g.rc)).setCell ⟨w.heap.size, k * 4 + 3, none⟩ (.slice g.sa g.ss.length g.sc)) ts (k + 1) := by
  obtain ⟨cur, hc, hs, hi⟩ := h.row
  have hk := (List.getElem?_eq_some_iff.1 hg).1
  exact ⟨⟨_, setCell_heap (setCell_heap (setCell_heap (setCell_heap hc _) _) _) _, by simpa using hs, hi.step hg (by omega)⟩,
    (((h.below.setCell (Nat.le_refl _) _).setCell (Nat.le_refl _) _).setCell (Nat.le_refl _) _).setCell (Nat.le_refl _) _⟩
/-- What the store wants of the cells. -/
theorem RowRel.cells {w wr : World} {ts : List SegV} {k j : Nat} (h : RowRel w wr ts k) (hj : j < ts.length) : ∃ v0 v1 v2 v3, wr.cell? ⟨w.heap.size, j * 4, none⟩ = some v0 ∧ wr.cell? ⟨w.heap.size, j * 4 + 1, none⟩ = some v1 ∧ wr.cell? ⟨w.heap.size, j * 4 + 2, none⟩ = some v2 ∧ wr.cell? ⟨w.heap.size, j * 4 + 3, none⟩ = some v3 ∧ ∀ o, wr.frozen? ⟨w.heap.size, o, none⟩ = false := by
  obtain ⟨cur, hc, hs, hi⟩ := h.row
  exact ⟨_, _, _, _, cell_of hc (Array.getElem?_eq_getElem (show j * 4 < cur.size by omega)), cell_of hc (Array.getElem?_eq_getElem (show j * 4 + 1 < cur.size by omega)), cell_of hc (Array.getElem?_eq_getElem (show j * 4 + 2 < cur.size by omega)), cell_of hc (Array.getElem?_eq_getElem (show j * 4 + 3 < cur.size by omega)), fun o => free_of hc⟩
/-- The store of a whole segment into the row, and what then stands there. -/
theorem wpList_laid {ops : Array Oper} {rest : List Oper} {op : Oper} {a : Act} {Q : Exit → Act → World → Prop} {w w2 : World} {ts : List SegV} {k : Nat} {s b : Int} {ra : Option Addr} {rs : List ByteArray} {rc : Nat} {sa : Option Addr} {ss : List ByteArray} {sc : Nat} (hgd : op.guard = none) (x y : Operand) (ho : op.op = .store 34 x y)
    (h : RowRel w w2 ts k) (hg : ts[k]? = some ⟨s, b, ra, rs, rc, sa, ss, sc⟩) (hx : a.eval x = .pointer (some ⟨w.heap.size, k * 4, none⟩)) (hy : a.eval y = .agg #[.int .i64 s, .int .i64 b, .slice ra rs.length rc, .slice sa ss.length sc])
    (hK : ∀ w3, RowRel w w3 ts (k + 1) → wpList Try.prog ops Q rest (a.put op.dst undef) w3) : wpList Try.prog ops Q (op :: rest) a w2 := by
  have hk := (List.getElem?_eq_some_iff.1 hg).1
  obtain ⟨cur, hc, hs, hi⟩ := h.row
  refine wpList_store_mid hgd 34 x y ho w.heap.size (k * 4) _ hx hy (fun j hj => ?_) (by kernel_rfl) (by simp [Value.oneCell']) (hK _ ?_)
  · have hj' : j < 4 := hj
    rw [cell_of hc (Array.getElem?_eq_getElem (show k * 4 + j < cur.size by omega))]
    exact ⟨rfl, free_of hc⟩
  · have e := h.step hg
    simp only [World.setCells, Nat.add_assoc, Nat.reduceAdd]
    exact e
theorem RowRel.segs {w wr : World} {ts : List SegV} (h : RowRel w wr ts ts.length) : IsSegs wr (some ⟨w.heap.size, 0, none⟩) ts := by
  obtain ⟨cur, hc, hs, hi⟩ := h.row
  refine .inr ⟨w.heap.size, 0, rfl, h.size, fun j g hg => ?_⟩
  obtain ⟨h0, h1, h2, h3⟩ := hi j g (List.getElem?_eq_some_iff.1 hg).1 hg
  rw [Nat.zero_add]
  exact ⟨cell_of hc h0, cell_of hc h1, cell_of hc h2, cell_of hc h3⟩

/-- The two structs that the law holds: block B and the one behind it. -/
structure Loc (B : Nat) (W : World) (s : SchV) (g : SegV) : Prop where
  s0 : W.cell? ⟨B, 0, none⟩ = some (.string s.an)
  s1 : W.cell? ⟨B, 1, none⟩ = some (.int .i64 s.mo)
  s2 : W.cell? ⟨B, 2, none⟩ = some (.string s.ro)
  s3 : W.cell? ⟨B, 3, none⟩ = some (.slice s.ea s.es.length s.ec)
  s4 : W.cell? ⟨B, 4, none⟩ = some (.pointer s.so)
  s5 : W.cell? ⟨B, 5, none⟩ = some (.pointer s.re)
  s6 : W.cell? ⟨B, 6, none⟩ = some (.slice s.oa s.gs.length s.oc)
  t0 : W.cell? ⟨B + 1, 0, none⟩ = some (.int .i64 g.s)
  t1 : W.cell? ⟨B + 1, 1, none⟩ = some (.int .i64 g.b)
  t2 : W.cell? ⟨B + 1, 2, none⟩ = some (.slice g.ra g.rs.length g.rc)
  t3 : W.cell? ⟨B + 1, 3, none⟩ = some (.slice g.sa g.ss.length g.sc)
  ok : SchOk W s
  og : SegOk W g
theorem Loc.below {B : Nat} {W W' : World} {s : SchV} {g : SegV} (h : Loc B W s g) (hb : Below W.heap.size W W') : Loc B W' s g := by
  have keep : ∀ {b o : Nat} {v : Value}, W.cell? ⟨b, o, none⟩ = some v → W'.cell? ⟨b, o, none⟩ = some v := fun {b o v} hc => (hb.cell (p := ⟨b, o, none⟩) (World.block_lt_of_cell? W _ hc)).trans hc
  exact ⟨keep h.s0, keep h.s1, keep h.s2, keep h.s3, keep h.s4, keep h.s5, keep h.s6, keep h.t0, keep h.t1, keep h.t2, keep h.t3, h.ok.below hb, h.og.below hb⟩
theorem Loc.start {w : World} {s : SchV} {g : SegV} (h : SchOk w s) (hg : SegOk w g) (a b : Array Value) (ha : s.val = .agg a) (hb : g.val = .agg b) : Loc w.heap.size ((w.alloc (.cells a 27)).alloc (.cells b 29)) s g := by
  simp only [SchV.val, SegV.val, Value.agg.injEq] at ha hb
  subst ha
  subst hb
  have bA : Below w.heap.size w ((w.alloc (.cells #[.string s.an, .int .i64 s.mo, .string s.ro, .slice s.ea s.es.length s.ec, .pointer s.so, .pointer s.re, .slice s.oa s.gs.length s.oc] 27)).alloc (.cells #[.int .i64 g.s, .int .i64 g.b, .slice g.ra g.rs.length g.rc, .slice g.sa g.ss.length g.sc] 29)) := ((Below.refl _ _).alloc (Nat.le_refl _) _).alloc (by simp) _
  exact ⟨by simp, by simp, by simp, by simp, by simp, by simp, by simp, by simp, by simp, by simp, by simp, h.below bA, hg.below bA⟩

/-- The segments, one put in at k. -/
def insAt (gs : List SegV) (k : Nat) (g : SegV) : List SegV := gs.take k ++ g :: gs.drop k
theorem insAt_len {gs : List SegV} {k : Nat} {g : SegV} (h : k ≤ gs.length) : (insAt gs k g).length = gs.length + 1 := by simp [insAt]; omega
theorem insAt_lo {gs : List SegV} {k i : Nat} {g x : SegV} (h : i < k) (hx : gs[i]? = some x) : (insAt gs k g)[i]? = some x := by
  have := (List.getElem?_eq_some_iff.1 hx).1
  rw [insAt, List.getElem?_append_left (by simp; omega), List.getElem?_take, if_pos h]; exact hx
theorem insAt_at {gs : List SegV} {k : Nat} {g : SegV} (h : k ≤ gs.length) : (insAt gs k g)[k]? = some g := by
  rw [insAt, List.getElem?_append_right (by simp; omega)]
  simp [Nat.min_eq_left h]
theorem insAt_hi {gs : List SegV} {k i : Nat} {g x : SegV} (h : k ≤ i) (hx : gs[i]? = some x) : (insAt gs k g)[i + 1]? = some x := by
  have hi := (List.getElem?_eq_some_iff.1 hx).1
  rw [insAt, List.getElem?_append_right (by simp; omega), List.length_take, Nat.min_eq_left (by omega), show i + 1 - k = (i - k) + 1 by omega, List.getElem?_cons_succ, List.getElem?_drop, show k + (i - k) = i by omega]
  exact hx
theorem insAt_mem {gs : List SegV} {k : Nat} {g x : SegV} (h : x ∈ insAt gs k g) : x ∈ gs ∨ x = g := by
  rw [insAt, List.mem_append, List.mem_cons] at h
  rcases h with h | h | h
  · exact .inl (List.mem_of_mem_take h)
  · exact .inr h
  · exact .inl (List.mem_of_mem_drop h)
/-- The law's own sum. -/
theorem last_ins {gs : List SegV} {k : Nat} {g : SegV} (c : ByteArray) (h : k ≤ gs.length) :
    lastTo (hit (insAt gs k g) c) (gs.length + 1) = if (k : Int) ≤ lastTo (hit gs c) gs.length then lastTo (hit gs c) gs.length + 1 else if hasB g.ss c then (k : Int) else lastTo (hit gs c) gs.length := by
  have lo : ∀ i, i < k → hit (insAt gs k g) c i = hit gs c i := fun i hi => by
    obtain ⟨x, hx⟩ := get_some (show i < gs.length by omega)
    rw [hit_of hx, hit_of (insAt_lo hi hx)]
  have hi : ∀ i, k ≤ i → hit (insAt gs k g) c (i + 1) = hit gs c i := fun i hi => by
    by_cases hl : i < gs.length
    · obtain ⟨x, hx⟩ := get_some hl
      rw [hit_of hx, hit_of (insAt_hi hi hx)]
    · rw [hit, hit, List.getElem?_eq_none (show gs.length ≤ i by omega), List.getElem?_eq_none (show (insAt gs k g).length ≤ i + 1 by rw [insAt_len h]; omega)]
  have e := lastTo_insert (hit gs c) (hit (insAt gs k g) c) k lo hi (gs.length - k)
  rw [show k + (gs.length - k) = gs.length by omega, hit_of (insAt_at h)] at e
  exact e

end Go.Proofs.Qxb6628220a
