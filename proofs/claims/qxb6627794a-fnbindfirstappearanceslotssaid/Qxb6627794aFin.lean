/-
  FnBindSplitAgrees: what holds of memory once the three filters are bound.
-/
import Derived.Test.Qxb6627794aBind
import Derived.Laws.CopyOwn
namespace Go.Proofs.Qxb6627794a
open Go.RowKit Go.Maps

/-- A table, whatever blocks it owns. -/
def TabR (w : World) (t : Nat) (ks : List ByteArray) (cs : List Nat) : Prop := ∃ S, Tab S w t ks cs ∧ ∀ b, S b → b < w.heap.size

theorem TabR.below {w w' : World} {B t : Nat} {ks : List ByteArray} {cs : List Nat} (h : TabR w t ks cs) (hb : Below B w w') (hB : w.heap.size ≤ B) : TabR w' t ks cs := by
  obtain ⟨S, T, hS⟩ := h
  exact ⟨S, T.kept fun b hlt _ => hb.block b (by omega), fun b h => by have := hS b h; have := hb.size; omega⟩

structure Fin4 (wc w : World) (a : Option Addr) (tw tp gw g1 g2 : Nat) (ss : List ByteArray) (c : Nat) : Prop where
  below : Below wc.heap.size wc w
  strs : IsStrs w a ss
  tabw : TabR w tw (bdK [] ss) (bdC [] [] ss)
  tabp : TabR w tp (bdK [] ss) (bdC [] [] ss)
  rw_ : w.heap[gw]? = some (.cells (c32 (bdS [] ss)).toArray 21 (0, 0))
  r1 : w.heap[g1]? = some (.cells (c32 (bdS [] (ss.take c))).toArray 21 (0, 0))
  r2 : w.heap[g2]? = some (.cells (c32 (bdS (bdK [] (ss.take c)) (ss.drop c))).toArray 21 (0, 0))

theorem heap_below {w w' : World} {b : Nat} {o : Obj} (h : w.heap[b]? = some o) (hb : Below w.heap.size w w') : w'.heap[b]? = some o :=
  (hb.block b (Array.getElem?_eq_some_iff.1 h).1).trans h

theorem Fin4.step {wc w w' : World} {a : Option Addr} {tw tp gw g1 g2 : Nat} {ss : List ByteArray} {c : Nat} (h : Fin4 wc w a tw tp gw g1 g2 ss c) (hb : Below w.heap.size w w') : Fin4 wc w' a tw tp gw g1 g2 ss c :=
  ⟨h.below.trans (hb.mono h.below.size), h.strs.below hb, h.tabw.below hb (Nat.le_refl _), h.tabp.below hb (Nat.le_refl _), heap_below h.rw_ hb, heap_below h.r1 hb, heap_below h.r2 hb⟩

theorem IsStrs.take {w : World} {a : Option Addr} {ss : List ByteArray} (h : IsStrs w a ss) (c : Nat) : IsStrs w a (ss.take c) := by
  rcases h with rfl | ⟨b, off, e, hlt, hc⟩
  · exact .inl (by simp)
  · refine .inr ⟨b, off, e, hlt, fun j s hs => hc j s ?_⟩
    rw [List.getElem?_take] at hs
    split at hs
    · exact hs
    · cases hs

theorem IsStrs.drop {w : World} {a : Option Addr} {ss : List ByteArray} (h : IsStrs w a ss) (c : Nat) (a' : Option Addr) (ha : c < ss.length → a' = a.map (·.add c)) : IsStrs w a' (ss.drop c) := by
  by_cases hc : c < ss.length
  · rcases h with rfl | ⟨b, off, e, hlt, hcell⟩
    · simp at hc
    · refine .inr ⟨b, off + c, ?_, hlt, fun j s hs => ?_⟩
      · rw [ha hc, e]
        simp [Addr.add]
      · rw [List.getElem?_drop] at hs
        rw [Nat.add_assoc]
        exact hcell (c + j) s hs
  · exact .inl (List.drop_eq_nil_of_le (by omega))

theorem Prepd.below {w w' : World} {p : Nat} {ss : List ByteArray} (h : Prepd w w' p ss) : Below w.heap.size w w' := by
  obtain ⟨_, _, _, h, _⟩ := h; exact h

/-- Everything between the first Bind and the end of the third. -/
theorem fin4 {wc W0 W1 W2 W5 W6 W8 W9 : World} {a : Option Addr} {p1 p2 p3 tw gw g1 g2 : Nat} {ss : List ByteArray} {c : Nat} {x0 x1 x2 y0 y1 y2 : Value} {Z : Array Value} (hs : IsStrs wc a ss) (d0 : Below wc.heap.size wc W0) (htw : tw = wc.heap.size)
    (P1 : Prepd W0 W1 p1 ss) (B1 : Bound (fun b => b = tw) W1 W2 tw gw [] [] ss)
    (P2 : Prepd ((W2.alloc (.cells #[x0, x1, x2] 35)).alloc (.cells Z 31)) W5 p2 (ss.take c)) (B2 : Bound (fun b => b = W2.heap.size + 1) W5 W6 (W2.heap.size + 1) g1 [] [] (ss.take c))
    (P3 : Prepd (W6.alloc (.cells #[y0, y1, y2] 35)) W8 p3 (ss.drop c)) (B3 : Bound (fun b => (b = W2.heap.size + 1 ∨ W5.heap.size ≤ b) ∧ b ≠ g1 ∧ b < W6.heap.size) W8 W9 (W2.heap.size + 1) g2 (bdK [] (ss.take c)) (bdC [] [] (ss.take c)) (ss.drop c)) :
    Fin4 wc W9 a tw (W2.heap.size + 1) gw g1 g2 ss c ∧ W9.heap[W2.heap.size]? = some (.cells #[x0, x1, x2] 35 (0, 0)) ∧ W9.heap[W6.heap.size]? = some (.cells #[y0, y1, y2] 35 (0, 0)) := by
  have z2 := P2.below.size
  have z5 := B2.fr.size
  have z8 := P3.below.size
  have z9 := B3.fr.size
  simp at z2 z8
  -- from W3 on
  have k2 : Below W2.heap.size W2 (W2.alloc (.cells #[x0, x1, x2] 35)) := (Below.refl _ _).alloc (Nat.le_refl _) _
  have k3 : Below (W2.alloc (.cells #[x0, x1, x2] 35)).heap.size (W2.alloc (.cells #[x0, x1, x2] 35)) W5 :=
    ((Below.refl _ _).alloc (Nat.le_refl _) (.cells Z 31)).trans (P2.below.mono (by simp))
  have k5 : Below (W2.heap.size + 1) W5 W6 := B2.fr.below (by omega) fun b h => by omega
  have k6 : Below W6.heap.size W6 W8 := ((Below.refl _ _).alloc (Nat.le_refl _) (.cells #[y0, y1, y2] 35)).trans (P3.below.mono (by simp))
  have k8 : Below (W2.heap.size + 1) W8 W9 := B3.fr.below (by omega) fun b h => by omega
  have s3 : (W2.alloc (.cells #[x0, x1, x2] 35)).heap.size = W2.heap.size + 1 := by simp
  rw [s3] at k3
  have k39 : Below (W2.heap.size + 1) (W2.alloc (.cells #[x0, x1, x2] 35)) W9 := k3.trans (k5.trans ((k6.mono (by omega)).trans k8))
  have k29 : Below W2.heap.size W2 W9 := k2.trans (k39.mono (by omega))
  have z01 := P1.below.size
  have z12 := B1.fr.size
  have zc := d0.size
  have kc2 : Below wc.heap.size wc W2 := d0.trans ((P1.below.mono zc).trans (B1.fr.below (by omega) fun b h => by omega))
  have e1 : W9.heap[g1]? = some (.cells (c32 (bdS [] (ss.take c))).toArray 21 (0, 0)) := by
    have lt := (Array.getElem?_eq_some_iff.1 B2.row).1
    rw [B3.fr.block g1 (by omega) (fun h => h.2.1 rfl), k6.block g1 lt]
    exact B2.row
  have e2 : W9.heap[W6.heap.size]? = some (.cells #[y0, y1, y2] 35 (0, 0)) := by
    rw [B3.fr.block _ (by omega) (fun h => by omega), P3.below.block _ (by simp)]
    exact heap_alloc_new _ _
  refine ⟨⟨kc2.trans (k29.mono (by have := kc2.size; omega)), hs.below (kc2.trans (k29.mono (by have := kc2.size; omega))), ?_, ?_, ?_, e1, B3.row⟩, ?_, e2⟩
  · have T : TabR W2 tw (bdK [] ss) (bdC [] [] ss) := ⟨_, B1.tab, fun b h => h.2.2⟩
    exact T.below k29 (Nat.le_refl _)
  · have hT := B3.tab
    rw [← bdK_append, ← bdC_append, List.take_append_drop] at hT
    exact ⟨_, hT, fun b h => h.2.2⟩
  · exact heap_below B1.row k29
  · rw [k39.block _ (by omega)]
    exact heap_alloc_new _ _

/-- What a walk reads of a table's keys and readers. -/
structure View (w : World) (t : Nat) (ks : List ByteArray) (cs : List Nat) (ka ra : Option Addr) (kc rc : Nat) : Prop where
  k : w.cell? ⟨t, 1, none⟩ = some (.slice ka ks.length kc)
  r : w.cell? ⟨t, 2, none⟩ = some (.slice ra ks.length rc)
  keys : ∀ (j : Nat) s, ks[j]? = some s → ∃ g, ka = some ⟨g, 0, none⟩ ∧ w.cell? ⟨g, j, none⟩ = some (.string s)
  reads : ∀ j x : Nat, cs[j]? = some x → ∃ g, ra = some ⟨g, 0, none⟩ ∧ w.cell? ⟨g, j, none⟩ = some (.int .i32 x)

theorem TabR.view {w : World} {t : Nat} {ks : List ByteArray} {cs : List Nat} (h : TabR w t ks cs) : ∃ ka ra kc rc, View w t ks cs ka ra kc rc := by
  obtain ⟨S, ⟨hl, mv, kv, rv, fv, T⟩, _⟩ := h
  obtain ⟨ka, kc, rfl⟩ := row_shape T.rk
  obtain ⟨ra, rc, rfl⟩ := row_shape T.rr
  obtain ⟨_, c1, c2, _⟩ := tcells T.blk
  refine ⟨ka, ra, kc, rc, c1, c2, fun j s hs => ?_, fun j x hx => ?_⟩
  · have hj := (List.getElem?_eq_some_iff.1 hs).1
    obtain ⟨g, c, e⟩ := row_some T.rk (by omega)
    simp at e
    obtain ⟨rfl, rfl⟩ := e
    refine ⟨g, rfl, ?_⟩
    rw [T.rk.cellAt j (by omega), List.getElem?_map, hs]; rfl
  · have hj := (List.getElem?_eq_some_iff.1 hx).1
    obtain ⟨g, c, e⟩ := row_some T.rr (by omega)
    simp at e
    obtain ⟨rfl, rfl⟩ := e
    refine ⟨g, rfl, ?_⟩
    rw [T.rr.cellAt j (by omega), c32, List.getElem?_map, hx]; rfl

theorem row32 {w : World} {g : Nat} {cs : List Nat} (h : w.heap[g]? = some (.cells (c32 cs).toArray 21 (0, 0))) {j x : Nat} (hx : cs[j]? = some x) : w.cell? ⟨g, j, none⟩ = some (.int .i32 x) :=
  cell_of h (by simp [c32, hx])

end Go.Proofs.Qxb6627794a
