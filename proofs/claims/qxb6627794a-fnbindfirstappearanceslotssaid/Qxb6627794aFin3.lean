/-
  FnBindFirstAppearanceSlots: what holds of memory once both filters are bound and 'all' is laid.
-/
import Derived.Test.Qxb6627794aIdx
namespace Go.Proofs.Qxb6627794a
open Go.RowKit Go.Maps

/-- Both lists, one behind the other (a name of its own: the walk's simp leaves it alone). -/
def cat (xs ys : List ByteArray) : List ByteArray := xs ++ ys
theorem cat_len (xs ys : List ByteArray) : (cat xs ys).length = xs.length + ys.length := by simp [cat]

/-- Behind the binds: the copy of keys, all of both lists, the table, the slots, the Binding. -/
structure Base3 (w0 w : World) (a : Option Addr) (ga t g bb p : Nat) (xs ys : List ByteArray) : Prop where
  below : Below w0.heap.size w0 w
  keys : IsStrs w a ys
  all : IsStrs w (some ⟨ga, 0, none⟩) (cat xs ys)
  tab : TabR w t (bdK [] (cat xs ys)) (bdC [] [] (cat xs ys))
  row : w.heap[g]? = some (.cells (c32 (bdS (bdK [] xs) ys)).toArray 21 (0, 0))
  bind : w.heap[bb]? = some (.cells #[.pointer (some ⟨p, 0, none⟩), .pointer (some ⟨t, 0, none⟩), .slice (some ⟨g, 0, none⟩) ys.length ys.length] 35 (0, 0))

theorem Base3.step {w0 w w' : World} {a : Option Addr} {ga t g bb p : Nat} {xs ys : List ByteArray} (h : Base3 w0 w a ga t g bb p xs ys) (hb : Below w.heap.size w w') : Base3 w0 w' a ga t g bb p xs ys :=
  ⟨h.below.trans (hb.mono h.below.size), h.keys.below hb, h.all.below hb, h.tab.below hb (Nat.le_refl _), heap_below h.row hb, heap_below h.bind hb⟩

theorem row_strs {w : World} {g n cap : Nat} {ss : List ByteArray} (h : w.ownsRow 0 9 1 (.slice (some ⟨g, 0, none⟩) n cap) n (ss.map Value.string)) : IsStrs w (some ⟨g, 0, none⟩) ss := by
  have hl := h.1
  simp at hl
  by_cases h0 : n = 0
  · left
    exact List.eq_nil_of_length_eq_zero (by omega)
  · refine .inr ⟨g, 0, rfl, (h.lt g rfl).2, fun j s hs => ?_⟩
    have hj := (List.getElem?_eq_some_iff.1 hs).1
    rw [Nat.zero_add, h.cellAt j (by omega), List.getElem?_map, hs]; rfl

theorem base3 {w0 W0 W1 W2 W3 W4 W7 W8 : World} {a : Option Addr} {t p0 p g0 g n cap : Nat} {xs ys : List ByteArray} {c0 : Array Value} (hs : IsStrs w0 a ys) (d0 : Below w0.heap.size w0 W0) (ht : t = w0.heap.size)
    (P1 : Prepd W0 W1 p0 xs) (B1 : Bound (fun b => b = t) W1 W2 t g0 [] [] xs) (P2 : Prepd W2 W3 p ys)
    (B2 : Bound (fun b => (b = t ∨ W1.heap.size ≤ b) ∧ b ≠ g0 ∧ b < W2.heap.size) W3 W4 t g (bdK [] xs) (bdC [] [] xs) ys)
    (h7 : World.grownBy ((W4.alloc (.cells #[.pointer (some ⟨p, 0, none⟩), .pointer (some ⟨t, 0, none⟩), .slice (some ⟨g, 0, none⟩) ys.length ys.length] 35)).alloc (.cells c0 9)) W7 (some (W4.heap.size + 1)))
    (h8 : World.grownBy W7 W8 (some (W4.heap.size + 1))) (ho : W8.ownsRow 0 9 1 (.slice (some ⟨W4.heap.size + 1, 0, none⟩) n cap) n (xs.map Value.string ++ ys.map Value.string)) :
    Base3 w0 W8 a (W4.heap.size + 1) t g W4.heap.size p xs ys := by
  have z1 := P1.below.size
  have z2 := B1.fr.size
  have z3 := P2.below.size
  have z4 := B2.fr.size
  have zc := d0.size
  have s7 := h7.size
  have s8 := h8.size
  simp at s7
  have k04 : Below w0.heap.size w0 W4 := d0.trans ((P1.below.mono zc).trans ((B1.fr.below (by omega) fun b h => by omega).trans ((P2.below.mono (by omega)).trans (B2.fr.below (by omega) fun b h => by omega))))
  have k5 : Below (W4.heap.size + 1) (W4.alloc (.cells #[.pointer (some ⟨p, 0, none⟩), .pointer (some ⟨t, 0, none⟩), .slice (some ⟨g, 0, none⟩) ys.length ys.length] 35)) W8 :=
    (((Below.refl _ _).alloc (by simp) _).grown h7 (by simp) (fun k e => by cases e; exact Nat.le_refl _)).trans ((Below.refl _ _).grown h8 (by omega) (fun k e => by cases e; exact Nat.le_refl _))
  have k48 : Below W4.heap.size W4 W8 := ((Below.refl _ _).alloc (Nat.le_refl _) _).trans (k5.mono (by omega))
  have k08 := k04.trans (k48.mono k04.size)
  refine ⟨k08, hs.below k08, ?_, ?_, heap_below B2.row k48, ?_⟩
  · rw [← List.map_append] at ho
    exact row_strs ho
  · have hT := B2.tab
    rw [← bdK_append, ← bdC_append] at hT
    exact TabR.below ⟨_, hT, fun b h => h.2.2⟩ k48 (Nat.le_refl _)
  · rw [k5.block _ (by omega)]
    exact heap_alloc_new _ _

/-- What the last loop reads of a table. -/
structure View3 (w : World) (t : Nat) (ks : List ByteArray) (cs : List Nat) (mv : Value) (ka ra fa : Option Addr) (kc rc fc : Nat) : Prop where
  c0 : w.cell? ⟨t, 0, none⟩ = some mv
  c1 : w.cell? ⟨t, 1, none⟩ = some (.slice ka ks.length kc)
  c2 : w.cell? ⟨t, 2, none⟩ = some (.slice ra ks.length rc)
  c3 : w.cell? ⟨t, 3, none⟩ = some (.slice fa ks.length fc)
  c4 : w.cell? ⟨t, 4, none⟩ = some (.slice none 0 0)
  keys : ∀ (j : Nat) s, ks[j]? = some s → ∃ g, ka = some ⟨g, 0, none⟩ ∧ w.cell? ⟨g, j, none⟩ = some (.string s)
  reads : ∀ j x : Nat, cs[j]? = some x → ∃ g, ra = some ⟨g, 0, none⟩ ∧ w.cell? ⟨g, j, none⟩ = some (.int .i32 x)
  found : ∀ j : Nat, j < ks.length → ∃ g, fa = some ⟨g, 0, none⟩ ∧ w.cell? ⟨g, j * 3, none⟩ = some (.int .u64 0) ∧ w.cell? ⟨g, j * 3 + 1, none⟩ = some (.string ByteArray.empty) ∧ w.cell? ⟨g, j * 3 + 1 + 1, none⟩ = some (.bool false)
  mlen : ∀ W' : World, W'.heap = w.heap → (Builtin.len_ #[25] 3 #[mv]).run Try.prog W' = .ok (.int .i64 ks.length) W'
  mlook : ∀ (W' : World) (s : ByteArray), W'.heap = w.heap → s ∈ ks → s.size ≤ maxLen → (Instr.lookup 25 mv (.string s) true).run Try.prog W' = .ok (.tuple #[.int .i32 (ix s ks), .bool true]) W'

theorem noneFound_get : ∀ (n j : Nat), j < n → (noneFound n)[j * 3]? = some (.int .u64 0) ∧ (noneFound n)[j * 3 + 1]? = some (.string ByteArray.empty) ∧ (noneFound n)[j * 3 + 1 + 1]? = some (.bool false)
  | n + 1, 0, _ => by simp [noneFound, List.replicate_succ]
  | n + 1, j + 1, h => by
    have ih := noneFound_get n j (by omega)
    have e : noneFound (n + 1) = [.int .u64 0, .string ByteArray.empty, .bool false] ++ noneFound n := by simp [noneFound, List.replicate_succ]
    rw [e]
    refine ⟨?_, ?_, ?_⟩
    · rw [List.getElem?_append_right (by simp; omega), ← ih.1]; congr 1; simp; omega
    · rw [List.getElem?_append_right (by simp; omega), ← ih.2.1]; congr 1; simp; omega
    · rw [List.getElem?_append_right (by simp; omega), ← ih.2.2]; congr 1; simp; omega

theorem noneFound_len (n : Nat) : (noneFound n).length = n * 3 := by
  induction n with
  | zero => rfl
  | succ n ih => rw [noneFound_succ, List.length_append, ih]; simp; omega

theorem ownsMap_heap {w w' : World} {bm n : Nat} {D : DataW Unit} (h : w.ownsMap Try.prog 9 (plainElem (H := Unit) Try.prog 21) bm n D) (e : w'.heap = w.heap) : w'.ownsMap Try.prog 9 (plainElem (H := Unit) Try.prog 21) bm n D := by
  obtain ⟨es, cl, hb, r⟩ := h
  exact ⟨es, cl, by rw [e]; exact hb, r⟩

theorem TabR.view3 {w : World} {t : Nat} {ks : List ByteArray} {cs : List Nat} (h : TabR w t ks cs) : ∃ mv ka ra fa kc rc fc, View3 w t ks cs mv ka ra fa kc rc fc := by
  obtain ⟨S, ⟨hl, mv, kv, rv, fv, T⟩, _⟩ := h
  obtain ⟨ka, kc, rfl⟩ := row_shape T.rk
  obtain ⟨ra, rc, rfl⟩ := row_shape T.rr
  obtain ⟨fa, fc, rfl⟩ := row_shape T.rf
  obtain ⟨c0, c1, c2, c3, c4, _⟩ := tcells T.blk
  refine ⟨mv, ka, ra, fa, kc, rc, fc, c0, c1, c2, c3, c4, fun j s hs => ?_, fun j x hx => ?_, fun j hj => ?_, fun W' e => ?_, fun W' s e hs hz => ?_⟩
  · have hj := (List.getElem?_eq_some_iff.1 hs).1
    obtain ⟨g, c, e⟩ := row_some T.rk (by omega)
    simp at e
    obtain ⟨rfl, rfl⟩ := e
    refine ⟨g, rfl, ?_⟩
    rw [T.rk.cellAt j (by omega), List.getElem?_map, hs]; rfl
  · have hj := (List.getElem?_eq_some_iff.1 hx).1
    obtain ⟨g, c, e⟩ := row_some T.rr (by omega)
    simp at e
    obtain ⟨rfl, rfl⟩ := e
    refine ⟨g, rfl, ?_⟩
    rw [T.rr.cellAt j (by omega), c32, List.getElem?_map, hx]; rfl
  · obtain ⟨g, c, e⟩ := row_some T.rf (by omega)
    simp at e
    obtain ⟨rfl, rfl⟩ := e
    obtain ⟨e1, e2, e3⟩ := noneFound_get ks.length j hj
    refine ⟨g, rfl, ?_, ?_, ?_⟩
    · rw [T.rf.cellAt (j * 3) (by omega), e1]
    · rw [T.rf.cellAt (j * 3 + 1) (by omega), e2]
    · rw [T.rf.cellAt (j * 3 + 1 + 1) (by omega), e3]
  · rcases T.map with ⟨rfl, rfl⟩ | ⟨bm, D, rfl, _, hm, ho⟩
    · exact Maps.len_nil Try.underlying25 3
    · have := (ownsMap_heap hm e).len Try.underlying25 3
      rw [ho.size] at this
      exact this
  · rcases T.map with ⟨rfl, rfl⟩ | ⟨bm, D, rfl, _, hm, ho⟩
    · simp at hs
    · exact look_in (ownsMap_heap hm e) ho hs hz

set_option maxHeartbeats 400000 in
theorem slotOf17 (t : Nat) (s : ByteArray) (mv : Value) (j : Nat) (w : World) (c0 : w.cell? ⟨t, 0, none⟩ = some mv) (hl : (Instr.lookup 25 mv (.string s) true).run Try.prog w = .ok (.tuple #[.int .i32 (j : Int), .bool true]) w) :
    Calls Try.prog 17 #[.pointer (some ⟨t, 0, none⟩), .string s] w fun e w' => e = .returned (.tuple #[.int .i32 (j : Int), .bool true]) ∧ w' = w := by
  go_enter Try.func17, Try.ntmps17
  go_wp2
  go_ret2
  exact ⟨rfl, rfl⟩

set_option maxHeartbeats 400000 in
theorem found18 (t j n fc g : Nat) (w : World) (hj : j < n) (c3 : w.cell? ⟨t, 3, none⟩ = some (.slice (some ⟨g, 0, none⟩) n fc)) (d0 : w.cell? ⟨g, j * 3, none⟩ = some (.int .u64 0)) (d1 : w.cell? ⟨g, j * 3 + 1, none⟩ = some (.string ByteArray.empty)) (d2 : w.cell? ⟨g, j * 3 + 1 + 1, none⟩ = some (.bool false)) :
    Calls Try.prog 18 #[.pointer (some ⟨t, 0, none⟩), .int .i64 (j : Int)] w fun e w' => e = .returned (.tuple #[.int .u64 0, .string ByteArray.empty, .bool false]) ∧ Below w.heap.size w w' := by
  go_enter Try.func18, Try.ntmps18
  go_wp2
  go_quiet (fail)
  go_wp2
  go_ret3
  exact ⟨rfl, below_drewN ((Below.refl _ _).alloc (Nat.le_refl _) _) _⟩

theorem IsStrs.drewN {w : World} {a : Option Addr} {ss : List ByteArray} (h : IsStrs w a ss) (n : Nat) : IsStrs (w.drewN n) a ss := h

theorem carry {w w' : World} {a : Addr} {v : Value} (hb : Below w.heap.size w w') (h : w.cell? a = some v) : w'.cell? a = some v :=
  (hb.cell (World.block_lt_of_cell? w a h)).trans h

/-- What the loop over the slots reads. -/
def SlotFacts (w : World) (g : Nat) (ys K : List ByteArray) (a : Option Addr) : Prop :=
  ∀ (i : Nat) s, ys[i]? = some s → w.cell? ⟨g, i, none⟩ = some (.int .i32 (ix s K)) ∧ s ∈ K ∧ ∃ b off, a = some ⟨b, off, none⟩ ∧ w.cell? ⟨b, off + i, none⟩ = some (.string s)

theorem slotFacts {w0 w : World} {a : Option Addr} {ga t g bb p : Nat} {xs ys : List ByteArray} (h : Base3 w0 w a ga t g bb p xs ys) : SlotFacts w g ys (bdK [] (cat xs ys)) a := by
  intro i s hs
  obtain ⟨h1, h2⟩ := slot_ix (bdK [] xs) ys i s hs
  rw [← bdK_append] at h1 h2
  exact ⟨row32 h.row h1, h2, strs_cell h.keys i s hs⟩

/-- What the last loop knows of the keys: each at its own place, as often read as it stands in the list, of modest size. -/
theorem keyFacts {xs ys : List ByteArray} (hz : SizesOk xs ys) : (bdC [] [] (cat xs ys)).length = (bdK [] (cat xs ys)).length ∧
    ∀ (j : Nat) s, (bdK [] (cat xs ys))[j]? = some s → (bdC [] [] (cat xs ys))[j]? = some (occ s (cat xs ys)) ∧ ix s (bdK [] (cat xs ys)) = j ∧ s ∈ bdK [] (cat xs ys) ∧ s.size ≤ 1048576 := by
  have h := Counts.empty.bind (cat xs ys)
  rw [List.nil_append] at h
  obtain ⟨hl, hn, _, hc⟩ := h
  refine ⟨hl, fun j s hs => ⟨hc j s hs, ix_nodup hn hs, List.mem_of_getElem? hs, ?_⟩⟩
  rcases mem_bdK (List.mem_of_getElem? hs) with h | h
  · simp at h
  · rcases List.mem_append.1 h with h | h
    · exact hz.1 s h
    · exact hz.2 s h

end Go.Proofs.Qxb6627794a
