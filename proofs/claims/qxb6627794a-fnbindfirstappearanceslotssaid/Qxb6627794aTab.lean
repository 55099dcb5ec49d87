/-
  The table in memory, as a walk is told of it: its block, its three rows, its map. No walk here: what each step does to it, as lemmas on worlds.
-/
import Derived.Test.Qxb6627794aPrep
import Derived.Test.Qxb6627794aPlain
import Derived.Maps.OwnSet
import Derived.Maps.AppendAt
namespace Go.Proofs.Qxb6627794a
open Go.RowKit Go.Maps

/-- Outside S the world w' is as w was. -/
structure Fr (S : Nat → Prop) (w w' : World) : Prop where
  os : w'.os = w.os
  tape : w'.tape = w.tape
  output : w'.output = w.output
  size : w.heap.size ≤ w'.heap.size
  block : ∀ k, k < w.heap.size → ¬ S k → w'.heap[k]? = w.heap[k]?

theorem Fr.refl (S : Nat → Prop) (w : World) : Fr S w w := ⟨rfl, rfl, rfl, Nat.le_refl _, fun _ _ _ => rfl⟩
theorem Fr.trans {S : Nat → Prop} {a b c : World} (h : Fr S a b) (k : Fr S b c) : Fr S a c :=
  ⟨k.os.trans h.os, k.tape.trans h.tape, k.output.trans h.output, Nat.le_trans h.size k.size, fun i hi hs => (k.block i (Nat.lt_of_lt_of_le hi h.size) hs).trans (h.block i hi hs)⟩
theorem Fr.alloc (S : Nat → Prop) (w : World) (o : Obj) : Fr S w (w.alloc o) :=
  ⟨rfl, rfl, rfl, by simp, fun k hk _ => Below.heap_alloc _ _ _ hk⟩
theorem Fr.drew (S : Nat → Prop) (w : World) : Fr S w w.drew := ⟨rfl, rfl, rfl, Nat.le_refl _, fun _ _ _ => rfl⟩
theorem Fr.setCell {S : Nat → Prop} (w : World) (a : Addr) (u : Value) (h : S a.block) : Fr S w (w.setCell a u) :=
  ⟨rfl, rfl, rfl, by simp [World.setCell], fun k _ hs => Below.heap_setCell _ _ _ _ (fun e => hs (by rw [e]; exact h))⟩
theorem Fr.grown {S : Nat → Prop} {w w' : World} {row : Option Nat} (h : w.grownBy w' row) (hs : ∀ k, row = some k → S k) : Fr S w w' :=
  ⟨h.os, h.tape, h.output, h.size, fun k hk hn => h.block k hk (fun e => hn (hs k e.symm))⟩
theorem Fr.mono {S S' : Nat → Prop} {w w' : World} (h : Fr S w w') (hs : ∀ k, k < w.heap.size → S k → S' k) : Fr S' w w' :=
  ⟨h.os, h.tape, h.output, h.size, fun k hk hn => h.block k hk (fun e => hn (hs k hk e))⟩
theorem Fr.below {S : Nat → Prop} {B : Nat} {w w' : World} (h : Fr S w w') (hB : B ≤ w.heap.size) (hs : ∀ k, S k → B ≤ k) : Below B w w' :=
  ⟨h.os, h.tape, h.output, h.size, fun k hk => h.block k (by omega) (fun e => by have := hs k e; omega)⟩
theorem Fr.cell {S : Nat → Prop} {w w' : World} (h : Fr S w w') {p : Addr} (hp : p.block < w.heap.size) (hs : ¬ S p.block) : w'.cell? p = w.cell? p := World.cell?_of_block (w := w) (h.block p.block hp hs)

/-- Two rows of different element types lie in different blocks. -/
theorem rows_apart {w : World} {b1 b2 : Nat} {e1 e2 : TypeId} {s1 s2 : Nat} {v1 v2 : Value} {n1 n2 : Nat} {x1 x2 : List Value} (h1 : w.ownsRow b1 e1 s1 v1 n1 x1) (h2 : w.ownsRow b2 e2 s2 v2 n2 x2) (hne : e1 ≠ e2) :
    v1.ownBlock = none ∨ v1.ownBlock ≠ v2.ownBlock := by
  rcases h1.2 with ⟨rfl, _⟩ | ⟨g, cap, cur, rfl, _, hg, _⟩
  · exact .inl rfl
  · refine .inr fun e => ?_
    rcases h2.2 with ⟨rfl, _⟩ | ⟨g', cap', cur', rfl, _, hg', _⟩
    · simp [Value.ownBlock] at e
    · simp [Value.ownBlock] at e
      subst e
      rw [hg] at hg'
      simp at hg'
      exact hne hg'.2

/-- A block of cells of another element type, or a map, is not the row's. -/
theorem block_apart {w : World} {b : Nat} {e : TypeId} {s n t : Nat} {v : Value} {xs : List Value} {o : Obj} (h : w.ownsRow b e s v n xs) (ht : w.heap[t]? = some o) (hne : ∀ c, o ≠ .cells c e (0, 0)) : some t ≠ v.ownBlock := by
  rcases h.2 with ⟨rfl, _⟩ | ⟨g, cap, cur, rfl, _, hg, _⟩
  · simp [Value.ownBlock]
  · intro e'
    simp [Value.ownBlock] at e'
    subst e'
    rw [hg] at ht
    cases ht
    exact hne cur rfl

theorem keys_ne {s s' : ByteArray} (h : s ≠ s') : Lit.string s.data.toList ≠ Lit.string s'.data.toList := by
  intro e
  apply h
  simp at e
  exact ByteArray.ext e

/-- The map D gives each key of ks its place in ks, and holds no other key. -/
structure MapOk (D : DataW Unit) (ks : List ByteArray) : Prop where
  has : ∀ s, Maps.has D (.string s.data.toList) = isIn s ks
  at_ : ∀ s ∈ ks, D.atKey (.string s.data.toList) (.lit (.int .i32 0)) = .lit (.int .i32 (ix s ks))
  size : Maps.size D = ks.length

theorem MapOk.empty : MapOk (.map []) [] := ⟨fun s => by simp [Maps.has, isIn], fun s hs => by simp at hs, rfl⟩

theorem MapOk.put {D : DataW Unit} {ks : List ByteArray} (h : MapOk D ks) (ht : Maps.Tidy D) (s : ByteArray) (hs : s ∉ ks) : MapOk (D.put (.string s.data.toList) (.lit (.int .i32 ks.length))) (ks ++ [s]) := by
  have hk : WideAt.IsKeyLit (Lit.string s.data.toList) := trivial
  refine ⟨fun s' => ?_, fun s' hs' => ?_, ?_⟩
  · by_cases e : s' = s
    · subst e
      rw [has_put_same ht.isMap hk]
      exact (isIn_iff.2 (by simp)).symm
    · rw [has_put_other (keys_ne e), h.has s', isIn_append]
      have : isIn s' [s] = false := isIn_false.2 (by simpa using e)
      rw [this]; simp
  · by_cases e : s' = s
    · subst e
      rw [atKey_put_same ht.isMap hk, ix_append_new hs]
    · rw [atKey_put_other (keys_ne e)]
      have hm : s' ∈ ks := by simpa [e] using hs'
      rw [h.at_ s' hm, ix_append_in _ hm]
  · rw [size_put ht, h.has s, h.size, isIn_false.2 hs]
    simp

/-- The cells of n empty look-ups. -/
def noneFound (n : Nat) : List Value := (List.replicate n [.int .u64 0, .string ByteArray.empty, .bool false]).flatten

theorem noneFound_succ (n : Nat) : noneFound (n + 1) = noneFound n ++ [.int .u64 0, .string ByteArray.empty, .bool false] := by
  simp [noneFound, List.replicate_succ', List.flatten_append]

/-- The map that a table's field leads to. -/
def MapAt (S : Nat → Prop) (w : World) (mv : Value) (n : Nat) (ks : List ByteArray) : Prop :=
  (mv = .map none ∧ ks = []) ∨ ∃ bm D, mv = .map (some bm) ∧ S bm ∧ w.ownsMap Try.prog 9 (plainElem (H := Unit) Try.prog 21) bm n D ∧ MapOk D ks

/-- THE TABLE AT BLOCK t: its keys ks, its readers cs; all its blocks lie in S. -/
structure TabAt (S : Nat → Prop) (w : World) (t : Nat) (mv kv rv fv : Value) (n nk nr nf : Nat) (ks : List ByteArray) (xs ys zs : List Value) : Prop where
  blk : w.heap[t]? = some (.cells #[mv, kv, rv, fv, .slice none 0 0, .map none, .int .u64 0] 31 (0, 0))
  st : S t
  rk : w.ownsRow 0 9 1 kv nk xs
  sk : ∀ b, kv.ownBlock = some b → S b
  rr : w.ownsRow 0 21 1 rv nr ys
  sr : ∀ b, rv.ownBlock = some b → S b
  rf : w.ownsRow 0 61 3 fv nf zs
  sf : ∀ b, fv.ownBlock = some b → S b
  map : MapAt S w mv n ks

/-- What a walk reads off a table's block. -/
theorem tcells {w : World} {t : Nat} {a0 a1 a2 a3 a4 a5 a6 : Value} (h : w.heap[t]? = some (.cells #[a0, a1, a2, a3, a4, a5, a6] 31 (0, 0))) :
    w.cell? ⟨t, 0, none⟩ = some a0 ∧ w.cell? ⟨t, 1, none⟩ = some a1 ∧ w.cell? ⟨t, 2, none⟩ = some a2 ∧ w.cell? ⟨t, 3, none⟩ = some a3 ∧ w.cell? ⟨t, 4, none⟩ = some a4 ∧ (∀ j, w.frozen? ⟨t, j, none⟩ = false) ∧ t < w.heap.size := by
  refine ⟨?_, ?_, ?_, ?_, ?_, fun j => ?_, (Array.getElem?_eq_some_iff.1 h).1⟩
  all_goals simp [World.cell?, World.frozen?, h]

theorem setCell_heap {w : World} {t i : Nat} {c : Array Value} {e : TypeId} {f : Nat × Nat} (h : w.heap[t]? = some (.cells c e f)) (u : Value) : (w.setCell ⟨t, i, none⟩ u).heap[t]? = some (.cells (c.setIfInBounds i u) e f) := by
  simp [World.setCell, Array.getElem?_modify, h]

theorem MapAt.kept {S : Nat → Prop} {w w' : World} {mv : Value} {n : Nat} {ks : List ByteArray} (h : MapAt S w mv n ks) (hk : ∀ (b : Nat) (es : Array MapEntry) (cl : Nat), w.heap[b]? = some (Obj.map es cl) → w'.heap[b]? = w.heap[b]?) : MapAt S w' mv n ks := by
  rcases h with h | ⟨bm, D, e, hs, ⟨es, cl, hb, r⟩, ho⟩
  · exact .inl h
  · exact .inr ⟨bm, D, e, hs, ⟨es, cl, (hk bm es cl hb).trans hb, r⟩, ho⟩

/-- A row is kept where its block is. -/
theorem row_kept {w w' : World} {e : TypeId} {s : Nat} {v : Value} {n : Nat} {xs : List Value} (h : w.ownsRow 0 e s v n xs) (hk : ∀ b c, v.ownBlock = some b → w.heap[b]? = some (.cells c e (0, 0)) → w'.heap[b]? = w.heap[b]?) : w'.ownsRow 0 e s v n xs := by
  refine ⟨h.1, ?_⟩
  rcases h.2 with hn | ⟨g, cap, cur, rfl, hb, hg, r⟩
  · exact .inl hn
  · exact .inr ⟨g, cap, cur, rfl, hb, (hk g cur rfl hg).trans hg, r⟩

section
variable {S : Nat → Prop} {w : World} {t : Nat} {mv kv rv fv : Value} {n nk nr nf : Nat} {ks : List ByteArray} {xs ys zs : List Value}

/-- Where the table's own blocks have not turned the table has not. -/
theorem TabAt.kept {w' : World} (T : TabAt S w t mv kv rv fv n nk nr nf ks xs ys zs) (h : ∀ b, b < w.heap.size → S b → w'.heap[b]? = w.heap[b]?) : TabAt S w' t mv kv rv fv n nk nr nf ks xs ys zs := by
  have lt : ∀ {b : Nat} {o : Obj}, w.heap[b]? = some o → b < w.heap.size := fun h => (Array.getElem?_eq_some_iff.1 h).1
  refine ⟨(h t (lt T.blk) T.st).trans T.blk, T.st, row_kept T.rk fun b c hb hc => h b (lt hc) (T.sk b hb), T.sk, row_kept T.rr fun b c hb hc => h b (lt hc) (T.sr b hb), T.sr, row_kept T.rf fun b c hb hc => h b (lt hc) (T.sf b hb), T.sf, ?_⟩
  rcases T.map with hm | ⟨bm, D, e, hs, ⟨es, cl, hb, r⟩, ho⟩
  · exact .inl hm
  · exact .inr ⟨bm, D, e, hs, ⟨es, cl, (h bm (lt hb) hs).trans hb, r⟩, ho⟩

theorem TabAt.mono {S' : Nat → Prop} (T : TabAt S w t mv kv rv fv n nk nr nf ks xs ys zs) (h : ∀ b, b < w.heap.size → S b → S' b) : TabAt S' w t mv kv rv fv n nk nr nf ks xs ys zs := by
  have lt : ∀ {b : Nat} {o : Obj}, w.heap[b]? = some o → b < w.heap.size := fun h => (Array.getElem?_eq_some_iff.1 h).1
  refine ⟨T.blk, h t (lt T.blk) T.st, T.rk, fun b hb => h b (T.rk.lt b hb).2 (T.sk b hb), T.rr, fun b hb => h b (T.rr.lt b hb).2 (T.sr b hb), T.rf, fun b hb => h b (T.rf.lt b hb).2 (T.sf b hb), ?_⟩
  rcases T.map with hm | ⟨bm, D, e, hs, hm, ho⟩
  · exact .inl hm
  · exact .inr ⟨bm, D, e, h bm hm.lt hs, hm, ho⟩

theorem TabAt.alloc (T : TabAt S w t mv kv rv fv n nk nr nf ks xs ys zs) (o : Obj) : TabAt S (w.alloc o) t mv kv rv fv n nk nr nf ks xs ys zs :=
  T.kept fun _ hb _ => Below.heap_alloc _ _ _ hb

/-- The row of keys has grown and its field has been stored. -/
theorem TabAt.appK {w1 : World} {kv' : Value} {u : Value} (T : TabAt S w t mv kv rv fv n nk nr nf ks xs ys zs) (hS : ∀ b, w.heap.size ≤ b → S b) (hg : w.grownBy w1 kv.ownBlock) (ho : w1.ownsRow 0 9 1 kv' (nk + 1) (xs ++ [u]))
    (hl : kv'.ownBlock = kv.ownBlock ∨ kv'.ownBlock = some w.heap.size) :
    w1.heap[t]? = some (.cells #[mv, kv, rv, fv, .slice none 0 0, .map none, .int .u64 0] 31 (0, 0)) ∧ TabAt S (w1.setCell ⟨t, 1, none⟩ kv') t mv kv' rv fv n (nk + 1) nr nf ks (xs ++ [u]) ys zs ∧ Fr S w (w1.setCell ⟨t, 1, none⟩ kv') := by
  have lt : ∀ {b : Nat} {o : Obj}, w.heap[b]? = some o → b < w.heap.size := fun h => (Array.getElem?_eq_some_iff.1 h).1
  have b1 : w1.heap[t]? = some (.cells #[mv, kv, rv, fv, .slice none 0 0, .map none, .int .u64 0] 31 (0, 0)) := (hg.block t (lt T.blk) (block_apart T.rk T.blk (by simp))).trans T.blk
  have other : ∀ b, b ≠ t → (w1.setCell ⟨t, 1, none⟩ kv').heap[b]? = w1.heap[b]? := fun b hb => Below.heap_setCell _ _ _ _ hb
  have hsk' : ∀ b, kv'.ownBlock = some b → S b := fun b hb => by
    rcases hl with e | e
    · exact T.sk b (e ▸ hb)
    · rw [e] at hb; cases hb; exact hS _ (Nat.le_refl _)
  refine ⟨b1, ⟨(setCell_heap b1 kv').trans (by simp), T.st, ?_, hsk', ?_, T.sr, ?_, T.sf, ?_⟩, ?_⟩
  · refine row_kept ho fun b c hb hc => other b fun e => ?_
    subst e; rw [b1] at hc; simp at hc
  · refine row_kept T.rr fun b c hb hc => ?_
    rw [other b (fun e => by subst e; rw [T.blk] at hc; simp at hc)]
    exact hg.block b (lt hc) (by rcases rows_apart T.rr T.rk (by decide) with h | h <;> rw [hb] at h <;> simp_all)
  · refine row_kept T.rf fun b c hb hc => ?_
    rw [other b (fun e => by subst e; rw [T.blk] at hc; simp at hc)]
    exact hg.block b (lt hc) (by rcases rows_apart T.rf T.rk (by decide) with h | h <;> rw [hb] at h <;> simp_all)
  · refine T.map.kept fun b es cl hb => ?_
    rw [other b (fun e => by subst e; rw [T.blk] at hb; simp at hb)]
    exact hg.block b (lt hb) (block_apart T.rk hb (by simp))
  · exact (Fr.grown hg T.sk).trans (Fr.setCell _ _ _ T.st)

/-- .. the row of readers. -/
theorem TabAt.appR {w1 : World} {rv' : Value} {u : Value} (T : TabAt S w t mv kv rv fv n nk nr nf ks xs ys zs) (hS : ∀ b, w.heap.size ≤ b → S b) (hg : w.grownBy w1 rv.ownBlock) (ho : w1.ownsRow 0 21 1 rv' (nr + 1) (ys ++ [u]))
    (hl : rv'.ownBlock = rv.ownBlock ∨ rv'.ownBlock = some w.heap.size) :
    w1.heap[t]? = some (.cells #[mv, kv, rv, fv, .slice none 0 0, .map none, .int .u64 0] 31 (0, 0)) ∧ TabAt S (w1.setCell ⟨t, 2, none⟩ rv') t mv kv rv' fv n nk (nr + 1) nf ks xs (ys ++ [u]) zs ∧ Fr S w (w1.setCell ⟨t, 2, none⟩ rv') := by
  have lt : ∀ {b : Nat} {o : Obj}, w.heap[b]? = some o → b < w.heap.size := fun h => (Array.getElem?_eq_some_iff.1 h).1
  have b1 : w1.heap[t]? = some (.cells #[mv, kv, rv, fv, .slice none 0 0, .map none, .int .u64 0] 31 (0, 0)) := (hg.block t (lt T.blk) (block_apart T.rr T.blk (by simp))).trans T.blk
  have other : ∀ b, b ≠ t → (w1.setCell ⟨t, 2, none⟩ rv').heap[b]? = w1.heap[b]? := fun b hb => Below.heap_setCell _ _ _ _ hb
  have hsr' : ∀ b, rv'.ownBlock = some b → S b := fun b hb => by
    rcases hl with e | e
    · exact T.sr b (e ▸ hb)
    · rw [e] at hb; cases hb; exact hS _ (Nat.le_refl _)
  refine ⟨b1, ⟨(setCell_heap b1 rv').trans (by simp), T.st, ?_, T.sk, ?_, hsr', ?_, T.sf, ?_⟩, ?_⟩
  · refine row_kept T.rk fun b c hb hc => ?_
    rw [other b (fun e => by subst e; rw [T.blk] at hc; simp at hc)]
    exact hg.block b (lt hc) (by rcases rows_apart T.rk T.rr (by decide) with h | h <;> rw [hb] at h <;> simp_all)
  · refine row_kept ho fun b c hb hc => other b fun e => ?_
    subst e; rw [b1] at hc; simp at hc
  · refine row_kept T.rf fun b c hb hc => ?_
    rw [other b (fun e => by subst e; rw [T.blk] at hc; simp at hc)]
    exact hg.block b (lt hc) (by rcases rows_apart T.rf T.rr (by decide) with h | h <;> rw [hb] at h <;> simp_all)
  · refine T.map.kept fun b es cl hb => ?_
    rw [other b (fun e => by subst e; rw [T.blk] at hb; simp at hb)]
    exact hg.block b (lt hb) (block_apart T.rr hb (by simp))
  · exact (Fr.grown hg T.sr).trans (Fr.setCell _ _ _ T.st)

/-- .. the row of look-ups. -/
theorem TabAt.appF {w1 : World} {fv' : Value} {u0 u1 u2 : Value} (T : TabAt S w t mv kv rv fv n nk nr nf ks xs ys zs) (hS : ∀ b, w.heap.size ≤ b → S b) (hg : w.grownBy w1 fv.ownBlock) (ho : w1.ownsRow 0 61 3 fv' (nf + 1) (zs ++ [u0, u1, u2]))
    (hl : fv'.ownBlock = fv.ownBlock ∨ fv'.ownBlock = some w.heap.size) :
    w1.heap[t]? = some (.cells #[mv, kv, rv, fv, .slice none 0 0, .map none, .int .u64 0] 31 (0, 0)) ∧ TabAt S (w1.setCell ⟨t, 3, none⟩ fv') t mv kv rv fv' n nk nr (nf + 1) ks xs ys (zs ++ [u0, u1, u2]) ∧ Fr S w (w1.setCell ⟨t, 3, none⟩ fv') := by
  have lt : ∀ {b : Nat} {o : Obj}, w.heap[b]? = some o → b < w.heap.size := fun h => (Array.getElem?_eq_some_iff.1 h).1
  have b1 : w1.heap[t]? = some (.cells #[mv, kv, rv, fv, .slice none 0 0, .map none, .int .u64 0] 31 (0, 0)) := (hg.block t (lt T.blk) (block_apart T.rf T.blk (by simp))).trans T.blk
  have other : ∀ b, b ≠ t → (w1.setCell ⟨t, 3, none⟩ fv').heap[b]? = w1.heap[b]? := fun b hb => Below.heap_setCell _ _ _ _ hb
  have hsf' : ∀ b, fv'.ownBlock = some b → S b := fun b hb => by
    rcases hl with e | e
    · exact T.sf b (e ▸ hb)
    · rw [e] at hb; cases hb; exact hS _ (Nat.le_refl _)
  refine ⟨b1, ⟨(setCell_heap b1 fv').trans (by simp), T.st, ?_, T.sk, ?_, T.sr, ?_, hsf', ?_⟩, ?_⟩
  · refine row_kept T.rk fun b c hb hc => ?_
    rw [other b (fun e => by subst e; rw [T.blk] at hc; simp at hc)]
    exact hg.block b (lt hc) (by rcases rows_apart T.rk T.rf (by decide) with h | h <;> rw [hb] at h <;> simp_all)
  · refine row_kept T.rr fun b c hb hc => ?_
    rw [other b (fun e => by subst e; rw [T.blk] at hc; simp at hc)]
    exact hg.block b (lt hc) (by rcases rows_apart T.rr T.rf (by decide) with h | h <;> rw [hb] at h <;> simp_all)
  · refine row_kept ho fun b c hb hc => other b fun e => ?_
    subst e; rw [b1] at hc; simp at hc
  · refine T.map.kept fun b es cl hb => ?_
    rw [other b (fun e => by subst e; rw [T.blk] at hb; simp at hb)]
    exact hg.block b (lt hb) (block_apart T.rf hb (by simp))
  · exact (Fr.grown hg T.sf).trans (Fr.setCell _ _ _ T.st)

/-- A map has been made and its field stored. -/
theorem TabAt.newMap (T : TabAt S w t (.map none) kv rv fv n nk nr nf [] xs ys zs) (hS : ∀ b, w.heap.size ≤ b → S b) :
    TabAt S ((w.alloc (.map #[] 0)).setCell ⟨t, 0, none⟩ (.map (some w.heap.size))) t (.map (some w.heap.size)) kv rv fv n nk nr nf [] xs ys zs ∧ Fr S w ((w.alloc (.map #[] 0)).setCell ⟨t, 0, none⟩ (.map (some w.heap.size))) := by
  have lt : ∀ {b : Nat} {o : Obj}, w.heap[b]? = some o → b < w.heap.size := fun h => (Array.getElem?_eq_some_iff.1 h).1
  have A := T.alloc (.map #[] 0)
  have other : ∀ b, b ≠ t → ((w.alloc (.map #[] 0)).setCell ⟨t, 0, none⟩ (.map (some w.heap.size))).heap[b]? = (w.alloc (.map #[] 0)).heap[b]? := fun b hb => Below.heap_setCell _ _ _ _ hb
  have ne : ∀ {b : Nat} {c : Array Value} {e : TypeId}, e ≠ 31 → (w.alloc (.map #[] 0)).heap[b]? = some (.cells c e (0, 0)) → b ≠ t := fun he hc e => by
    subst e; rw [A.blk] at hc; simp at hc; exact he hc.2.symm
  refine ⟨⟨(setCell_heap A.blk _).trans (by simp), T.st, ?_, T.sk, ?_, T.sr, ?_, T.sf, .inr ⟨w.heap.size, .map [], rfl, hS _ (Nat.le_refl _), ?_, MapOk.empty⟩⟩, ?_⟩
  · exact row_kept A.rk fun b c hb hc => other b (ne (by decide) hc)
  · exact row_kept A.rr fun b c hb hc => other b (ne (by decide) hc)
  · exact row_kept A.rf fun b c hb hc => other b (ne (by decide) hc)
  · exact ((World.ownsMap_made w Try.prog 9 (plainElem (H := Unit) Try.prog 21)).mono (Nat.zero_le n)).setCell (by have := lt T.blk; show w.heap.size ≠ t; omega) _
  · exact (Fr.alloc _ _ _).trans (Fr.setCell _ _ _ T.st)

/-- .. as the walk spells that world. -/
theorem TabAt.newMap' {B : Nat} (T : TabAt S w t (.map none) kv rv fv n nk nr nf [] xs ys zs) (hS : ∀ b, w.heap.size ≤ b → S b) (hB : B = w.heap.size) :
    TabAt S ((w.setCell ⟨t, 0, none⟩ (.map (some B))).alloc (.map #[] 0)) t (.map (some B)) kv rv fv n nk nr nf [] xs ys zs ∧ Fr S w ((w.setCell ⟨t, 0, none⟩ (.map (some B))).alloc (.map #[] 0)) := by
  subst hB
  have lt : t < w.heap.size := (Array.getElem?_eq_some_iff.1 T.blk).1
  rw [← World.setCell_alloc_past (w := w) (.map #[] 0) t 0 _ lt]
  exact T.newMap hS

/-- The map has been stored into. -/
theorem TabAt.upd {bm : Nat} {w1 : World} {D : DataW Unit} {s : ByteArray} (T : TabAt S w t (.map (some bm)) kv rv fv n nk nr nf ks xs ys zs) (hs : s ∉ ks) (hm : w.ownsMap Try.prog 9 (plainElem (H := Unit) Try.prog 21) bm n D) (ho : MapOk D ks) (hsm : S bm)
    (hm1 : w1.ownsMap Try.prog 9 (plainElem (H := Unit) Try.prog 21) bm (n + 1) (D.put (.string s.data.toList) (.lit (.int .i32 ks.length)))) (hg : w.grownBy w1 (some bm)) :
    TabAt S w1 t (.map (some bm)) kv rv fv (n + 1) nk nr nf (ks ++ [s]) xs ys zs ∧ Fr S w w1 := by
  have lt : ∀ {b : Nat} {o : Obj}, w.heap[b]? = some o → b < w.heap.size := fun h => (Array.getElem?_eq_some_iff.1 h).1
  have ne : ∀ {b : Nat} {c : Array Value} {e : TypeId}, w.heap[b]? = some (.cells c e (0, 0)) → some b ≠ some bm := fun hc e => by
    cases e; obtain ⟨es, cl, hb, _⟩ := hm; rw [hb] at hc; cases hc
  refine ⟨⟨(hg.block t (lt T.blk) (ne T.blk)).trans T.blk, T.st, ?_, T.sk, ?_, T.sr, ?_, T.sf, .inr ⟨bm, _, rfl, hsm, hm1, ho.put (hm.tidy (string_keyed Try.underlying9)) s hs⟩⟩, ?_⟩
  · exact row_kept T.rk fun b c hb hc => hg.block b (lt hc) (ne hc)
  · exact row_kept T.rr fun b c hb hc => hg.block b (lt hc) (ne hc)
  · exact row_kept T.rf fun b c hb hc => hg.block b (lt hc) (ne hc)
  · exact Fr.grown hg fun k e => by cases e; exact hsm

/-- One reader's count has been stored. -/
theorem TabAt.setR {g cap : Nat} {j : Nat} {u : Value} (T : TabAt S w t mv kv (.slice (some ⟨g, 0, none⟩) nr cap) fv n nk nr nf ks xs ys zs) :
    TabAt S (w.setCell ⟨g, j, none⟩ u) t mv kv (.slice (some ⟨g, 0, none⟩) nr cap) fv n nk nr nf ks xs (ys.set j u) zs ∧ Fr S w (w.setCell ⟨g, j, none⟩ u) := by
  have hst := T.rr.stored j u
  have hne : ∀ {b : Nat} {o : Obj}, w.heap[b]? = some o → (∀ c, o ≠ .cells c 21 (0, 0)) → (w.setCell ⟨g, j, none⟩ u).heap[b]? = w.heap[b]? := fun hb hc =>
    Below.heap_setCell _ _ _ _ (fun e => block_apart T.rr hb hc (by rw [e]; rfl))
  refine ⟨⟨(hne T.blk (by simp)).trans T.blk, T.st, ?_, T.sk, ?_, T.sr, ?_, T.sf, ?_⟩, ?_⟩
  · exact row_kept T.rk fun b c hb hc => hne hc (by simp)
  · exact hst.1
  · exact row_kept T.rf fun b c hb hc => hne hc (by simp)
  · exact T.map.kept fun b es cl hb => hne hb (by simp)
  · exact Fr.setCell _ _ _ (T.sr g rfl)

end

end Go.Proofs.Qxb6627794a
