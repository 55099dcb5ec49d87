/-
  (*KeyTable).Bind (function 7): it takes the keys of p's steps one after another, and hands back a Binding whose slots are the answers.
-/
import Derived.Test.Qxb6627794aTake
import Derived.Deep.RegionHeld3
namespace Go.Proofs.Qxb6627794a
open Go.RowKit Go.Maps

/-- What Bind reads of a Prepared at block p. -/
structure PrepAt (w : World) (p gs : Nat) (cur : Array Value) (ss : List ByteArray) : Prop where
  blk : w.heap[p]? = some (.cells #[.pointer none, .slice (some ⟨gs, 0, none⟩) ss.length ss.length] 58 (0, 0))
  row : w.heap[gs]? = some (.cells cur 55 (0, 0))
  keys : KeysAt cur ss ss.length

theorem cell_of {w : World} {b o : Nat} {c : Array Value} {e : TypeId} {v : Value} (h : w.heap[b]? = some (.cells c e (0, 0))) (hc : c[o]? = some v) : w.cell? ⟨b, o, none⟩ = some v := by
  simp [World.cell?, h, hc]
theorem free_of {w : World} {b o : Nat} {c : Array Value} {e : TypeId} (h : w.heap[b]? = some (.cells c e (0, 0))) : w.frozen? ⟨b, o, none⟩ = false := by
  simp [World.frozen?, h]

/-- What holds of the world at a round's head. -/
structure BindRel (S : Nat → Prop) (w : World) (t p gs : Nat) (ks ss : List ByteArray) (cs : List Nat) (k : Nat) (wr : World) : Prop where
  tab : Tab (fun b => S b ∨ w.heap.size + 3 ≤ b) wr t (bdK ks (ss.take k)) (bdC ks cs (ss.take k))
  fr : Fr S w wr
  size : w.heap.size + 3 ≤ wr.heap.size
  r0 : wr.heap[w.heap.size]? = some (.cells #[.pointer none, .pointer none, .slice none 0 0] 35 (0, 0))
  r1 : ∃ c, wr.heap[w.heap.size + 1]? = some (.cells c 21 (0, 0)) ∧ c.size = ss.length ∧ c.toList.take k = c32 (bdS ks (ss.take k))
  r2 : wr.heap[w.heap.size + 2]? = some (.cells #[.pointer (some ⟨p, 0, none⟩), .pointer (some ⟨t, 0, none⟩), .slice (some ⟨w.heap.size + 1, 0, none⟩) ss.length ss.length] 35 (0, 0))

theorem Tab.kept {S : Nat → Prop} {w w' : World} {t : Nat} {ks : List ByteArray} {cs : List Nat} (T : Tab S w t ks cs) (h : ∀ b, b < w.heap.size → S b → w'.heap[b]? = w.heap[b]?) : Tab S w' t ks cs := by
  obtain ⟨hl, mv, kv, rv, fv, T⟩ := T
  exact ⟨hl, mv, kv, rv, fv, T.kept h⟩
theorem Tab.mono {S S' : Nat → Prop} {w : World} {t : Nat} {ks : List ByteArray} {cs : List Nat} (T : Tab S w t ks cs) (h : ∀ b, b < w.heap.size → S b → S' b) : Tab S' w t ks cs := by
  obtain ⟨hl, mv, kv, rv, fv, T⟩ := T
  exact ⟨hl, mv, kv, rv, fv, T.mono h⟩

theorem alloc3_old (w : World) (o1 o2 o3 : Obj) (b : Nat) (h : b < w.heap.size) : (((w.alloc o1).alloc o2).alloc o3).heap[b]? = w.heap[b]? := by
  rw [Below.heap_alloc _ _ _ (by simp; omega), Below.heap_alloc _ _ _ (by simp; omega), Below.heap_alloc _ _ _ h]

theorem BindRel.start {S : Nat → Prop} {w : World} {t p gs : Nat} {ks ss : List ByteArray} {cs : List Nat} {c0 : Array Value} (T : Tab S w t ks cs) (hc0 : c0.size = ss.length) :
    BindRel S w t p gs ks ss cs 0 (((w.alloc (.cells #[.pointer none, .pointer none, .slice none 0 0] 35)).alloc (.cells c0 21)).alloc (.cells #[.pointer (some ⟨p, 0, none⟩), .pointer (some ⟨t, 0, none⟩), .slice (some ⟨w.heap.size + 1, 0, none⟩) ss.length ss.length] 35)) := by
  refine ⟨?_, ⟨rfl, rfl, rfl, by simp; omega, fun k hk _ => alloc3_old _ _ _ _ _ hk⟩, by simp, ?_, ⟨c0, ?_, hc0, by simp [c32, bdS]⟩, ?_⟩
  · exact (T.kept fun b hb _ => alloc3_old _ _ _ _ _ hb).mono fun b _ h => .inl h
  · rw [Below.heap_alloc _ _ _ (by simp; omega), Below.heap_alloc _ _ _ (by simp), heap_alloc_new]
  · rw [Below.heap_alloc _ _ _ (by simp), show w.heap.size + 1 = (w.alloc (.cells #[.pointer none, .pointer none, .slice none 0 0] 35)).heap.size by simp, heap_alloc_new]
  · rw [show w.heap.size + 2 = ((w.alloc (.cells #[.pointer none, .pointer none, .slice none 0 0] 35)).alloc (.cells c0 21)).heap.size by simp, heap_alloc_new]

theorem take_set_succ {l : List Value} {k : Nat} {m : List Value} {u : Value} (h : l.take k = m) (hk : k < l.length) : (l.set k u).take (k + 1) = m ++ [u] := by
  rw [List.take_add_one, List.take_set, List.set_eq_of_length_le (by simp; omega), h, List.getElem?_set_self hk]
  rfl

theorem BindRel.step {S : Nat → Prop} {w wr w1 : World} {t p gs : Nat} {ks ss : List ByteArray} {cs : List Nat} {k : Nat} {s : ByteArray} (h : BindRel S w t p gs ks ss cs k wr) (hS : ∀ b, S b → b < w.heap.size) (hs : ss[k]? = some s)
    (T : Tab (fun b => S b ∨ w.heap.size + 3 ≤ b) w1 t (tkK (bdK ks (ss.take k)) s) (tkC (bdK ks (ss.take k)) (bdC ks cs (ss.take k)) s)) (F : Fr (fun b => S b ∨ w.heap.size + 3 ≤ b) wr w1) :
    BindRel S w t p gs ks ss cs (k + 1) (w1.setCell ⟨w.heap.size + 1, k, none⟩ (.int .i32 (ix s (bdK ks (ss.take k))))) := by
  have hz := h.size
  have hz1 := F.size
  have hkl : k < ss.length := (List.getElem?_eq_some_iff.1 hs).1
  have out : ∀ b, b < w.heap.size + 3 → ¬ S b → w1.heap[b]? = wr.heap[b]? := fun b hb hn => F.block b (by omega) (by rintro (h | h); exact hn h; omega)
  have new : ∀ b, w.heap.size ≤ b → ¬ S b := fun b hb e => by have := hS b e; omega
  have other : ∀ b, b ≠ w.heap.size + 1 → (w1.setCell ⟨w.heap.size + 1, k, none⟩ (.int .i32 (ix s (bdK ks (ss.take k))))).heap[b]? = w1.heap[b]? := fun b hb => Below.heap_setCell _ _ _ _ hb
  refine ⟨?_, ?_, by simp [World.setCell]; omega, ?_, ?_, ?_⟩
  · rw [bdK_step hs, bdC_step hs]
    exact T.kept fun b _ hb => other b (by rcases hb with hb | hb; have := hS b hb; omega; omega)
  · refine ⟨F.os.trans h.fr.os, F.tape.trans h.fr.tape, F.output.trans h.fr.output, by simp [World.setCell]; omega, fun b hb hn => ?_⟩
    rw [other b (by omega), out b (by omega) hn]
    exact h.fr.block b hb hn
  · rw [other _ (by omega), out _ (by omega) (new _ (by omega))]; exact h.r0
  · obtain ⟨c, hc, hcs, hct⟩ := h.r1
    have hc1 : w1.heap[w.heap.size + 1]? = some (.cells c 21 (0, 0)) := (out _ (by omega) (new _ (by omega))).trans hc
    refine ⟨_, setCell_heap hc1 _, by simpa using hcs, ?_⟩
    rw [bdS_step hs, ← c32_append, Array.toList_setIfInBounds]
    exact take_set_succ hct (by simp; omega)
  · rw [other _ (by omega), out _ (by omega) (new _ (by omega))]; exact h.r2

theorem bind_after {S : Nat → Prop} {w wr w1 : World} {t p gs : Nat} {ks ss : List ByteArray} {cs : List Nat} {k : Nat} {c : Array Value} {u v2 v3 : Value} (h : BindRel S w t p gs ks ss cs k wr) (hS : ∀ b, S b → b < w.heap.size)
    (F : Fr (fun b => S b ∨ w.heap.size + 3 ≤ b) wr.drew w1) (plt : p < w.heap.size) (gslt : gs < w.heap.size) (np : ¬ S p) (ngs : ¬ S gs) (q2 : wr.cell? ⟨p, 1, none⟩ = some v2) (q3 : wr.cell? ⟨gs, k * 14, none⟩ = some v3)
    (hc : wr.heap[w.heap.size + 1]? = some (.cells c 21 (0, 0))) (hck : c[k]? = some u) :
    w1.cell? ⟨w.heap.size + 1 + 1, 2, none⟩ = some (.slice (some ⟨w.heap.size + 1, 0, none⟩) ss.length ss.length) ∧ w1.cell? ⟨p, 1, none⟩ = some v2 ∧ w1.cell? ⟨gs, k * 14, none⟩ = some v3 ∧ w1.cell? ⟨w.heap.size + 1, k, none⟩ = some u ∧ w1.frozen? ⟨w.heap.size + 1, k, none⟩ = false := by
  have hz := h.size
  have out : ∀ b, b < w.heap.size + 3 → ¬ S b → w1.heap[b]? = wr.heap[b]? := fun b hb hn => F.block b (by show b < wr.heap.size; omega) (by rintro (h | h); exact hn h; omega)
  have new : ∀ b, w.heap.size ≤ b → ¬ S b := fun b hb e => by have := hS b e; omega
  have hc1 := (out _ (by omega) (new _ (by omega))).trans hc
  refine ⟨cell_of ((out (w.heap.size + 2) (by omega) (new _ (by omega))).trans h.r2) (by simp), ?_, ?_, cell_of hc1 hck, free_of hc1⟩
  · rw [World.cell?_of_block (w := wr) (out p (by omega) np)]; exact q2
  · rw [World.cell?_of_block (w := wr) (out gs (by omega) ngs)]; exact q3

theorem bind_end {S : Nat → Prop} {w wr : World} {t p gs : Nat} {ks ss : List ByteArray} {cs : List Nat} {k : Nat} (h : BindRel S w t p gs ks ss cs k wr) (hS : ∀ b, S b → b < w.heap.size) (hk : k = ss.length) (u0 u1 u2 : Value) :
    Tab (fun b => S b ∨ w.heap.size + 3 ≤ b) (((wr.setCell ⟨w.heap.size, 0, none⟩ u0).setCell ⟨w.heap.size, 1, none⟩ u1).setCell ⟨w.heap.size, 2, none⟩ u2) t (bdK ks ss) (bdC ks cs ss) ∧
      Fr S w (((wr.setCell ⟨w.heap.size, 0, none⟩ u0).setCell ⟨w.heap.size, 1, none⟩ u1).setCell ⟨w.heap.size, 2, none⟩ u2) ∧
      w.heap.size + 3 ≤ (((wr.setCell ⟨w.heap.size, 0, none⟩ u0).setCell ⟨w.heap.size, 1, none⟩ u1).setCell ⟨w.heap.size, 2, none⟩ u2).heap.size ∧
      (((wr.setCell ⟨w.heap.size, 0, none⟩ u0).setCell ⟨w.heap.size, 1, none⟩ u1).setCell ⟨w.heap.size, 2, none⟩ u2).heap[w.heap.size + 1]? = some (.cells (c32 (bdS ks ss)).toArray 21 (0, 0)) := by
  have hz := h.size
  have other : ∀ b, b ≠ w.heap.size → (((wr.setCell ⟨w.heap.size, 0, none⟩ u0).setCell ⟨w.heap.size, 1, none⟩ u1).setCell ⟨w.heap.size, 2, none⟩ u2).heap[b]? = wr.heap[b]? := fun b hb => by
    rw [Below.heap_setCell _ _ _ _ hb, Below.heap_setCell _ _ _ _ hb, Below.heap_setCell _ _ _ _ hb]
  have hsz : (((wr.setCell ⟨w.heap.size, 0, none⟩ u0).setCell ⟨w.heap.size, 1, none⟩ u1).setCell ⟨w.heap.size, 2, none⟩ u2).heap.size = wr.heap.size := by simp [World.setCell]
  have ht : ss.take k = ss := by rw [hk, List.take_length]
  refine ⟨?_, ⟨h.fr.os, h.fr.tape, h.fr.output, by rw [hsz]; omega, fun b hb hn => ?_⟩, by rw [hsz]; exact hz, ?_⟩
  · have T := h.tab
    rw [ht] at T
    exact T.kept fun b _ hb => other b (by rcases hb with hb | hb; have := hS b hb; omega; omega)
  · rw [other b (by omega)]
    exact h.fr.block b hb hn
  · rw [other _ (by omega)]
    obtain ⟨c, hc, hcs, hct⟩ := h.r1
    rw [hc]
    rw [ht, List.take_of_length_le (by rw [Array.length_toList]; omega)] at hct
    rw [← hct]

set_option maxHeartbeats 800000 in
set_option maxRecDepth 100000 in
theorem bind7 (S : Nat → Prop) (w : World) (t p gs : Nat) (cur : Array Value) (ks ss : List ByteArray) (cs : List Nat) (T : Tab S w t ks cs) (hS : ∀ b, S b → b < w.heap.size) (hp : PrepAt w p gs cur ss) (np : ¬ S p) (ngs : ¬ S gs)
    (hn : ks.length + ss.length ≤ 10000) (hsum : cs.sum + ss.length ≤ 100000) (hsz : ∀ s ∈ ss, s.size ≤ 1048576) :
    Calls Try.prog 7 #[.pointer (some ⟨t, 0, none⟩), .pointer (some ⟨p, 0, none⟩)] w fun e w' =>
      e = .returned (.agg #[.pointer (some ⟨p, 0, none⟩), .pointer (some ⟨t, 0, none⟩), .slice (some ⟨w.heap.size + 1, 0, none⟩) ss.length ss.length]) ∧
      Tab (fun b => S b ∨ w.heap.size + 3 ≤ b) w' t (bdK ks ss) (bdC ks cs ss) ∧ Fr S w w' ∧ w.heap.size + 3 ≤ w'.heap.size ∧
      w'.heap[w.heap.size + 1]? = some (.cells (c32 (bdS ks ss)).toArray 21 (0, 0)) := by
  obtain ⟨c0, hc0, hmk⟩ := made_row 26 21 1 4 _ Try.underlying26 info21 ss.length (by omega) (by omega)
  have p1 : w.cell? ⟨p, 1, none⟩ = some (.slice (some ⟨gs, 0, none⟩) ss.length ss.length) := cell_of hp.blk (by simp)
  have plt : p < w.heap.size := (Array.getElem?_eq_some_iff.1 hp.blk).1
  have gslt : gs < w.heap.size := (Array.getElem?_eq_some_iff.1 hp.row).1
  have plt1 : p < w.heap.size + 1 := by omega
  have plt2 : p < w.heap.size + 1 + 1 := by omega
  have hl := T.1
  have HT : Hid (Tab S w t ks cs) := T
  have HN : Hid (∀ b, S b → b < w.heap.size) := hS
  have HZ : Hid (∀ s ∈ ss, s.size ≤ 1048576) := hsz
  have HL : Hid (cs.length = ks.length) := hl
  clear T hS hsz hl
  go_enter Try.func7, Try.ntmps7
  go_wp2
  go_loopw [21] (fun i wr => ∃ k : Nat, k ≤ ss.length ∧ i = .int .i64 k ∧ BindRel S w t p gs ks ss cs k wr) (fun i _ => ss.length - (intOf i).toNat)
  case atStart => exact ⟨0, Nat.zero_le _, rfl, BindRel.start HT.out (by omega)⟩
  case round =>
    clear plt1 plt2 p1 hmk hc0
    obtain ⟨k, hk, rfl, hrel⟩ := hrel
    by_cases hkl : k < ss.length
    · obtain ⟨s, hs⟩ := get_some hkl
      have hsz := HZ.out s (List.mem_of_getElem? hs)
      have pr : wr.heap[p]? = w.heap[p]? := hrel.fr.block p plt np
      have gr : wr.heap[gs]? = w.heap[gs]? := hrel.fr.block gs gslt ngs
      have q1 : wr.cell? ⟨w.heap.size + 1 + 1, 2, none⟩ = some (.slice (some ⟨w.heap.size + 1, 0, none⟩) ss.length ss.length) := cell_of hrel.r2 (by simp)
      have q2 : wr.cell? ⟨p, 1, none⟩ = some (.slice (some ⟨gs, 0, none⟩) ss.length ss.length) := cell_of (pr.trans hp.blk) (by simp)
      have q3 : wr.cell? ⟨gs, k * 14, none⟩ = some (.string s) := cell_of (gr.trans hp.row) (hp.keys k s hkl hs)
      have HS : Hid (ss[k]? = some s) := hs
      clear hs pr gr
      go_wp2
      have hb1 : (bdK ks (ss.take k)).length ≤ 10000 := by have := bdK_len ks (ss.take k); simp at this; omega
      have hb2 : (bdC ks cs (ss.take k)).sum ≤ 100000 := by rw [bd_sum _ _ _ HL.out]; simp; omega
      obtain ⟨c, hc, hcs, _⟩ := hrel.r1
      have hck : c[k]? = some c[k] := Array.getElem?_eq_getElem (by omega)
      have HC : Hid (c[k]? = some c[k]) := hck
      have HH : Hid (wr.heap[w.heap.size + 1]? = some (.cells c 21 (0, 0))) := hc
      clear hck hc
      have nn1 : ¬ w.heap.size + 1 = p := by omega
      have nn2 : ¬ w.heap.size + 1 = gs := by omega
      go_region_held3 (fun w' => w'.cell? ⟨w.heap.size + 1 + 1, 2, none⟩ = some (.slice (some ⟨w.heap.size + 1, 0, none⟩) ss.length ss.length) ∧ w'.cell? ⟨p, 1, none⟩ = some (.slice (some ⟨gs, 0, none⟩) ss.length ss.length) ∧ w'.cell? ⟨gs, k * 14, none⟩ = some (.string s)) (go_keep)
        (first | (go_at_call 20; refine (take20 (fun b => S b ∨ w.heap.size + 3 ≤ b) wr.drew t _ _ s (hrel.tab.kept fun _ _ _ => rfl) (fun b hb => .inr (Nat.le_trans hrel.size hb)) hb1 hb2 hsz).mono ?_; rintro e w1 ⟨rfl, T1, F1⟩; obtain ⟨o1, o2, o3, o4, o5⟩ := bind_after hrel HN.out F1 plt gslt np ngs q2 q3 HH.out HC.out))
      go_wp2
      go_roundw
      case rel => exact ⟨k + 1, by omega, by go_num, hrel.step HN.out HS.out T1 ((Fr.drew _ _).trans F1)⟩
      case measure => simp [intOf]; omega
    · have HK : Hid (k = ss.length) := show k = ss.length by omega
      have hz := hrel.size
      have q0 : wr.cell? ⟨w.heap.size, 0, none⟩ = some (.pointer none) := cell_of hrel.r0 (by simp)
      have q1 : wr.cell? ⟨w.heap.size, 1, none⟩ = some (.pointer none) := cell_of hrel.r0 (by simp)
      have q2 : wr.cell? ⟨w.heap.size, 2, none⟩ = some (.slice none 0 0) := cell_of hrel.r0 (by simp)
      have q3 : wr.cell? ⟨w.heap.size + 1 + 1, 0, none⟩ = some (.pointer (some ⟨p, 0, none⟩)) := cell_of hrel.r2 (by simp)
      have q4 : wr.cell? ⟨w.heap.size + 1 + 1, 1, none⟩ = some (.pointer (some ⟨t, 0, none⟩)) := cell_of hrel.r2 (by simp)
      have q5 : wr.cell? ⟨w.heap.size + 1 + 1, 2, none⟩ = some (.slice (some ⟨w.heap.size + 1, 0, none⟩) ss.length ss.length) := cell_of hrel.r2 (by simp)
      have q6 : ∀ j, wr.frozen? ⟨w.heap.size, j, none⟩ = false := fun j => free_of hrel.r0
      go_wp2
      refine bodyPost_ret (v := .agg #[.pointer (some ⟨p, 0, none⟩), .pointer (some ⟨t, 0, none⟩), .slice (some ⟨w.heap.size + 1, 0, none⟩) ss.length ss.length]) (by simp [results, Try.results7, go_sem, q0, q1, q2]) rfl ⟨rfl, ?_⟩
      exact bind_end hrel HN.out HK.out _ _ _
/-- Behind ZZnewPrepared: a Prepared at block p, all of it new. -/
def Prepd (w w' : World) (p : Nat) (ss : List ByteArray) : Prop :=
  ∃ g cur, PrepAt w' p g cur ss ∧ Below w.heap.size w w' ∧ w.heap.size ≤ p ∧ w.heap.size ≤ g

theorem prep6' (a : Option Addr) (ss : List ByteArray) (n cap : Nat) (w : World) (hs : IsStrs w a ss) (hn : n = ss.length) (hl : ss.length ≤ 4096) :
    Calls Try.prog 6 #[.slice a n cap] w fun e w' => ∃ p, e = .returned (.pointer (some ⟨p, 0, none⟩)) ∧ Prepd w w' p ss := by
  subst hn
  refine (prep6 a ss cap w hs hl).mono ?_
  rintro e w' ⟨rfl, cur, hk, rfl⟩
  refine ⟨_, rfl, _, cur, ⟨?_, ?_, hk⟩, ((Below.refl _ _).alloc (Nat.le_refl _) _).alloc (by simp) _, Nat.le_succ _, Nat.le_refl _⟩
  · rw [show w.heap.size + 1 = (w.alloc (.cells cur 55)).heap.size by simp, heap_alloc_new]
  · rw [Below.heap_alloc _ _ _ (by simp), heap_alloc_new]

/-- Behind Bind: the table, and the row of slots at block g. -/
structure Bound (S : Nat → Prop) (w w' : World) (t g : Nat) (ks : List ByteArray) (cs : List Nat) (ss : List ByteArray) : Prop where
  tab : Tab (fun b => (S b ∨ w.heap.size ≤ b) ∧ b ≠ g ∧ b < w'.heap.size) w' t (bdK ks ss) (bdC ks cs ss)
  fr : Fr S w w'
  new : w.heap.size ≤ g
  row : w'.heap[g]? = some (.cells (c32 (bdS ks ss)).toArray 21 (0, 0))

theorem bind7' (S : Nat → Prop) (w0 w : World) (t p : Nat) (ks ss : List ByteArray) (cs : List Nat) (T : Tab S w0 t ks cs) (hS : ∀ b, S b → b < w0.heap.size) (hp : Prepd w0 w p ss)
    (hn : ks.length + ss.length ≤ 10000) (hsum : cs.sum + ss.length ≤ 100000) (hsz : ∀ s ∈ ss, s.size ≤ 1048576) :
    Calls Try.prog 7 #[.pointer (some ⟨t, 0, none⟩), .pointer (some ⟨p, 0, none⟩)] w fun e w' =>
      ∃ g, e = .returned (.agg #[.pointer (some ⟨p, 0, none⟩), .pointer (some ⟨t, 0, none⟩), .slice (some ⟨g, 0, none⟩) ss.length ss.length]) ∧ Bound S w w' t g ks cs ss := by
  obtain ⟨gs, cur, hpa, hb, hp1, hp2⟩ := hp
  have T' : Tab S w t ks cs := T.kept fun b hb' _ => hb.block b hb'
  refine (bind7 S w t p gs cur ks ss cs T' (fun b hb' => Nat.lt_of_lt_of_le (hS b hb') hb.size) hpa (fun h => by have := hS _ h; omega) (fun h => by have := hS _ h; omega) hn hsum hsz).mono ?_
  rintro e w' ⟨rfl, h1, h2, h3, h4⟩
  refine ⟨_, rfl, h1.mono fun b hb' h => ?_, h2, Nat.le_succ _, h4⟩
  rcases h with h | h
  · exact ⟨.inl h, by have := hS _ h; have := hb.size; omega, hb'⟩
  · exact ⟨.inr (by omega), by omega, hb'⟩

/-- A table that has just been made. -/
theorem Tab.new (w : World) : Tab (fun b => b = w.heap.size) (w.alloc (.cells #[.map none, .slice none 0 0, .slice none 0 0, .slice none 0 0, .slice none 0 0, .map none, .int .u64 0] 31)) w.heap.size [] [] :=
  ⟨rfl, .map none, .slice none 0 0, .slice none 0 0, .slice none 0 0,
    ⟨heap_alloc_new _ _, rfl, World.ownsRow_nil _ _ _ _, by simp [Value.ownBlock], World.ownsRow_nil _ _ _ _, by simp [Value.ownBlock], World.ownsRow_nil _ _ _ _, by simp [Value.ownBlock], .inl ⟨rfl, rfl⟩⟩⟩

end Go.Proofs.Qxb6627794a
