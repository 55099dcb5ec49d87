/-
  append onto a row that the call owns, out of whatever source (a slice, one byte, a string's bytes): the law at the operation, at a plain region's list and at a step of a region that draws its order. Over any program.
-/
import Derived.Deep.AppendLies
import Derived.Deep.Upon
import Derived.OwnWalk
namespace Go.Proofs.Qxb6627880a
open Go.RowKit

theorem tape_setCells (g : Nat) : ∀ (vs : List Value) (o : Nat) (w : World), (w.setCells g o vs).tape = w.tape
  | [], _, _ => rfl
  | u :: r, o, w => by rw [World.setCells, tape_setCells g r (o + 1)]; rfl
theorem size_setCells (g : Nat) : ∀ (vs : List Value) (o : Nat) (w : World), (w.setCells g o vs).heap.size = w.heap.size
  | [], _, _ => rfl
  | u :: r, o, w => by rw [World.setCells, size_setCells g r (o + 1)]; simp [World.setCell]

section
variable {P : Program} (w : World)

theorem run_append_src (t tx ty e : TypeId) (i : TypeInfo) (z : Value) (bytes : Nat) (ht : P.underlying t = some (.slice e)) (hi : P.info? e = some i) (hz : i.zero = some z) (hsize : i.size = 1) (hby : i.bytes = bytes) (hzs : z.cells.size = 1)
    (v : Value) (n : Nat) (xs : List Value) (hown : w.ownsRow 0 e 1 v n xs) (x : Value) (m : Nat) (news : List Value) (hs : Src P 1 tx x m news w) (h63 : n + m ≤ maxLen) (hbytes : (n + m) * bytes ≤ 140737488355328) :
    ∃ v' w', (Builtin.append_ #[t, tx] ty #[v, x]).run P w = .ok v' w' ∧ w'.ownsRow 0 e 1 v' (n + m) (xs ++ news) ∧ w.grownBy w' v.ownBlock ∧ (v'.ownBlock = v.ownBlock ∨ v'.ownBlock = some w.heap.size) := by
  subst hby
  have hsmall : n + m ≤ 9223372036854775807 := by simp only [maxLen] at h63; omega
  have hs' : Src P i.size tx x m news w := by rw [hsize]; exact hs
  have hnl : news.length = m := by have := hs.newsLen; omega
  have hxl : xs.length = n := by have := hown.1; omega
  have hlen : (xs ++ news).length = (n + m) * 1 := by rw [List.length_append]; omega
  have grown : ∀ (old : Nat), ∀ (row : Option Nat),
      (w.drew.alloc (.cells ((xs ++ news).toArray ++ Builtin.zeroCells z.cells (grownCap w (n + m) old e - (n + m))) e)).ownsRow 0 e 1 (.slice (some ⟨w.heap.size, 0, none⟩) (n + m) (grownCap w (n + m) old e)) (n + m) (xs ++ news) ∧
      w.grownBy (w.drew.alloc (.cells ((xs ++ news).toArray ++ Builtin.zeroCells z.cells (grownCap w (n + m) old e - (n + m))) e)) row := by
    intro old row
    have hge := grownCap_ge w (n + m) old e
    have hcm : grownCap w (n + m) old e ≤ maxLen := grownCap_le_maxLen w (n + m) old e h63
    refine ⟨⟨hlen, .inr ⟨w.heap.size, _, _, rfl, Nat.zero_le _, heap_alloc_new w.drew _, hge, hcm, ?_, ?_⟩⟩, ⟨rfl, rfl, rfl, by simp, fun k hk _ => heap_alloc_old w.drew _ k hk⟩⟩
    · simp only [Array.size_append, List.size_toArray, size_zeroCells, hzs, hlen]
      omega
    · simp only [Array.toList_append]
      rw [← hlen]
      exact List.take_left
  rcases hown.2 with ⟨rfl, rfl⟩ | ⟨g, cap, cur, rfl, hbg, hg, hnc, hcm, hcs, htake⟩
  · have hx : xs = [] := List.eq_nil_of_length_eq_zero hxl
    subst hx
    by_cases hm : m = 0
    · subst hm
      have hn : news = [] := List.eq_nil_of_length_eq_zero hnl
      subst hn
      exact ⟨.slice none 0 0, w, run_append_nothing w t tx ty e i ht hi none 0 0 (Nat.le_refl _) x hs', World.ownsRow_nil w 0 e 1, ⟨rfl, rfl, rfl, Nat.le_refl _, fun _ _ _ => rfl⟩, Or.inl rfl⟩
    · have hr := run_append_grow_src (P := P) w t tx ty e i z ht hi hz none 0 0 [] (by simpa using run_firstCells_none (P := P) w.drew i.size 0 0 0) x m news hs' (by omega) (by omega) (growslice_fits (by omega) hbytes)
      have hgr := grown 0 (Value.ownBlock (.slice none 0 0))
      exact ⟨_, _, hr, hgr.1, hgr.2, Or.inr rfl⟩
  · by_cases hroom : n + m ≤ cap
    · have hr := run_append_room_src (P := P) w t tx ty e i ht hi g 0 n cap x m news hs' hroom (fun j hj => by
          rw [cell_of_row w g _ cur e (0, 0) hg, hsize]; simp; omega) (fun j hj => frozen_of_row w g _ cur e hg)
      have hb : ∀ (vs : List Value) (o : Nat) (c : Array Value) (W : World), W.heap[g]? = some (.cells c e (0, 0)) → (W.setCells g o vs).heap[g]? = some (.cells (vs.foldl (fun (p : Array Value × Nat) u => (p.1.setIfInBounds p.2 u, p.2 + 1)) (c, o)).1 e (0, 0)) := by
        intro vs
        induction vs with
        | nil => intro o c W h; exact h
        | cons u r ih =>
          intro o c W h
          rw [World.setCells]
          exact ih (o + 1) _ _ (by simp [World.setCell, Array.getElem?_modify, h])
      have hfold : ∀ (vs : List Value) (o : Nat) (c : Array Value), (vs.foldl (fun (p : Array Value × Nat) u => (p.1.setIfInBounds p.2 u, p.2 + 1)) (c, o)).1.size = c.size ∧
          (o + vs.length ≤ c.size → (vs.foldl (fun (p : Array Value × Nat) u => (p.1.setIfInBounds p.2 u, p.2 + 1)) (c, o)).1.toList.take (o + vs.length) = c.toList.take o ++ vs) := by
        intro vs
        induction vs with
        | nil => intro o c; exact ⟨rfl, fun _ => by simp⟩
        | cons u r ih =>
          intro o c
          obtain ⟨h1, h2⟩ := ih (o + 1) (c.setIfInBounds o u)
          refine ⟨by simpa using h1, fun hle => ?_⟩
          simp only [List.length_cons] at hle
          have := h2 (by simp; omega)
          simp only [List.foldl_cons, List.length_cons]
          rw [show o + (r.length + 1) = o + 1 + r.length by omega, this, Array.toList_setIfInBounds]
          rw [List.take_add_one, List.take_set, List.set_eq_of_length_le (by simp; omega), List.getElem?_set_self (by simp; omega)]
          simp
      have hhp := hb news (n * 1) cur w hg
      obtain ⟨f1, f2⟩ := hfold news (n * 1) cur
      rw [hsize, Nat.zero_add] at hr
      refine ⟨_, _, hr, ⟨hlen, .inr ⟨g, cap, _, rfl, Nat.zero_le _, hhp, hroom, hcm, by rw [f1]; exact hcs, ?_⟩⟩, ⟨World.os_setCells _ _ _ _, tape_setCells _ _ _ _, World.output_setCells _ _ _ _, Nat.le_of_eq (size_setCells _ _ _ _).symm, fun k hk hne => World.heap_setCells_other _ _ _ _ hk (fun e => hne (by rw [e]; rfl))⟩, Or.inl rfl⟩
      rw [show (n + m) * 1 = n * 1 + news.length by omega, f2 (by omega), htake]
    · have holds : ∀ j u, xs[j]? = some u → w.cell? ((⟨g, 0, none⟩ : Addr).add j) = some u := hown.cells (g := g) rfl
      have hfirst := run_firstCells_some (P := P) w.drew i.size n ⟨g, 0, none⟩ n cap xs (by rw [hsize]; omega) (by simpa using holds)
      have hr := run_append_grow_src (P := P) w t tx ty e i z ht hi hz (some ⟨g, 0, none⟩) n cap xs hfirst x m news hs' (by omega) (by omega) (growslice_fits (by omega) hbytes)
      have hgr := grown cap (Value.ownBlock (.slice (some ⟨g, 0, none⟩) n cap))
      exact ⟨_, _, hr, hgr.1, hgr.2, Or.inr rfl⟩

/-- At the operation. -/
theorem wp_append_src {o : Oper} {a : Act} {K : Act → World → Prop} {Q : Exit → Act → World → Prop} (s x : Operand) (t tx : TypeId)
    (ho : o.op = .call { callee := .builtin .append, args := #[s, x], argTypes := #[t, tx] })
    (e : TypeId) (z : Value) (bytes : Nat) (ht : P.underlying t = some (.slice e)) (hi : (P.info? e).map (fun i => (i.zero, i.size, i.bytes)) = some (some z, 1, bytes)) (hzs : z.cells.size = 1)
    (v : Value) (n : Nat) (xs : List Value) (hs : a.eval s = v) (hown : w.ownsRow 0 e 1 v n xs) (xv : Value) (m : Nat) (news : List Value) (hx : a.eval x = xv) (hsrc : Src P 1 tx xv m news w)
    (hn : n + m ≤ 1000000000) (hb : bytes ≤ 1000)
    (h : ∀ v' w', w'.ownsRow 0 e 1 v' (n + m) (xs ++ news) → w.grownBy w' v.ownBlock → (v'.ownBlock = v.ownBlock ∨ v'.ownBlock = some w.heap.size) → K (a.put o.dst v') w') : o.wp P a w K Q := by
  obtain ⟨i, hi', hz0, hz1, hz2⟩ := info_parts hi
  have hbytes : (n + m) * bytes ≤ 1000000000 * 1000 := Nat.mul_le_mul hn hb
  obtain ⟨v', w', hr, h2, h3, h4⟩ := run_append_src (P := P) w t tx o.type e i z bytes ht hi' hz0 hz1 hz2 hzs v n xs hown xv m news hsrc (by unfold maxLen; omega) (by omega)
  unfold Oper.wp execOp
  simp only [ho, resolve, invoke, builtin, Sem.run_bind, Sem.run_pure, Result.andThen_ok, List.map_toArray, List.map_cons, List.map_nil, hs, hx, hr]
  exact h v' w' h2 h3 h4

/-- At a plain region's list. -/
theorem wpList_append_src {ops : Array Oper} {rest : List Oper} {o : Oper} {a : Act} {Q : Exit → Act → World → Prop} (hgd : o.guard = none) (s x : Operand) (t tx : TypeId)
    (ho : o.op = .call { callee := .builtin .append, args := #[s, x], argTypes := #[t, tx] })
    (e : TypeId) (z : Value) (bytes : Nat) (ht : P.underlying t = some (.slice e)) (hi : (P.info? e).map (fun i => (i.zero, i.size, i.bytes)) = some (some z, 1, bytes)) (hzs : z.cells.size = 1)
    (v : Value) (n : Nat) (xs : List Value) (hs : a.eval s = v) (hown : w.ownsRow 0 e 1 v n xs) (xv : Value) (m : Nat) (news : List Value) (hx : a.eval x = xv) (hsrc : Src P 1 tx xv m news w)
    (hn : n + m ≤ 1000000000) (hb : bytes ≤ 1000)
    (h : ∀ v' w', w'.ownsRow 0 e 1 v' (n + m) (xs ++ news) → w.grownBy w' v.ownBlock → (v'.ownBlock = v.ownBlock ∨ v'.ownBlock = some w.heap.size) → wpList P ops Q rest (a.put o.dst v') w') : wpList P ops Q (o :: rest) a w :=
  wpList_plain hgd fun _ hK => wp_append_src w s x t tx ho e z bytes ht hi hzs v n xs hs hown xv m news hx hsrc hn hb fun v' w' h2 h3 h4 => hK _ _ (h v' w' h2 h3 h4)

/-- At a step of a region that draws its order. -/
theorem step_append_src {ops : Array Oper} {o : Oper} {a : Act} {K : Act → World → Prop} {Q : Exit → Act → World → Prop} {E : Prop} (hgd : o.guard = none) (s x : Operand) (t tx : TypeId)
    (ho : o.op = .call { callee := .builtin .append, args := #[s, x], argTypes := #[t, tx] })
    (e : TypeId) (z : Value) (bytes : Nat) (ht : P.underlying t = some (.slice e)) (hi : (P.info? e).map (fun i => (i.zero, i.size, i.bytes)) = some (some z, 1, bytes)) (hzs : z.cells.size = 1)
    (v : Value) (n : Nat) (xs : List Value) (hs : a.eval s = v) (hown : w.ownsRow 0 e 1 v n xs) (xv : Value) (m : Nat) (news : List Value) (hx : a.eval x = xv) (hsrc : Src P 1 tx xv m news w)
    (hn : n + m ≤ 1000000000) (hb : bytes ≤ 1000)
    (h : ∀ v' w', w'.ownsRow 0 e 1 v' (n + m) (xs ++ news) → w.grownBy w' v.ownBlock → (v'.ownBlock = v.ownBlock ∨ v'.ownBlock = some w.heap.size) → K (a.put o.dst v') w') :
    if Region.wanted o (yielded ops a.tmps) = true then Oper.wp P o a w K Q else E := by
  have hw : Region.wanted o (yielded ops a.tmps) = true := by simp [Region.wanted, hgd]
  rw [if_pos hw]
  exact wp_append_src w s x t tx ho e z bytes ht hi hzs v n xs hs hown xv m news hx hsrc hn hb h
end

end Go.Proofs.Qxb6627880a
