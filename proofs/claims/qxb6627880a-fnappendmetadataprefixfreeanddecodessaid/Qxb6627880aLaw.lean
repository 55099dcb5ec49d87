/-
  What both laws use: rows read as bytes, pairs cut in two, bounds; zzSameBytes (10).
-/
import Derived.Test.Qxb6627880aMeta
namespace Go.Proofs.Qxb6627880a
open Go.RowKit

theorem row_shape {w : World} {e : TypeId} {sz : Nat} {v : Value} {n : Nat} {xs : List Value} (h : w.ownsRow 0 e sz v n xs) : ∃ a c, v = .slice a n c := by
  rcases h.2 with ⟨rfl, rfl⟩ | ⟨g, cap, cur, rfl, _⟩
  · exact ⟨_, _, rfl⟩
  · exact ⟨_, _, rfl⟩

theorem own_bytes {w : World} {a : Option Addr} {n c : Nat} {bs : List UInt8} (h : w.ownsRow 0 5 1 (.slice a n c) n (cells8 bs)) : IsBytes w a bs ∧ (a = none → bs = []) ∧ n = bs.length := by
  have hl := h.1
  rw [cells8_len] at hl
  rcases h.2 with ⟨e, rfl⟩ | ⟨g, cap, cur, e, _, hg, _, _, _, ht⟩
  · have : bs = [] := List.eq_nil_of_length_eq_zero (by omega)
    exact ⟨.inl this, fun _ => this, by omega⟩
  · cases e
    refine ⟨.inr ⟨g, 0, rfl, (Array.getElem?_eq_some_iff.1 hg).1, fun j x hx => ?_⟩, (fun e => by cases e), by omega⟩
    have hj := (List.getElem?_eq_some_iff.1 hx).1
    rw [Nat.zero_add, h.cellAt j (by omega)]
    simp [cells8, hx]

/-- A row is kept where its block is. -/
theorem own_below {w w' : World} {v : Value} {n : Nat} {xs : List Value} (h : w.ownsRow 0 5 1 v n xs) (hb : Below w.heap.size w w') : w'.ownsRow 0 5 1 v n xs := by
  refine ⟨h.1, ?_⟩
  rcases h.2 with hn | ⟨g, cap, cur, rfl, hb', hg, r⟩
  · exact .inl hn
  · exact .inr ⟨g, cap, cur, rfl, hb', (hb.block g (Array.getElem?_eq_some_iff.1 hg).1).trans hg, r⟩

theorem MetaRel.trans {w w1 w2 : World} {v0 v1 v2 : Value} {B C : List UInt8} (h : MetaRel w w1 v0 v1 B) (k : MetaRel w1 w2 v1 v2 C) : MetaRel w w2 v0 v2 C := by
  have z1 := h.grown.size
  refine ⟨k.own, ⟨k.grown.os.trans h.grown.os, k.grown.tape.trans h.grown.tape, k.grown.output.trans h.grown.output, Nat.le_trans z1 k.grown.size, fun i hi hne => ?_⟩, ?_⟩
  · rw [k.grown.block i (by omega) (fun e => ?_), h.grown.block i hi hne]
    rcases h.lies with e' | ⟨g, e', hge⟩
    · exact hne (e.trans e')
    · rw [e'] at e; cases e; omega
  · rcases k.lies with e | ⟨g, e, hge⟩
    · rw [e]; exact h.lies
    · exact .inr ⟨g, e, by omega⟩

/-- Where the row that was appended to is new, nothing old has turned. -/
theorem MetaRel.below {w w1 : World} {v0 v1 : Value} {B : List UInt8} {N : Nat} (h : MetaRel w w1 v0 v1 B) (hN : N ≤ w.heap.size) (hv : ∀ g, v0.ownBlock = some g → N ≤ g) : Below N w w1 :=
  ⟨h.grown.os, h.grown.tape, h.grown.output, h.grown.size, fun k hk => h.grown.block k (by omega) (fun e => by have := hv k e.symm; omega)⟩
theorem MetaRel.new {w w1 : World} {v0 v1 : Value} {B : List UInt8} {N : Nat} (h : MetaRel w w1 v0 v1 B) (hN : N ≤ w.heap.size) (hv : ∀ g, v0.ownBlock = some g → N ≤ g) : ∀ g, v1.ownBlock = some g → N ≤ g := by
  intro g hg
  rcases h.lies with e | ⟨g', e, hge⟩
  · exact hv g (e ▸ hg)
  · rw [e] at hg; cases hg; omega

/-- The pairs that zzPairs has laid. -/
theorem PairsRel.pairs {w w' : World} {xs ys : List ByteArray} (h : PairsRel w w' xs ys xs.length) : IsPairs w' (some ⟨w.heap.size, 0, none⟩) (xs.zip ys) := by
  obtain ⟨cur, hc, _, hp⟩ := h.row
  refine .inr ⟨w.heap.size, 0, rfl, (Array.getElem?_eq_some_iff.1 hc).1, fun j p hj => ?_⟩
  obtain ⟨x, y⟩ := p
  rw [List.getElem?_zip_eq_some] at hj
  obtain ⟨h1, h2⟩ := hp j x y (List.getElem?_eq_some_iff.1 hj.1).1 hj.1 hj.2
  rw [Nat.zero_add]
  exact ⟨cell_of hc h1, cell_of hc h2⟩

theorem IsPairs.take {w : World} {a : Option Addr} {ps : List (ByteArray × ByteArray)} (h : IsPairs w a ps) (c : Nat) : IsPairs w a (ps.take c) := by
  rcases h with rfl | ⟨b, off, e, hlt, hc⟩
  · exact .inl (by simp)
  · refine .inr ⟨b, off, e, hlt, fun j s hs => hc j s ?_⟩
    rw [List.getElem?_take] at hs
    split at hs
    · exact hs
    · cases hs

theorem IsPairs.drop {w : World} {g : Nat} {ps : List (ByteArray × ByteArray)} (h : IsPairs w (some ⟨g, 0, none⟩) ps) (c : Nat) (a' : Option Addr) (ha : c < ps.length → a' = some ⟨g, c * 2, none⟩) : IsPairs w a' (ps.drop c) := by
  by_cases hc : c < ps.length
  · rcases h with rfl | ⟨b, off, e, hlt, hcell⟩
    · simp at hc
    · cases e
      refine .inr ⟨g, c * 2, ha hc, hlt, fun j s hs => ?_⟩
      rw [List.getElem?_drop] at hs
      have := hcell (c + j) s hs
      rw [show 0 + (c + j) * 2 = c * 2 + j * 2 by omega] at this
      exact this
  · exact .inl (List.drop_eq_nil_of_le (by omega))

/-- 'pairs[c:]': its address is a letter, told where there is something behind c. -/
theorem slice_from (g : Nat) {n c : Nat} (h : c ≤ n) : ∃ a3, (c < n → a3 = some ⟨g, c * 2, none⟩) ∧ (∀ b off, a3 = some ⟨b, off, none⟩ → b = g) ∧ ∀ W : World, (Instr.slice 27 (.slice (some ⟨g, 0, none⟩) n n) (some (.int .i64 (c : Int))) none none).run Try.prog W = .ok (.slice a3 (n - c) (n - c)) W := by
  refine ⟨if n = c then some ⟨g, 0, none⟩ else some ⟨g, c * 2, none⟩, fun hlt => if_neg (by omega), fun b off e => ?_, fun W => ?_⟩
  · split at e <;> cases e <;> rfl
  obtain ⟨i, hi, _, hz1, _⟩ := info_parts info33
  have hadd : (⟨g, 0, none⟩ : Addr).add (c * 2) = ⟨g, c * 2, none⟩ := by unfold Addr.add; split <;> simp_all
  simp [Instr.slice, run_underlying Try.underlying27, Instr.sliceBounds, Instr.sliceBound, asIntOf, sizeOf, typeInfo, hi, hz1, hadd]
  intro hh
  omega

/-- Bounds. -/
def wt : List (ByteArray × ByteArray) → Nat
  | [] => 0
  | p :: l => p.1.size + p.2.size + 32 + wt l
theorem wt_append : ∀ l m : List (ByteArray × ByteArray), wt (l ++ m) = wt l + wt m
  | [], m => by simp [wt]
  | p :: l, m => by simp only [List.cons_append, wt, wt_append l m]; omega
theorem wt_take (l : List (ByteArray × ByteArray)) (j : Nat) : wt (l.take j) ≤ wt l := by
  have := wt_append (l.take j) (l.drop j)
  rw [List.take_append_drop] at this
  omega
theorem wt_drop (l : List (ByteArray × ByteArray)) (j : Nat) : wt (l.drop j) ≤ wt l := by
  have := wt_append (l.take j) (l.drop j)
  rw [List.take_append_drop] at this
  omega
theorem wt_zip : ∀ xs ys : List ByteArray, wt (xs.zip ys) ≤ tot xs + tot ys
  | [], ys => by simp [wt]
  | x :: xs, [] => by simp [wt]
  | x :: xs, y :: ys => by have := wt_zip xs ys; simp only [List.zip_cons_cons, wt, tot]; omega
theorem more_le : ∀ ps : List (ByteArray × ByteArray), (more (ps.map toL)).length ≤ wt ps
  | [] => by simp [more]
  | p :: l => by
    have := more_le l
    simp only [List.map_cons, more, one, toL, wt, List.length_cons, List.length_append, Array.length_toList]
    have e1 : p.1.data.size = p.1.size := rfl
    have e2 : p.2.data.size = p.2.size := rfl
    omega
theorem packB_le (ps : List (ByteArray × ByteArray)) : (packB ps).length ≤ wt ps := by
  cases ps with
  | nil => simp [packB, pack]
  | cons p l =>
    have := more_le l
    simp only [packB, List.map_cons, pack, one, toL, wt, List.length_cons, List.length_append, Array.length_toList]
    have e1 : p.1.data.size = p.1.size := rfl
    have e2 : p.2.data.size = p.2.size := rfl
    omega
theorem packB_take_le {ps : List (ByteArray × ByteArray)} {B : Nat} (h : wt ps ≤ B) : ∀ k, (packB (ps.take k)).length ≤ B := fun k => Nat.le_trans (packB_le _) (Nat.le_trans (wt_take ps k) h)
theorem size_wt : ∀ {ps : List (ByteArray × ByteArray)} {p : ByteArray × ByteArray}, p ∈ ps → p.1.size ≤ wt ps ∧ p.2.size ≤ wt ps
  | q :: l, p, h => by
    rcases List.mem_cons.1 h with e | h
    · subst e; simp only [wt]; omega
    · have := size_wt h; simp only [wt]; omega
theorem packB_split (ps : List (ByteArray × ByteArray)) (k : Nat) (hk : k ≤ ps.length) : packB ps = packB (ps.take k) ++ ((if 0 < k ∧ k < ps.length then [1] else []) ++ packB (ps.drop k)) := by
  have h := pack_append ((ps.take k).map toL) ((ps.drop k).map toL)
  rw [← List.map_append, List.take_append_drop] at h
  rw [packB, h]
  have e : ((ps.take k).map toL ≠ [] ∧ (ps.drop k).map toL ≠ []) ↔ (0 < k ∧ k < ps.length) := by
    constructor
    · rintro ⟨h1, h2⟩
      constructor
      · apply Nat.pos_of_ne_zero
        intro e; subst e; simp at h1
      · apply Nat.lt_of_not_le
        intro hle
        exact h2 (by rw [List.drop_eq_nil_of_le hle]; rfl)
    · rintro ⟨h1, h2⟩
      constructor
      · intro e
        have := congrArg List.length e
        rw [List.length_map, List.length_take, List.length_nil] at this
        omega
      · intro e
        have := congrArg List.length e
        rw [List.length_map, List.length_drop, List.length_nil] at this
        omega
  by_cases hc : 0 < k ∧ k < ps.length
  · rw [if_pos hc, if_pos (e.2 hc)]; rfl
  · rw [if_neg hc, if_neg (fun h => hc (e.1 h))]; rfl

set_option maxHeartbeats 400000 in
/-- zzSameBytes on two slices that hold the same bytes. -/
theorem same10 (a b : Option Addr) (bs : List UInt8) (n m c d : Nat) (w : World) (ha : IsBytes w a bs) (hb : IsBytes w b bs) (hn : n = bs.length) (hm : m = bs.length) (hl : bs.length ≤ 10000000) :
    Calls Try.prog 10 #[.slice a n c, .slice b m d] w fun e w' => e = .returned (.bool true) ∧ ∃ q, w' = w.drewN q := by
  subst hn
  subst hm
  have H1 : Hid (∀ (k : Nat) x, bs[k]? = some x → ∃ b off, a = some ⟨b, off, none⟩ ∧ w.cell? ⟨b, off + k, none⟩ = some (.int .u8 (x.toNat : Int))) := bytes_cell ha
  have H2 : Hid (∀ (k : Nat) x, bs[k]? = some x → ∃ b' off, b = some ⟨b', off, none⟩ ∧ w.cell? ⟨b', off + k, none⟩ = some (.int .u8 (x.toNat : Int))) := bytes_cell hb
  clear ha hb
  go_enter Try.func10, Try.ntmps10
  go_wp2
  go_loopw [5] (fun i wr => ∃ k q : Nat, k ≤ bs.length ∧ i = .int .i64 k ∧ wr = w.drewN q) (fun i _ => bs.length - (intOf i).toNat)
  case atStart => exact ⟨0, 0, Nat.zero_le _, rfl, rfl⟩
  case round =>
    obtain ⟨k, q, hk, rfl, rfl⟩ := hrel
    by_cases hkl : k < bs.length
    · obtain ⟨x, hx⟩ := get_some hkl
      obtain ⟨b1, o1, rfl, c1⟩ := H1.out k x hx
      obtain ⟨b2, o2, rfl, c2⟩ := H2.out k x hx
      clear hx
      go_wp2
      go_quiet (fail)
      go_wp2
      go_roundw
      case rel => exact ⟨k + 1, _, by omega, by go_num, rfl⟩
      case measure => simp [intOf]; omega
    · go_wp2
      go_ret
      exact ⟨rfl, q, rfl⟩

end Go.Proofs.Qxb6627880a
