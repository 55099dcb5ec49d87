/-
  (*KeyTable).take (function 20): it does to the table what 'tkK', 'tkC' say, answers 'ix s ks', and touches nothing outside the table's own blocks.
-/
import Derived.Test.Qxb6627794aTab
namespace Go.Proofs.Qxb6627794a
open Go.RowKit Go.Maps

/-- Counts as cells of a row of int32. -/
def c32 (cs : List Nat) : List Value := cs.map fun (c : Nat) => Value.int .i32 (c : Int)
theorem c32_len (cs : List Nat) : (c32 cs).length = cs.length := by simp [c32]
theorem c32_set (cs : List Nat) (j c : Nat) : (c32 cs).set j (.int .i32 (c : Int)) = c32 (cs.set j c) := by simp [c32, List.map_set]
theorem c32_append (cs : List Nat) (c : Nat) : c32 cs ++ [.int .i32 (c : Int)] = c32 (cs ++ [c]) := by simp [c32]
theorem c32_get {cs : List Nat} {j : Nat} (h : j < cs.length) : (c32 cs)[j]? = some (.int .i32 (cs.getD j 0 : Nat)) := by
  simp [c32, List.getElem?_eq_getElem h]

def Tab (S : Nat → Prop) (w : World) (t : Nat) (ks : List ByteArray) (cs : List Nat) : Prop :=
  cs.length = ks.length ∧ ∃ mv kv rv fv, TabAt S w t mv kv rv fv ks.length ks.length ks.length ks.length ks (ks.map Value.string) (c32 cs) (noneFound ks.length)

theorem law9 : Keyed Try.prog 9 := string_keyed Try.underlying9
theorem zero21 (w : World) : (zeroValue 21).run Try.prog w = .ok (.int .i32 0) w := by kernel_rfl

theorem look_in {w : World} {bm n : Nat} {D : DataW Unit} {ks : List ByteArray} (hm : w.ownsMap Try.prog 9 (plainElem (H := Unit) Try.prog 21) bm n D) (ho : MapOk D ks) {s : ByteArray} (hs : s ∈ ks) (hz : s.size ≤ maxLen) :
    (Instr.lookup 25 (.map (some bm)) (.string s) true).run Try.prog w = .ok (.tuple #[.int .i32 (ix s ks), .bool true]) w := by
  obtain ⟨v, ps, hrun, hv⟩ := hm.look_ok law9 Try.underlying25 (zero21 w) (plainElem_int (H := Unit) Try.underlying21 (a := 0) (by decide)) (WideMaps.keyOf_string_mk Try.underlying9 hz)
  rw [ho.has, isIn_iff.2 hs] at hrun
  rw [ho.at_ s hs] at hv
  obtain ⟨a, rfl, h2, _⟩ := plainElem_int_inv Try.underlying21 hv
  simp at h2
  rw [← h2.1] at hrun
  exact hrun

theorem look_out {w : World} {bm n : Nat} {D : DataW Unit} {ks : List ByteArray} (hm : w.ownsMap Try.prog 9 (plainElem (H := Unit) Try.prog 21) bm n D) (ho : MapOk D ks) {s : ByteArray} (hs : s ∉ ks) (hz : s.size ≤ maxLen) :
    (Instr.lookup 25 (.map (some bm)) (.string s) true).run Try.prog w = .ok (.tuple #[.int .i32 0, .bool false]) w := by
  obtain ⟨v, ps, hrun, hv⟩ := hm.look_ok law9 Try.underlying25 (zero21 w) (plainElem_int (H := Unit) Try.underlying21 (a := 0) (by decide)) (WideMaps.keyOf_string_mk Try.underlying9 hz)
  have hh := ho.has s
  rw [isIn_false.2 hs] at hh
  rw [hh] at hrun
  rw [Maps.atKey_of_not_has hh] at hv
  obtain ⟨a, rfl, h2, _⟩ := plainElem_int_inv Try.underlying21 hv
  simp at h2
  rw [← h2.1] at hrun
  exact hrun

/-- The shape of a row that owns something. -/
theorem row_shape {w : World} {e : TypeId} {sz : Nat} {v : Value} {n : Nat} {xs : List Value} (h : w.ownsRow 0 e sz v n xs) : ∃ a c, v = .slice a n c := by
  rcases h.2 with ⟨rfl, rfl⟩ | ⟨g, cap, cur, rfl, _⟩
  · exact ⟨_, _, rfl⟩
  · exact ⟨_, _, rfl⟩
theorem row_some {w : World} {e : TypeId} {sz : Nat} {v : Value} {n : Nat} {xs : List Value} (h : w.ownsRow 0 e sz v n xs) (hn : 0 < n) : ∃ g c, v = .slice (some ⟨g, 0, none⟩) n c := by
  rcases h.2 with ⟨rfl, rfl⟩ | ⟨g, cap, cur, rfl, _⟩
  · omega
  · exact ⟨_, _, rfl⟩

set_option maxHeartbeats 400000 in
set_option maxRecDepth 100000 in
theorem take_in (S : Nat → Prop) (w : World) (t : Nat) (ks : List ByteArray) (cs : List Nat) (s : ByteArray) (T : Tab S w t ks cs) (hn : ks.length ≤ 10000) (hsum : cs.sum ≤ 100000) (hsz : s.size ≤ 1048576) (hin : s ∈ ks) :
    Calls Try.prog 20 #[.pointer (some ⟨t, 0, none⟩), .string s] w fun e w' => e = .returned (.int .i32 (ix s ks)) ∧ Tab S w' t (tkK ks s) (tkC ks cs s) ∧ Fr S w w' := by
  obtain ⟨hl, mv, kv, rv, fv, T⟩ := T
  have hi := ix_lt hin
  rcases T.map with ⟨_, rfl⟩ | ⟨bm, D, rfl, hsb, hm, ho⟩
  · simp at hin
  obtain ⟨gr, cr, rfl⟩ := row_some T.rr (by omega)
  have hlook := look_in hm ho hin (by unfold maxLen; omega)
  rw [tkK_in hin, tkC_in hin]
  have hc : cs.getD (ix s ks) 0 ≤ cs.sum := getD_le_sum _ _
  have hcell : w.cell? ⟨gr, ix s ks, none⟩ = some (.int .i32 (cs.getD (ix s ks) 0 : Nat)) := by
    rw [T.rr.cellAt (ix s ks) (by omega), c32_get (by omega)]
  have hfz : w.frozen? ⟨gr, ix s ks, none⟩ = false := T.rr.frozenAt _
  have R := T.setR (j := ix s ks) (u := .int .i32 (cs.getD (ix s ks) 0 + 1 : Nat))
  rw [c32_set] at R
  obtain ⟨c0, c1, c2, c3, c4, hf, hlt⟩ := tcells T.blk
  have HR : Hid (Tab S _ t ks (cs.set (ix s ks) (cs.getD (ix s ks) 0 + 1)) ∧ Fr S w _) := ⟨⟨by simpa using hl, _, _, _, _, R.1⟩, R.2⟩
  generalize ix s ks = j at *
  generalize cs.getD j 0 = c at *
  clear R T ho hm
  go_enter Try.func20, Try.ntmps20
  go_wp2
  go_ret
  exact ⟨rfl, HR.out⟩

/-- append of ONE element onto a row that the call owns, its result's shape written out. -/
theorem wpList_append_one {P : Program} (w : World) {ops : Array Oper} {rest : List Oper} {o : Oper} {a : Act} {Q : Exit → Act → World → Prop} (hgd : o.guard = none) (s x : Operand) (t : TypeId)
    (ho : o.op = .call { callee := .builtin .append, args := #[s, x], argTypes := #[t, t] })
    (e : TypeId) (z : Value) (size bytes : Nat) (ht : P.underlying t = some (.slice e)) (hi : (P.info? e).map (fun i => (i.zero, i.size, i.bytes)) = some (some z, size, bytes)) (hzs : z.cells.size = size) (hsz : 0 < size)
    (v : Value) (n : Nat) (xs : List Value) (hs : a.eval s = v) (hown : w.ownsRow 0 e size v n xs)
    (ad : Addr) (c : Nat) (news : List Value) (hx : a.eval x = .slice (some ad) 1 c) (hl : news.length = size) (hnews : ∀ j u, news[j]? = some u → w.cell? (ad.add j) = some u) (h1 : ∀ u ∈ news, u.oneCell' = true)
    (hn : n ≤ 20000) (hb : bytes ≤ 1000)
    (h : ∀ g cap w', w'.ownsRow 0 e size (.slice (some ⟨g, 0, none⟩) (n + 1) cap) (n + 1) (xs ++ news) → w.grownBy w' v.ownBlock → (some g = v.ownBlock ∨ some g = some w.heap.size) → wpList P ops Q rest (a.put o.dst (.slice (some ⟨g, 0, none⟩) (n + 1) cap)) w') :
    wpList P ops Q (o :: rest) a w := by
  obtain ⟨i, hi', hz0, hz1, hz2⟩ := info_parts hi
  refine wpList_append_own_at w hgd s x t ho 0 e i z size bytes ht hi' hz0 hz1 hz2 hzs hsz v n xs hs hown ad 1 c news hx (by omega) hnews h1 (by unfold maxLen; omega) ?_ (Nat.zero_le _) ?_
  · have : (n + 1) * bytes ≤ 20001 * 1000 := Nat.mul_le_mul (by omega) hb
    omega
  · intro v' w' h2 h3 _ h5
    obtain ⟨g, cap, rfl⟩ := row_some h2 (by omega)
    exact h g cap w' h2 h3 h5

theorem info9 : (Try.prog.info? 9).map (fun i => (i.zero, i.size, i.bytes)) = some (some (.string ByteArray.empty), 1, 16) := by kernel_rfl
theorem info21 : (Try.prog.info? 21).map (fun i => (i.zero, i.size, i.bytes)) = some (some (.int .i32 0), 1, 4) := by kernel_rfl
theorem info61 : (Try.prog.info? 61).map (fun i => (i.zero, i.size, i.bytes)) = some (some (.agg #[.int .u64 0, .string ByteArray.empty, .bool false]), 3, 32) := by kernel_rfl

theorem cell_one_at (w : World) (B : Nat) (x : Value) (t : TypeId) (h : B = w.heap.size) : ∀ j u, [x][j]? = some u → (w.alloc (.cells #[x] t)).cell? ((⟨B, 0, none⟩ : Addr).add j) = some u := by
  subst h; exact cell_one_new w x t

theorem cell_three_at (w : World) (B : Nat) (x y z : Value) (t : TypeId) (h : B = w.heap.size) : ∀ j u, [x, y, z][j]? = some u → (w.alloc (.cells #[x, y, z] t)).cell? ((⟨B, 0, none⟩ : Addr).add j) = some u := by
  subst h
  intro j u hj
  match j, hj with
  | 0, hj => simp at hj; subst hj; simp [Addr.add]
  | 1, hj => simp at hj; subst hj; simp [Addr.add]
  | 2, hj => simp at hj; subst hj; simp [Addr.add]

theorem MapAt.some {S : Nat → Prop} {w : World} {bm n : Nat} {ks : List ByteArray} (h : MapAt S w (.map (some bm)) n ks) : ∃ D, S bm ∧ w.ownsMap Try.prog 9 (plainElem (H := Unit) Try.prog 21) bm n D ∧ MapOk D ks := by
  rcases h with ⟨h, _⟩ | ⟨bm', D, e, r⟩
  · simp at h
  · cases e; exact ⟨D, r⟩

theorem wf32 {n : Nat} (h : n ≤ 20000) : (Lit.int .i32 (n : Int)).wf = true := WalkArith.wf_i32 (by omega)

theorem last32 {w : World} {gr n cr : Nat} {cs : List Nat} (h : w.ownsRow 0 21 1 (.slice (some ⟨gr, 0, none⟩) (n + 1) cr) (n + 1) (c32 cs ++ [.int .i32 0])) (hl : cs.length = n) : w.cell? ⟨gr, n, none⟩ = some (.int .i32 0) := by
  rw [h.cellAt n (by omega), List.getElem?_append_right (by rw [c32_len]; omega), c32_len, hl]; simp

theorem up {S : Nat → Prop} {B B' : Nat} (hS : ∀ b, B ≤ b → S b) (h : B ≤ B') : ∀ b, B' ≤ b → S b := fun b hb => hS b (Nat.le_trans h hb)

theorem take_end {S : Nat → Prop} {w : World} {t gr cr : Nat} {mv kv fv : Value} {ks : List ByteArray} {cs : List Nat} {s : ByteArray} {n : Nat} (hn : ks.length = n) (hl : cs.length = n)
    (T : TabAt S w t mv kv (.slice (some ⟨gr, 0, none⟩) (n + 1) cr) fv (n + 1) (n + 1) (n + 1) (n + 1) (ks ++ [s]) (ks.map Value.string ++ [.string s]) (c32 cs ++ [.int .i32 0]) (noneFound n ++ [.int .u64 0, .string ByteArray.empty, .bool false])) :
    Tab S (w.setCell ⟨gr, n, none⟩ (.int .i32 1)) t (ks ++ [s]) (cs ++ [1]) ∧ Fr S w (w.setCell ⟨gr, n, none⟩ (.int .i32 1)) := by
  subst hn
  have R := T.setR (j := ks.length) (u := .int .i32 1)
  refine ⟨⟨by simpa using hl, mv, kv, .slice (some ⟨gr, 0, none⟩) (ks.length + 1) cr, fv, ?_⟩, R.2⟩
  have e1 : (ks ++ [s]).length = ks.length + 1 := by simp
  have e2 : (ks ++ [s]).map Value.string = ks.map Value.string ++ [.string s] := by simp
  have e3 : (c32 cs ++ [Value.int .i32 0]).set ks.length (Value.int .i32 1) = c32 (cs ++ [1]) := by
    rw [List.set_append_right _ _ (by rw [c32_len]; omega), c32_len, hl]; simp [c32]
  rw [e1, e2, noneFound_succ, ← e3]
  exact R.1

set_option maxHeartbeats 400000 in
set_option maxRecDepth 100000 in
theorem take_nil (S : Nat → Prop) (w : World) (t : Nat) (s : ByteArray) (kv rv fv : Value) (T : TabAt S w t (.map none) kv rv fv 0 0 0 0 [] [] [] []) (hS : ∀ b, w.heap.size ≤ b → S b) (hsz : s.size ≤ 1048576) :
    Calls Try.prog 20 #[.pointer (some ⟨t, 0, none⟩), .string s] w fun e w' => e = .returned (.int .i32 0) ∧ Tab S w' t ([] ++ [s]) ([] ++ [1]) ∧ Fr S w w' := by
  have hkey : keyOf Try.prog 9 (.string s) = some (.string s.data.toList) := WideMaps.keyOf_string_mk Try.underlying9 (by unfold maxLen; omega)
  have hlook : (Instr.lookup 25 (.map none) (.string s) true).run Try.prog w = .ok (.tuple #[.int .i32 0, .bool false]) w := Maps.look_nil true law9 Try.underlying25 (zero21 w) hkey
  have hmm := @run_makeMap Try.prog
  obtain ⟨ka, kc, rfl⟩ := row_shape T.rk
  obtain ⟨ra, rc, rfl⟩ := row_shape T.rr
  obtain ⟨fa, fc, rfl⟩ := row_shape T.rf
  obtain ⟨c0, c1, c2, c3, c4, hf, hlt⟩ := tcells T.blk
  have q25 : ∀ (w : World) (r : Option Nat), (binOp .eql 25 (.map r) (.map none)).run Try.prog w = .ok (.bool r.isNone) w := fun w r => run_eql_map_nil w _ _ _ r Try.underlying25
  go_enter Try.func20, Try.ntmps20
  go_wp2_with (first
    | (at_builtin; refine wpList_append_one _ rfl (.tmp 26) (.tmp 28) 22 rfl 9 _ 1 16 Try.underlying22 info9 rfl (by decide) (.slice ka 0 kc) _ _ rfl (T.rk.alloc _) ⟨w.heap.size, 0, none⟩ 1 [.string s] rfl rfl (cell_one_at _ _ _ _ rfl) (by simp [Value.oneCell']) (by omega) (by decide) ?_; intro gk ck w1 hown1 hgrow1 hloc1; obtain ⟨b1, T1, F1⟩ := (T.alloc (.cells #[.string s] 9)).appK (up hS (by simp)) hgrow1 hown1 hloc1; obtain ⟨d0, d1, d2, d3, d4, df, dlt⟩ := tcells b1; clear hown1 hgrow1 hloc1 b1)
    | (at_builtin; refine wpList_append_one _ rfl (.tmp 36) (.tmp 37) 26 rfl 21 _ 1 4 Try.underlying26 info21 rfl (by decide) (.slice ra 0 rc) _ _ rfl (T1.rr.alloc _) ⟨w1.heap.size, 0, none⟩ 1 [.int .i32 0] rfl rfl (cell_one_at _ _ _ _ (by simp)) (by simp [Value.oneCell']) (by omega) (by decide) ?_; intro gr cr w2 hown2 hgrow2 hloc2; obtain ⟨b2, T2, F2⟩ := (T1.alloc (.cells #[.int .i32 0] 21)).appR (up hS (by have := F1.size; simp at this ⊢; omega)) hgrow2 hown2 hloc2; obtain ⟨e0, e1, e2, e3, e4, ef, elt⟩ := tcells b2; clear hown2 hgrow2 hloc2 b2)
    | (at_builtin; refine wpList_append_one _ rfl (.tmp 45) (.tmp 47) 27 rfl 61 _ 3 32 Try.underlying27 info61 rfl (by decide) (.slice fa 0 fc) _ _ rfl (T2.rf.alloc _) ⟨w2.heap.size, 0, none⟩ 1 [.int .u64 0, .string ByteArray.empty, .bool false] rfl rfl (cell_three_at _ _ _ _ _ _ (by simp)) (by simp [Value.oneCell']) (by omega) (by decide) ?_; intro gf cf w3 hown3 hgrow3 hloc3; obtain ⟨b3, T3, F3⟩ := (T2.alloc (.cells #[.int .u64 0, .string ByteArray.empty, .bool false] 61)).appF (up hS (by have := F1.size; have := F2.size; simp at *; omega)) hgrow3 hown3 hloc3; obtain ⟨g0, g1, g2, g3, g4, gf', glt⟩ := tcells b3; clear hown3 hgrow3 hloc3 b3; obtain ⟨T3', F3'⟩ := T3.newMap' (B := w3.heap.size) (up hS (by have := F1.size; have := F2.size; have := F3.size; simp at *; omega)) (by simp); obtain ⟨D3, hs3, hm3, ho3⟩ := MapAt.some T3'.map)
    | (at_mapUpdate; refine wpList_mapUpdate_own _ rfl _ _ _ 25 rfl 9 21 law9 Try.underlying25 _ w3.heap.size 0 _ rfl hm3 (by unfold maxLen; omega) _ _ _ rfl rfl hkey _ [] (plainElem_int Try.underlying21 (by decide)) ?_; intro w4 hm4 hgrow4; obtain ⟨T4, F4⟩ := T3'.upd (by simp) hm3 ho3 hs3 hm4 hgrow4; obtain ⟨i0, i1, i2, i3, i4, iff, ilt⟩ := tcells T4.blk; have j1 := last32 (cs := []) T4.rr rfl; have j2 := T4.rr.frozenAt 0; clear hm4 hgrow4))
  go_ret
  have E := take_end (ks := []) (cs := []) rfl rfl T4
  exact ⟨rfl, E.1, ((((((Fr.alloc _ _ _).trans F1).trans (Fr.alloc _ _ _)).trans F2).trans (Fr.alloc _ _ _)).trans F3).trans ((F3'.trans F4).trans E.2)⟩

set_option maxHeartbeats 400000 in
set_option maxRecDepth 100000 in
theorem take_new (S : Nat → Prop) (w : World) (t : Nat) (ks : List ByteArray) (cs : List Nat) (s : ByteArray) (T : Tab S w t ks cs) (hS : ∀ b, w.heap.size ≤ b → S b) (hn : ks.length ≤ 10000) (hsz : s.size ≤ 1048576) (hin : s ∉ ks) :
    Calls Try.prog 20 #[.pointer (some ⟨t, 0, none⟩), .string s] w fun e w' => e = .returned (.int .i32 (ix s ks)) ∧ Tab S w' t (tkK ks s) (tkC ks cs s) ∧ Fr S w w' := by
  obtain ⟨hl, mv, kv, rv, fv, T⟩ := T
  rw [tkK_new hin, tkC_new hin hl, ix_notin hin]
  rcases T.map with ⟨rfl, rfl⟩ | ⟨bm, D, rfl, hsb, hm, ho⟩
  · have hcs : cs = [] := List.eq_nil_of_length_eq_zero hl
    subst hcs
    exact take_nil S w t s kv rv fv T hS hsz
  have hlook := look_out hm ho hin (by unfold maxLen; omega)
  have hkey : keyOf Try.prog 9 (.string s) = some (.string s.data.toList) := WideMaps.keyOf_string_mk Try.underlying9 (by unfold maxLen; omega)
  clear hm ho
  obtain ⟨ka, kc, rfl⟩ := row_shape T.rk
  obtain ⟨ra, rc, rfl⟩ := row_shape T.rr
  obtain ⟨fa, fc, rfl⟩ := row_shape T.rf
  obtain ⟨c0, c1, c2, c3, c4, hf, hlt⟩ := tcells T.blk
  have q25 : ∀ (w : World) (r : Option Nat), (binOp .eql 25 (.map r) (.map none)).run Try.prog w = .ok (.bool r.isNone) w := fun w r => run_eql_map_nil w _ _ _ r Try.underlying25
  go_enter Try.func20, Try.ntmps20
  go_wp2_with (first
    | (at_builtin; refine wpList_append_one _ rfl (.tmp 26) (.tmp 28) 22 rfl 9 _ 1 16 Try.underlying22 info9 rfl (by decide) (.slice ka ks.length kc) _ _ rfl (T.rk.alloc _) ⟨w.heap.size, 0, none⟩ 1 [.string s] rfl rfl (cell_one_at _ _ _ _ rfl) (by simp [Value.oneCell']) (by omega) (by decide) ?_; intro gk ck w1 hown1 hgrow1 hloc1; obtain ⟨b1, T1, F1⟩ := (T.alloc (.cells #[.string s] 9)).appK (up hS (by simp)) hgrow1 hown1 hloc1; obtain ⟨d0, d1, d2, d3, d4, df, dlt⟩ := tcells b1; clear hown1 hgrow1 hloc1 b1)
    | (at_builtin; refine wpList_append_one _ rfl (.tmp 36) (.tmp 37) 26 rfl 21 _ 1 4 Try.underlying26 info21 rfl (by decide) (.slice ra ks.length rc) _ _ rfl (T1.rr.alloc _) ⟨w1.heap.size, 0, none⟩ 1 [.int .i32 0] rfl rfl (cell_one_at _ _ _ _ (by simp)) (by simp [Value.oneCell']) (by omega) (by decide) ?_; intro gr cr w2 hown2 hgrow2 hloc2; obtain ⟨b2, T2, F2⟩ := (T1.alloc (.cells #[.int .i32 0] 21)).appR (up hS (by have := F1.size; simp at this ⊢; omega)) hgrow2 hown2 hloc2; obtain ⟨e0, e1, e2, e3, e4, ef, elt⟩ := tcells b2; clear hown2 hgrow2 hloc2 b2)
    | (at_builtin; refine wpList_append_one _ rfl (.tmp 45) (.tmp 47) 27 rfl 61 _ 3 32 Try.underlying27 info61 rfl (by decide) (.slice fa ks.length fc) _ _ rfl (T2.rf.alloc _) ⟨w2.heap.size, 0, none⟩ 1 [.int .u64 0, .string ByteArray.empty, .bool false] rfl rfl (cell_three_at _ _ _ _ _ _ (by simp)) (by simp [Value.oneCell']) (by omega) (by decide) ?_; intro gf cf w3 hown3 hgrow3 hloc3; obtain ⟨b3, T3, F3⟩ := (T2.alloc (.cells #[.int .u64 0, .string ByteArray.empty, .bool false] 61)).appF (up hS (by have := F1.size; have := F2.size; simp at *; omega)) hgrow3 hown3 hloc3; obtain ⟨g0, g1, g2, g3, g4, gf', glt⟩ := tcells b3; clear hown3 hgrow3 hloc3 b3; obtain ⟨D3, hs3, hm3, ho3⟩ := MapAt.some T3.map)
    | (at_mapUpdate; refine wpList_mapUpdate_own _ rfl _ _ _ 25 rfl 9 21 law9 Try.underlying25 _ bm ks.length _ rfl hm3 (by unfold maxLen; omega) _ _ _ rfl rfl hkey _ [] (plainElem_int Try.underlying21 (wf32 (by omega))) ?_; intro w4 hm4 hgrow4; obtain ⟨T4, F4⟩ := T3.upd hin hm3 ho3 hs3 hm4 hgrow4; obtain ⟨i0, i1, i2, i3, i4, iff, ilt⟩ := tcells T4.blk; have j1 := last32 T4.rr hl; have j2 := T4.rr.frozenAt ks.length; clear hm4 hgrow4))
  go_ret
  have E := take_end rfl hl T4
  exact ⟨rfl, E.1, (((((((Fr.alloc _ _ _).trans F1).trans (Fr.alloc _ _ _)).trans F2).trans (Fr.alloc _ _ _)).trans F3).trans F4).trans E.2⟩

theorem take20 (S : Nat → Prop) (w : World) (t : Nat) (ks : List ByteArray) (cs : List Nat) (s : ByteArray) (T : Tab S w t ks cs) (hS : ∀ b, w.heap.size ≤ b → S b) (hn : ks.length ≤ 10000) (hsum : cs.sum ≤ 100000) (hsz : s.size ≤ 1048576) :
    Calls Try.prog 20 #[.pointer (some ⟨t, 0, none⟩), .string s] w fun e w' => e = .returned (.int .i32 (ix s ks)) ∧ Tab S w' t (tkK ks s) (tkC ks cs s) ∧ Fr S w w' := by
  by_cases h : s ∈ ks
  · exact take_in S w t ks cs s T hn hsum hsz h
  · exact take_new S w t ks cs s T hS hn hsz h

end Go.Proofs.Qxb6627794a
