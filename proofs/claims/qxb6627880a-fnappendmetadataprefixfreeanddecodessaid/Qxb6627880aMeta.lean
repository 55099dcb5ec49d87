/-
  AppendMetadata (9): it appends the packed pairs to b.
-/
import Derived.Test.Qxb6627880aClone
import Derived.Deep.DeepCutAuto
namespace Go.Proofs.Qxb6627880a
open Go.RowKit

/-- The pairs' bytes. -/
def toL (p : ByteArray × ByteArray) : List UInt8 × List UInt8 := (p.1.data.toList, p.2.data.toList)
def packB (ps : List (ByteArray × ByteArray)) : List UInt8 := pack (ps.map toL)

theorem src_byte {w : World} {B : Nat} {x : Int} (h : w.cell? ⟨B, 0, none⟩ = some (.int .u8 x)) : Src Try.prog 1 22 (.slice (some ⟨B, 0, none⟩) 1 1) 1 [.int .u8 x] w := by
  refine Src.ofSlice w Try.underlying22 _ 1 1 _ rfl (fun j u hu => ?_) (by simp [Value.oneCell'])
  match j, hu with
  | 0, hu => simp at hu; subst hu; simpa [Addr.add] using h
theorem src_str (w : World) (s : ByteArray) : Src Try.prog 1 9 (.string s) s.size (cells8 s.data.toList) w := Src.ofString w Try.underlying9 s

/-- Behind some rounds: b's row, and that nothing but its first row and new blocks has turned. -/
structure MetaRel (w wr : World) (v0 v : Value) (bs : List UInt8) : Prop where
  own : wr.ownsRow 0 5 1 v bs.length (cells8 bs)
  grown : w.grownBy wr v0.ownBlock
  lies : v.ownBlock = v0.ownBlock ∨ ∃ g, v.ownBlock = some g ∧ w.heap.size ≤ g

theorem gr_refl (w : World) : w.grownBy w none := ⟨rfl, rfl, rfl, Nat.le_refl _, fun _ _ _ => rfl⟩
theorem gr_drew (w : World) : w.grownBy w.drew none := ⟨rfl, rfl, rfl, Nat.le_refl _, fun _ _ _ => rfl⟩
theorem gr_alloc (w : World) (o : Obj) : w.grownBy (w.alloc o) none := World.grownBy_alloc w o none
theorem gr_both (w : World) (o : Obj) : w.grownBy (w.alloc o).drew none := ⟨rfl, rfl, rfl, by simp, fun k hk _ => Below.heap_alloc w o k hk⟩
theorem gr_two (w : World) (o o' : Obj) : w.grownBy ((w.alloc o).alloc o') none := (World.grownBy_alloc w o none).trans (World.grownBy_alloc _ o' none)
theorem cell_alloc {w : World} {a : Addr} {v : Value} (h : w.cell? a = some v) (o : Obj) : (w.alloc o).cell? a = some v := (World.cell?_of_block (w := w) (a := a) (Below.heap_alloc w o a.block (World.block_lt_of_cell? w a h))).trans h

theorem MetaRel.more {w wr W w2 : World} {v0 v v2 : Value} {B C : List UInt8} {n m : Nat} (h : MetaRel w wr v0 v B) (hW : wr.grownBy W none) (hg : W.grownBy w2 v.ownBlock) (hn : n = B.length) (hm : m = C.length) (ho : w2.ownsRow 0 5 1 v2 (n + m) (cells8 B ++ cells8 C))
    (hl : v2.ownBlock = v.ownBlock ∨ v2.ownBlock = some W.heap.size) : MetaRel w w2 v0 v2 (B ++ C) := by
  subst hn
  subst hm
  have z1 := h.grown.size
  have z2 := hW.size
  refine ⟨?_, ⟨hg.os.trans (hW.os.trans h.grown.os), hg.tape.trans (hW.tape.trans h.grown.tape), hg.output.trans (hW.output.trans h.grown.output), Nat.le_trans z1 (Nat.le_trans z2 hg.size), fun k hk hne => ?_⟩, ?_⟩
  · rw [List.length_append, ← cells8_append]; exact ho
  · rw [hg.block k (by omega) (fun e => ?_), hW.block k (by omega) (by simp), h.grown.block k hk hne]
    rcases h.lies with e' | ⟨g, e', hge⟩
    · exact hne (e.trans e')
    · rw [e'] at e; cases e; omega
  · rcases hl with e | e
    · rw [e]; exact h.lies
    · exact .inr ⟨_, e, by omega⟩

/-- A block of pairs is not a row of bytes. -/
theorem pair_apart {w : World} {v : Value} {n P : Nat} {xs : List Value} {c : Array Value} (h : w.ownsRow 0 5 1 v n xs) (hp : w.heap[P]? = some (.cells c 33 (0, 0))) : some P ≠ v.ownBlock := by
  rcases h.2 with ⟨rfl, _⟩ | ⟨g, cap, cur, rfl, _, hg, _⟩
  · simp [Value.ownBlock]
  · intro e
    simp [Value.ownBlock] at e
    subst e
    rw [hg] at hp
    simp at hp

theorem MetaRel.start {w : World} {v : Value} {bs : List UInt8} (ho : w.ownsRow 0 5 1 v bs.length (cells8 bs)) : MetaRel w w v v (bs ++ packB []) := by
  have e : bs ++ packB [] = bs := by simp [packB, pack]
  rw [e]
  exact ⟨ho, ⟨rfl, rfl, rfl, Nat.le_refl _, fun _ _ _ => rfl⟩, .inl rfl⟩

theorem packB_zero {ps : List (ByteArray × ByteArray)} {p : ByteArray × ByteArray} (h : ps[0]? = some p) : packB (ps.take (0 + 1)) = packB (ps.take 0) ++ (p.1.data.toList ++ 2 :: p.2.data.toList) := by
  rw [List.take_add_one, h]; simp [packB, pack, more, one, toL]
theorem packB_succ {ps : List (ByteArray × ByteArray)} {k : Nat} {p : ByteArray × ByteArray} (hk : 0 < k) (h : ps[k]? = some p) : packB (ps.take (k + 1)) = packB (ps.take k) ++ 1 :: (p.1.data.toList ++ 2 :: p.2.data.toList) := by
  rw [List.take_add_one, h]
  have hlt := (List.getElem?_eq_some_iff.1 h).1
  have : (ps.take k).map toL ≠ [] := by
    intro e
    have := congrArg List.length e
    rw [List.length_map, List.length_take, List.length_nil] at this
    omega
  simp only [packB, List.map_append, Option.toList_some, List.map_cons, List.map_nil]
  rw [pack_snoc this]
  rfl

theorem blk_keep {w W w2 : World} {P : Nat} {o : Obj} {row : Option Nat} (hW : w.grownBy W none) (hg : W.grownBy w2 row) (hp : w.heap[P]? = some o) (hne : some P ≠ row) : w2.heap[P]? = some o := by
  have lt := (Array.getElem?_eq_some_iff.1 hp).1
  rw [hg.block P (Nat.lt_of_lt_of_le lt hW.size) hne, hW.block P lt (by simp)]
  exact hp

theorem packB_step {ps : List (ByteArray × ByteArray)} {k : Nat} {x y : ByteArray} (bs : List UInt8) (h : ps[k]? = some (x, y)) :
    bs ++ packB (ps.take (k + 1)) = (bs ++ packB (ps.take k) ++ if k = 0 then [] else [1]) ++ x.data.toList ++ [2] ++ y.data.toList := by
  by_cases hk : k = 0
  · subst hk
    rw [packB_zero h]
    simp
  · rw [packB_succ (by omega) h, if_neg hk]
    simp

set_option maxHeartbeats 1000000 in
set_option maxRecDepth 100000 in
theorem meta9 (v : Value) (bs : List UInt8) (pa : Option Addr) (ps : List (ByteArray × ByteArray)) (n pc : Nat) (w : World) (ho : w.ownsRow 0 5 1 v bs.length (cells8 bs)) (hp : IsPairs w pa ps) (hn : n = ps.length)
    (hl : ps.length ≤ 65536) (hbl : bs.length ≤ 4000000) (hsz : ∀ k, (packB (ps.take k)).length ≤ 4000000) (hst : ∀ p ∈ ps, p.1.size ≤ 1048576 ∧ p.2.size ≤ 1048576) (hne : ∀ g, v.ownBlock = some g → ∀ b off, pa = some ⟨b, off, none⟩ → b ≠ g) :
    Calls Try.prog 9 #[v, .slice pa n pc] w fun e w' => ∃ v', e = .returned v' ∧ MetaRel w w' v v' (bs ++ packB ps) := by
  subst hn
  have HS : Hid (∀ k, (packB (ps.take k)).length ≤ 4000000) := hsz
  have HT : Hid (∀ p ∈ ps, p.1.size ≤ 1048576 ∧ p.2.size ≤ 1048576) := hst
  have HN : Hid (∀ g, v.ownBlock = some g → ∀ b off, pa = some ⟨b, off, none⟩ → b ≠ g) := hne
  have HO : Hid (w.ownsRow 0 5 1 v bs.length (cells8 bs)) := ho
  clear hsz hst hne ho
  go_enter Try.func9, Try.ntmps9
  go_wp2
  go_loopw [0, 9] (fun u i wr => ∃ k : Nat, k ≤ ps.length ∧ i = .int .i64 k ∧ MetaRel w wr v u (bs ++ packB (ps.take k))) (fun _ i _ => ps.length - (intOf i).toNat)
  case atStart => exact ⟨0, Nat.zero_le _, rfl, MetaRel.start HO.out⟩
  case round =>
    obtain ⟨k, hk, rfl, hR⟩ := hrel
    by_cases hkl : k < ps.length
    · obtain ⟨⟨x, y⟩, hx⟩ := get_some hkl
      obtain ⟨b, off, rfl, q1, q2⟩ : ∃ b off, pa = some ⟨b, off, none⟩ ∧ wr.cell? ⟨b, off + k * 2, none⟩ = some (.string x) ∧ wr.cell? ⟨b, off + k * 2 + 1, none⟩ = some (.string y) := by
        rcases hp with rfl | ⟨b, off, rfl, hlt, hc⟩
        · simp at hx
        · have hb : wr.heap[b]? = w.heap[b]? := hR.grown.block b hlt (fun e => HN.out b e.symm b off rfl rfl)
          obtain ⟨h1, h2⟩ := hc k _ hx
          exact ⟨b, off, rfl, (World.cell?_of_block (w := w) (a := ⟨b, off + k * 2, none⟩) hb).trans h1, (World.cell?_of_block (w := w) (a := ⟨b, off + k * 2 + 1, none⟩) hb).trans h2⟩
      obtain ⟨hx1, hx2⟩ := HT.out _ (List.mem_of_getElem? hx)
      simp only at hx1 hx2
      have HX : Hid (ps[k]? = some (x, y)) := hx
      clear hx
      have hBl : (bs ++ packB (ps.take k)).length ≤ 8000000 := by rw [List.length_append]; have := HS.out k; omega
      have hM : Hid (MetaRel w wr v _ _) := hR
      have hT := hR.own
      have hP : ∀ c : Array Value, (wr.alloc (.cells c 33)).heap[wr.heap.size]? = some (.cells c 33 (0, 0)) := fun c => heap_alloc_new _ _
      have HP : Hid (∀ c : Array Value, (wr.alloc (.cells c 33)).heap[wr.heap.size]? = some (.cells c 33 (0, 0))) := hP
      clear hR hP
      have HB : Hid (bs ++ packB (ps.take (k + 1)) = (bs ++ packB (ps.take k) ++ if k = 0 then [] else [1]) ++ x.data.toList ++ [2] ++ y.data.toList) := packB_step bs HX.out
      generalize bs ++ packB (ps.take k) = B at *
      go_upto_if 15 with fail
      go_cut [0] (fun u wx => MetaRel w wx v u (B ++ if k = 0 then [] else [1]) ∧ wx.heap[wr.heap.size]? = some (.cells #[.string x, .string y] 33 (0, 0)))
      case first =>
        by_cases hk0 : k = 0
        · subst hk0
          go_wp2
          go_meet
          exact ⟨by simpa using hM.out.more (C := []) (gr_alloc _ _) (gr_refl _ |>.but _) rfl rfl (by simpa [cells8] using hT.alloc _) (.inl rfl), HP.out _⟩
        · have hk1 : 0 < k := by omega
          go_wp2_with (first
            | (at_builtin; refine wpList_append_src _ rfl (.tmp 16) (.tmp 17) 22 22 rfl 5 _ 1 Try.underlying22 info5 rfl _ _ _ rfl ((hT.alloc _).alloc _) _ 1 [.int .u8 1] rfl (src_byte (by simp)) (by omega) (by decide) ?_; intro v1 w1 own1 grow1 lies1))
          go_meet
          rw [if_neg hk0]
          refine ⟨hM.out.more (C := [1]) (gr_two _ _ _) grow1 rfl rfl own1 lies1, ?_⟩
          rw [grow1.block wr.heap.size (by simp; omega) (fun e => by have := (hT.lt _ e.symm).2; omega), Below.heap_alloc _ _ _ (by simp)]
          exact HP.out _
      case rest =>
        obtain ⟨M1, hPc⟩ := hcut
        have HM : Hid (MetaRel w wr v _ B) := hM.out
        have hT1 := M1.own
        have hBl1 : (B ++ if k = 0 then [] else [1]).length ≤ 8000001 := by rw [List.length_append]; split <;> simp <;> omega
        have c0 : wc.cell? ⟨wr.heap.size, 0, none⟩ = some (.string x) := cell_of hPc (by rfl)
        have c1 : wc.cell? ⟨wr.heap.size, 1, none⟩ = some (.string y) := cell_of hPc (by rfl)
        have plt := (Array.getElem?_eq_some_iff.1 hPc).1
        have HPc : Hid (wc.heap[wr.heap.size]? = some (.cells #[.string x, .string y] 33 (0, 0))) := hPc
        have M1' : Hid (MetaRel w wc v _ _) := M1
        clear hT hM HM hPc M1 q1 q2 HP
        generalize (B ++ if k = 0 then [] else [1]) = D at *
        go_wp2
        have hDx : (D ++ x.data.toList).length + 1 ≤ 1000000000 := by rw [List.length_append, show x.data.toList.length = x.size by simp]; omega
        have hDy : (D ++ x.data.toList ++ [2]).length + y.size ≤ 1000000000 := by rw [List.length_append, List.length_append, show x.data.toList.length = x.size by simp]; simp; omega
        have hPn := pair_apart hT1 HPc.out
        have hCn : some wc.heap.size ≠ u0.ownBlock := fun e => by have := (hT1.lt _ e.symm).2; omega
        go_region_held3 (fun w' => w'.cell? ⟨wr.heap.size, 0, none⟩ = some (.string x) ∧ w'.cell? ⟨wr.heap.size, 1, none⟩ = some (.string y)) (go_keep)
          (first
            | (refine step_append_src _ rfl (.tmp 19) (.tmp 21) 22 9 rfl 5 _ 1 Try.underlying22 info5 rfl _ _ _ rfl (by first | exact hT1 | exact hT1.alloc _) _ x.size (cells8 x.data.toList) rfl (src_str _ x) (by omega) (by decide) ?_; intro v2 w2 own2 grow2 lies2; have h2p := blk_keep (by first | exact gr_drew _ | exact gr_both _ _) grow2 HPc.out hPn; have e2 := cell_of (o := 0) h2p (by rfl); have e3 := cell_of (o := 1) h2p (by rfl); have M2 : Hid (MetaRel w w2 v v2 (D ++ x.data.toList)) := M1'.out.more (by first | exact gr_drew _ | exact gr_both _ _) grow2 rfl (by simp) own2 lies2; have hPn2 := pair_apart M2.out.own h2p)
            | (refine step_append_src _ rfl (.tmp 22) (.tmp 23) 22 22 rfl 5 _ 1 Try.underlying22 info5 rfl v2 _ _ rfl (by first | exact M2.out.own | exact M2.out.own.alloc _) _ 1 [.int .u8 2] rfl (by first | exact src_byte (by simp) | exact src_byte (grow2.cell (by simp) hCn)) hDx (by decide) ?_; intro v3 w3 own3 grow3 lies3; have M3 : Hid (MetaRel w w3 v v3 (D ++ x.data.toList ++ [2])) := M2.out.more (C := [2]) (by first | exact gr_refl _ | exact gr_alloc _ _) grow3 rfl rfl own3 lies3; have h3p := blk_keep (by first | exact gr_refl _ | exact gr_alloc _ _) grow3 h2p hPn2; have e4 := cell_of (o := 0) h3p (by rfl); have e5 := cell_of (o := 1) h3p (by rfl); have hPn3 := pair_apart M3.out.own h3p)
            | (refine step_append_src _ rfl (.tmp 24) (.tmp 26) 22 9 rfl 5 _ 1 Try.underlying22 info5 rfl v3 _ _ rfl M3.out.own _ y.size (cells8 y.data.toList) rfl (src_str _ y) hDy (by decide) ?_; intro v4 w4 own4 grow4 lies4; have M4 : Hid (MetaRel w w4 v v4 (D ++ x.data.toList ++ [2] ++ y.data.toList)) := M3.out.more (gr_refl _) grow4 rfl (by simp) own4 lies4; have h4p := blk_keep (gr_refl _) grow4 h3p hPn3; have e6 := cell_of (o := 0) h4p (by rfl); have e7 := cell_of (o := 1) h4p (by rfl)))
        all_goals
          go_wp2
          go_roundw
          case rel => exact ⟨k + 1, by omega, by go_num, by rw [HB.out]; exact M4.out⟩
          case measure => simp [intOf]; omega
    · go_wp2
      go_ret
      have hk' : k = ps.length := by omega
      exact ⟨_, rfl, by rw [hk', List.take_length] at hR; exact hR⟩

end Go.Proofs.Qxb6627880a
