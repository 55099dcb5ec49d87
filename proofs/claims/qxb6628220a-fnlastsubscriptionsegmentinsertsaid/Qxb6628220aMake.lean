/-
  zzLssSeg (7), zzLssMake (8): contracts.
-/
import Derived.Test.Qxb6628220aGuards
namespace Go.Proofs.Qxb6628220a
open Go.RowKit

theorem cell_alloc {w : World} {a : Addr} {v : Value} (h : w.cell? a = some v) (o : Obj) : (w.alloc o).cell? a = some v := (World.cell?_of_block (w := w) (a := a) (Below.heap_alloc w o a.block (World.block_lt_of_cell? w a h))).trans h

set_option maxHeartbeats 400000 in
theorem seg7 (g : SegV) (w : World) : Calls Try.prog 7 #[g.val] w fun e w' => e = .returned g.val ∧ Below w.heap.size w w' := by
  obtain ⟨gs, gb, ra, rs, rc, sa, ss, sc⟩ := g
  simp only [SegV.val]
  go_enter Try.func7, Try.ntmps7
  go_wp2
  refine bodyPost_ret (results_cell_row rfl _ _ (w.heap.size + 1) 34 _ (0, 0) _ rfl (by rw [Below.heap_alloc _ _ _ (by simp), show w.heap.size + 1 = (w.alloc (.cells #[.int .i64 gs, .int .i64 gb, .slice ra rs.length rc, .slice sa ss.length sc] 29)).heap.size by simp]; exact heap_alloc_new _ _) Try.underlying34 rfl (by kernel_rfl)) rfl ?_
  exact ⟨rfl, (((Below.refl _ _).alloc (by omega) _).alloc (by simp) _).alloc (by simp; omega) _⟩

set_option maxHeartbeats 1000000 in
set_option maxRecDepth 100000 in
theorem make8 (s : SchV) (v : Value) (w : World) (h : SchOk w s) (a : Option Addr) (n c : Nat) (hv : v = .slice a n c) : Calls Try.prog 8 #[s.val, v] w fun e w' => ∃ p, e = .returned (.pointer (some ⟨p, 0, none⟩)) ∧ w'.cell? ⟨p, 6, none⟩ = some v ∧ Below w.heap.size w w' := by
  obtain ⟨an, mo, ro, ea, es, ec, so, re, oa, gs, oc⟩ := s
  subst hv
  simp only [SchV.val]
  go_enter Try.func8, Try.ntmps8
  have s1 := h.so
  have s2 := h.re
  simp only at s1 s2
  clear h
  cases so with
  | none =>
    cases re with
    | none =>
      go_wp2
      go_ret
      exact ⟨_, rfl, by first | simp | exact cell_alloc (by simp) _ | exact cell_alloc (cell_alloc (by simp) _) _, by first | exact ((Below.refl _ _).alloc (by omega) _).alloc (by simp) _ | exact (((Below.refl _ _).alloc (by omega) _).alloc (by simp) _).alloc (by simp; omega) _ | exact ((((Below.refl _ _).alloc (by omega) _).alloc (by simp) _).alloc (by simp; omega) _).alloc (by simp; omega) _⟩
    | some q =>
      obtain ⟨qb, qo, rfl, qi, d0⟩ := s2 q rfl
      have e3 : ∀ o1 o2 o3 : Obj, (((w.alloc o1).alloc o2).alloc o3).cell? ⟨qb, qo, none⟩ = some (.int .i64 qi) := fun o1 o2 o3 => cell_alloc (cell_alloc (cell_alloc d0 o1) o2) o3
      have e4 : ∀ o1 o2 o3 o4 : Obj, ((((w.alloc o1).alloc o2).alloc o3).alloc o4).cell? ⟨qb, qo, none⟩ = some (.int .i64 qi) := fun o1 o2 o3 o4 => cell_alloc (e3 o1 o2 o3) o4
      go_wp2
      go_ret
      exact ⟨_, rfl, by first | simp | exact cell_alloc (by simp) _ | exact cell_alloc (cell_alloc (by simp) _) _, by first | exact ((Below.refl _ _).alloc (by omega) _).alloc (by simp) _ | exact (((Below.refl _ _).alloc (by omega) _).alloc (by simp) _).alloc (by simp; omega) _ | exact ((((Below.refl _ _).alloc (by omega) _).alloc (by simp) _).alloc (by simp; omega) _).alloc (by simp; omega) _⟩
  | some p =>
    obtain ⟨pb, po, rfl, i, d, t, c0, c1, c2⟩ := s1 p rfl
    have f0 : ∀ o1 o2 o3 : Obj, (((w.alloc o1).alloc o2).alloc o3).cell? ⟨pb, po, none⟩ = some (.int .i64 i) := fun o1 o2 o3 => cell_alloc (cell_alloc (cell_alloc c0 o1) o2) o3
    have f1 : ∀ o1 o2 o3 : Obj, (((w.alloc o1).alloc o2).alloc o3).cell? ⟨pb, po + 1, none⟩ = some (.string d) := fun o1 o2 o3 => cell_alloc (cell_alloc (cell_alloc c1 o1) o2) o3
    have f2 : ∀ o1 o2 o3 : Obj, (((w.alloc o1).alloc o2).alloc o3).cell? ⟨pb, po + 2, none⟩ = some (.bool t) := fun o1 o2 o3 => cell_alloc (cell_alloc (cell_alloc c2 o1) o2) o3
    cases re with
    | none =>
      go_wp2
      go_ret
      exact ⟨_, rfl, by first | simp | exact cell_alloc (by simp) _ | exact cell_alloc (cell_alloc (by simp) _) _, by first | exact ((Below.refl _ _).alloc (by omega) _).alloc (by simp) _ | exact (((Below.refl _ _).alloc (by omega) _).alloc (by simp) _).alloc (by simp; omega) _ | exact ((((Below.refl _ _).alloc (by omega) _).alloc (by simp) _).alloc (by simp; omega) _).alloc (by simp; omega) _⟩
    | some q =>
      obtain ⟨qb, qo, rfl, qi, d0⟩ := s2 q rfl
      have e3 : ∀ o1 o2 o3 : Obj, (((w.alloc o1).alloc o2).alloc o3).cell? ⟨qb, qo, none⟩ = some (.int .i64 qi) := fun o1 o2 o3 => cell_alloc (cell_alloc (cell_alloc d0 o1) o2) o3
      have e4 : ∀ o1 o2 o3 o4 : Obj, ((((w.alloc o1).alloc o2).alloc o3).alloc o4).cell? ⟨qb, qo, none⟩ = some (.int .i64 qi) := fun o1 o2 o3 o4 => cell_alloc (e3 o1 o2 o3) o4
      go_wp2
      go_ret
      exact ⟨_, rfl, by first | simp | exact cell_alloc (by simp) _ | exact cell_alloc (cell_alloc (by simp) _) _, by first | exact ((Below.refl _ _).alloc (by omega) _).alloc (by simp) _ | exact (((Below.refl _ _).alloc (by omega) _).alloc (by simp) _).alloc (by simp; omega) _ | exact ((((Below.refl _ _).alloc (by omega) _).alloc (by simp) _).alloc (by simp; omega) _).alloc (by simp; omega) _⟩
end Go.Proofs.Qxb6628220a
