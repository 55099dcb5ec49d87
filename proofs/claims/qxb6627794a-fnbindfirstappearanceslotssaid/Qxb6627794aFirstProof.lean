/-
  'Rows.FnBindFirstAppearanceSlotsSaid', out of the walk (Qxb6627794aFirst). After the guide's own shell for a law over memory (howto/shells).
-/
import Derived.Test.Qxb6627794aFirst
import Derived.Test.Qxb6627794aOpen
namespace Go.Proofs.Qxb6627794a.fnBindFirstAppearanceSlots
open Go.ChangeShapes Go.WideShapes Go.ChangeAt Go.RowKit
set_option linter.unusedVariables false

set_option maxRecDepth 100000 in
theorem lifted (os : Os) (started : os.Started) (H : Type) (enc : TypeId × Value → H) :
    ReturnsInHanded {} Try.checked os 3 .any (Rows.fnBindFirstAppearanceSlotsSpec.pre6 enc Try.prog Try.f3 Rows.fnBindFirstAppearanceSlotsRow.domain false) (Rows.fnBindFirstAppearanceSlotsSpec.post enc Try.prog Try.f3 false true false false) := by
  refine returnsInHanded_of_change_sized (C := Try.checked) own started (by kernel_rfl) Try.func3
    (ChangeSpec.witness6 (enc := enc) (C := Try.checked) false ⟨#[], #[.slice none 0 0, .slice none 0 0], []⟩ 8 (by kernel_rfl) (by kernel_rfl) (by kernel_rfl) (by kernel_rfl)) ?_
  intro W base args ds gs before hval0 hW hcnd hsz0 _
  have hsz : (DataW.weightsEach Try.prog (Try.f3.params.toList ++ Rows.fnBindFirstAppearanceSlotsSpec.plain.varTypes Try.prog) (ds ++ gs)).all (· ≤ reachBytes) = true := hsz0
  have hval : ∀ (j : Nat) t v, Try.f3.params[j]? = some t → args[j]? = some v → Value.okWide Try.prog W .any base t v := hval0
  have hW' := hW
  obtain ⟨p, q, hA0, hV, rfl, hfz, hnd⟩ := hW
  have hA : DataW.TrodAll enc Try.prog W 0 (fun _ => true) true Try.f3.params.toList args.toList ds p := hA0
  rw [Try.params3] at hA hval hsz
  obtain ⟨v0, vs0, d0, ds0, p0, q0, hargs, rfl, rfl, h0, r0⟩ := trodAll_cons hA
  obtain ⟨v1, vs1, d1, ds1, p1, q1, rfl, rfl, rfl, h1, r1⟩ := trodAll_cons r0
  obtain ⟨rfl, rfl, rfl⟩ := trodAll_nil r1
  obtain rfl : args = #[v0, v1] := by cases args; simp_all
  obtain ⟨rfl, rfl⟩ := trodVars_none hV
  obtain ⟨a0, len0, cap0, rfl⟩ := okWide_slice Try.underlying22 (hval 0 22 v0 rfl rfl)
  have k0 := h0
  have lt0 : ∀ x ∈ p0, x.block < W.heap.size := by obtain ⟨m, hm⟩ := k0; exact DataW.trod_lt m _ _ _ hm
  obtain ⟨ss, rfl, hs, hnil, hl⟩ : ∃ ss : List ByteArray, ss.length = len0 ∧ IsStrs W a0 ss ∧ (a0 = none → ss = [] ∧ cap0 = 0) ∧ ss.length ≤ 140737488351232 := by
    obtain ⟨fuel, hf⟩ := h0
    exact open_strs hf fun elems spare e => sized_slice hsz (j := 0) (t := 22) (e := 9) rfl (by simp at e; rw [e]; rfl) Try.underlying22
  obtain ⟨a1, len1, cap1, rfl⟩ := okWide_slice Try.underlying22 (hval 1 22 v1 rfl rfl)
  have k1 := h1
  have lt1 : ∀ x ∈ p1, x.block < W.heap.size := by obtain ⟨m, hm⟩ := k1; exact DataW.trod_lt m _ _ _ hm
  obtain ⟨ys, rfl, hs1, hnil1, hl1⟩ : ∃ ys : List ByteArray, ys.length = len1 ∧ IsStrs W a1 ys ∧ (a1 = none → ys = [] ∧ cap1 = 0) ∧ ys.length ≤ 140737488351232 := by
    obtain ⟨fuel, hf⟩ := h1
    exact open_strs hf fun elems spare e => sized_slice hsz (j := 1) (t := 22) (e := 9) rfl (by simp at e; rw [e]; rfl) Try.underlying22
  clear hA0 hval0 hsz hsz0
  refine (walk3 a0 a1 ss ys cap0 cap1 W hs hs1 hnil hnil1 hl hl1).mono fun e W' ⟨he, bel⟩ => ?_
  subst he
  exact ⟨_, rfl, _, _, _, [], _, [], hW', trodAll_mk1 (shut_bool Try.underlying4 _), (trodAll_cons_mk (Below.trod laidOut (by kernel_rfl) (of_decide_eq_true (by kernel_rfl)) k0 bel lt0) (trodAll_cons_mk (Below.trod laidOut (by kernel_rfl) (of_decide_eq_true (by kernel_rfl)) k1 bel lt1) trodAll_mk0)), rfl, bel.frame _, fun h => by cases h⟩

theorem over : Rows.fnBindFirstAppearanceSlotsRow.holds Try.pinned (OpenSpec.ofChange Rows.fnBindFirstAppearanceSlotsSpec) :=
  OpenClaim.holds_of_wide 3 Try.f3 rfl rfl rfl rfl rfl rfl rfl ⟨rfl, rfl, rfl, rfl, rfl⟩ rfl rfl rfl rfl rfl (by kernel_rfl) Try.func3 (by kernel_rfl)
    (of_decide_eq_true (by kernel_rfl)) (by unfold Func.isWrapper; first | (rw [if_pos (by decide +kernel)]; kernel_rfl) | (rw [if_neg (by decide +kernel)]; exact ⟨rfl, rfl⟩))
    (fun os started H enc _ => lifted os started H enc)

/-- THE STATEMENT -/
theorem proved : Rows.FnBindFirstAppearanceSlotsSaid := over
end Go.Proofs.Qxb6627794a.fnBindFirstAppearanceSlots
