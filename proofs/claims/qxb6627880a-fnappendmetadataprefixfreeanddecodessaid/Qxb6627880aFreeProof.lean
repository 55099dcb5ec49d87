/-
  'Rows.FnAppendMetadataPrefixFreeAndDecodesSaid', out of the walk (Qxb6627880aFree). After the guide's own shell for a law over memory (howto/shells).
-/
import Derived.Test.Qxb6627880aFree
import Derived.Test.Qxb6627880aOpen
namespace Go.Proofs.Qxb6627880a.fnAppendMetadataPrefixFreeAndDecodes
open Go.ChangeShapes Go.WideShapes Go.ChangeAt Go.RowKit
set_option linter.unusedVariables false

set_option maxRecDepth 100000 in
theorem lifted (os : Os) (started : os.Started) (H : Type) (enc : TypeId × Value → H) :
    ReturnsInHanded {} Try.checked os 4 .any (Rows.fnAppendMetadataPrefixFreeAndDecodesSpec.pre6 enc Try.prog Try.f4 Rows.fnAppendMetadataPrefixFreeAndDecodesRow.domain false) (Rows.fnAppendMetadataPrefixFreeAndDecodesSpec.post enc Try.prog Try.f4 false true false false) := by
  refine returnsInHanded_of_change_sized (C := Try.checked) own started (by kernel_rfl) Try.func4
    (ChangeSpec.witness6 (enc := enc) (C := Try.checked) false ⟨#[], #[.slice none 0 0, .slice none 0 0, .slice none 0 0], []⟩ 8 (by kernel_rfl) (by kernel_rfl) (by kernel_rfl) (by kernel_rfl)) ?_
  intro W base args ds gs before hval0 hW hcnd hsz0 _
  have hsz : (DataW.weightsEach Try.prog (Try.f4.params.toList ++ Rows.fnAppendMetadataPrefixFreeAndDecodesSpec.plain.varTypes Try.prog) (ds ++ gs)).all (· ≤ reachBytes) = true := hsz0
  have hval : ∀ (j : Nat) t v, Try.f4.params[j]? = some t → args[j]? = some v → Value.okWide Try.prog W .any base t v := hval0
  have hW' := hW
  obtain ⟨p, q, hA0, hV, rfl, hfz, hnd⟩ := hW
  have hA : DataW.TrodAll enc Try.prog W 0 (fun _ => true) true Try.f4.params.toList args.toList ds p := hA0
  rw [Try.params4] at hA hval hsz
  obtain ⟨v0, vs0, d0, ds0, p0, q0, hargs, rfl, rfl, h0, r0⟩ := trodAll_cons hA
  obtain ⟨v1, vs1, d1, ds1, p1, q1, rfl, rfl, rfl, h1, r1⟩ := trodAll_cons r0
  obtain ⟨v2, vs2, d2, ds2, p2, q2, rfl, rfl, rfl, h2, r2⟩ := trodAll_cons r1
  obtain ⟨rfl, rfl, rfl⟩ := trodAll_nil r2
  obtain rfl : args = #[v0, v1, v2] := by cases args; simp_all
  obtain ⟨rfl, rfl⟩ := trodVars_none hV
  obtain ⟨a0, len0, cap0, rfl⟩ := okWide_slice Try.underlying22 (hval 0 22 v0 rfl rfl)
  obtain ⟨a1, len1, cap1, rfl⟩ := okWide_slice Try.underlying23 (hval 1 23 v1 rfl rfl)
  obtain ⟨a2, len2, cap2, rfl⟩ := okWide_slice Try.underlying23 (hval 2 23 v2 rfl rfl)
  have k0 := h0
  have k1 := h1
  have k2 := h2
  have lt0 : ∀ x ∈ p0, x.block < W.heap.size := by obtain ⟨m, hm⟩ := k0; exact DataW.trod_lt m _ _ _ hm
  have lt1 : ∀ x ∈ p1, x.block < W.heap.size := by obtain ⟨m, hm⟩ := k1; exact DataW.trod_lt m _ _ _ hm
  have lt2 : ∀ x ∈ p2, x.block < W.heap.size := by obtain ⟨m, hm⟩ := k2; exact DataW.trod_lt m _ _ _ hm
  obtain ⟨bs, rfl, hb, hnil, lb⟩ : ∃ bs : List UInt8, bs.length = len0 ∧ IsBytes W a0 bs ∧ (a0 = none → bs = []) ∧ bs.length ≤ 140737488351232 := by
    obtain ⟨fuel, hf⟩ := h0
    exact open_bytes hf fun elems spare e => sized_slice hsz (j := 0) (t := 22) (e := 5) rfl (by simp at e; rw [e]; rfl) Try.underlying22
  obtain ⟨xs, rfl, hx, -, lx⟩ : ∃ ss : List ByteArray, ss.length = len1 ∧ IsStrs W a1 ss ∧ (a1 = none → ss = [] ∧ cap1 = 0) ∧ ss.length ≤ 140737488351232 := by
    obtain ⟨fuel, hf⟩ := h1
    exact open_strs hf fun elems spare e => sized_slice hsz (j := 1) (t := 23) (e := 9) rfl (by simp at e; rw [e]; rfl) Try.underlying23
  obtain ⟨ys, rfl, hy, -, ly⟩ : ∃ ss : List ByteArray, ss.length = len2 ∧ IsStrs W a2 ss ∧ (a2 = none → ss = [] ∧ cap2 = 0) ∧ ss.length ≤ 140737488351232 := by
    obtain ⟨fuel, hf⟩ := h2
    exact open_strs hf fun elems spare e => sized_slice hsz (j := 2) (t := 23) (e := 9) rfl (by simp at e; rw [e]; rfl) Try.underlying23
  clear hA0 hval0 hsz hsz0
  refine (walk4 a0 a1 a2 bs xs ys cap0 cap1 cap2 W hb hnil hx hy lb lx ly).mono fun e W' ⟨he, bel⟩ => ?_
  subst he
  exact ⟨_, rfl, _, _, _, [], _, [], hW', trodAll_mk1 (shut_bool Try.underlying4 _), (trodAll_cons_mk (Below.trod laidOut (by kernel_rfl) (of_decide_eq_true (by kernel_rfl)) k0 bel lt0) (trodAll_cons_mk (Below.trod laidOut (by kernel_rfl) (of_decide_eq_true (by kernel_rfl)) k1 bel lt1) (trodAll_cons_mk (Below.trod laidOut (by kernel_rfl) (of_decide_eq_true (by kernel_rfl)) k2 bel lt2) trodAll_mk0))), rfl, bel.frame _, fun h => by cases h⟩

theorem over : Rows.fnAppendMetadataPrefixFreeAndDecodesRow.holds Try.pinned (OpenSpec.ofChange Rows.fnAppendMetadataPrefixFreeAndDecodesSpec) :=
  OpenClaim.holds_of_wide 4 Try.f4 rfl rfl rfl rfl rfl rfl rfl ⟨rfl, rfl, rfl, rfl, rfl⟩ rfl rfl rfl rfl rfl (by kernel_rfl) Try.func4 (by kernel_rfl)
    (of_decide_eq_true (by kernel_rfl)) (by unfold Func.isWrapper; first | (rw [if_pos (by decide +kernel)]; kernel_rfl) | (rw [if_neg (by decide +kernel)]; exact ⟨rfl, rfl⟩))
    (fun os started H enc _ => lifted os started H enc)

/-- THE STATEMENT -/
theorem proved : Rows.FnAppendMetadataPrefixFreeAndDecodesSaid := over
end Go.Proofs.Qxb6627880a.fnAppendMetadataPrefixFreeAndDecodes
