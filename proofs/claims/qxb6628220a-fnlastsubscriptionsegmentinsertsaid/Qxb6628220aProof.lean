/-
  'Rows.FnLastSubscriptionSegmentInsertSaid', out of the walk (Qxb6628220aWalk). After the guide's own shell for a law over memory (howto/shells).
-/
import Derived.Test.Qxb6628220aWalk
import Derived.Test.Qxb6628220aOpen
namespace Go.Proofs.Qxb6628220a.fnLastSubscriptionSegmentInsert
open Go.ChangeShapes Go.WideShapes Go.ChangeAt Go.RowKit
set_option linter.unusedVariables false

set_option maxRecDepth 100000 in
theorem lifted (os : Os) (started : os.Started) (H : Type) (enc : TypeId × Value → H) :
    ReturnsInHanded {} Try.checked os 3 .any (Rows.fnLastSubscriptionSegmentInsertSpec.pre6 enc Try.prog Try.f3 Rows.fnLastSubscriptionSegmentInsertRow.domain false) (Rows.fnLastSubscriptionSegmentInsertSpec.post enc Try.prog Try.f3 false true false false) := by
  refine returnsInHanded_of_change_sized (C := Try.checked) own started (by kernel_rfl) Try.func3
    (ChangeSpec.witness6 (enc := enc) (C := Try.checked) false ⟨#[], #[.agg #[.string ByteArray.empty, .int .i64 0, .string ByteArray.empty, .slice none 0 0, .pointer none, .pointer none, .slice none 0 0], .string ByteArray.empty, .int .i64 0, .agg #[.int .i64 0, .int .i64 0, .slice none 0 0, .slice none 0 0]], []⟩ 8 (by kernel_rfl) (by kernel_rfl) (by kernel_rfl) (by kernel_rfl)) ?_
  intro W base args ds gs before hval0 hW hcnd hsz0 _
  have hsz : (DataW.weightsEach Try.prog (Try.f3.params.toList ++ Rows.fnLastSubscriptionSegmentInsertSpec.plain.varTypes Try.prog) (ds ++ gs)).all (· ≤ reachBytes) = true := hsz0
  have hval : ∀ (j : Nat) t v, Try.f3.params[j]? = some t → args[j]? = some v → Value.okWide Try.prog W .any base t v := hval0
  have hW' := hW
  obtain ⟨p, q, hA0, hV, rfl, hfz, hnd⟩ := hW
  have hA : DataW.TrodAll enc Try.prog W 0 (fun _ => true) true Try.f3.params.toList args.toList ds p := hA0
  rw [Try.params3] at hA hval hsz
  obtain ⟨v0, vs0, d0, ds0, p0, q0, hargs, rfl, rfl, h0, r0⟩ := trodAll_cons hA
  obtain ⟨v1, vs1, d1, ds1, p1, q1, rfl, rfl, rfl, h1, r1⟩ := trodAll_cons r0
  obtain ⟨v2, vs2, d2, ds2, p2, q2, rfl, rfl, rfl, h2, r2⟩ := trodAll_cons r1
  obtain ⟨v3, vs3, d3, ds3, p3, q3, rfl, rfl, rfl, h3, r3⟩ := trodAll_cons r2
  obtain ⟨rfl, rfl, rfl⟩ := trodAll_nil r3
  obtain rfl : args = #[v0, v1, v2, v3] := by cases args; simp_all
  obtain ⟨rfl, rfl⟩ := trodVars_none hV
  have k0 := h0
  have k1 := h1
  have k2 := h2
  have k3 := h3
  have lt0 : ∀ x ∈ p0, x.block < W.heap.size := by obtain ⟨m, hm⟩ := k0; exact DataW.trod_lt m _ _ _ hm
  have lt1 : ∀ x ∈ p1, x.block < W.heap.size := by obtain ⟨m, hm⟩ := k1; exact DataW.trod_lt m _ _ _ hm
  have lt2 : ∀ x ∈ p2, x.block < W.heap.size := by obtain ⟨m, hm⟩ := k2; exact DataW.trod_lt m _ _ _ hm
  have lt3 : ∀ x ∈ p3, x.block < W.heap.size := by obtain ⟨m, hm⟩ := k3; exact DataW.trod_lt m _ _ _ hm
  obtain ⟨cs0, rfl, hs0⟩ := okWide_struct Try.underlying27 (hval 0 27 v0 rfl rfl)
  obtain ⟨cs3, rfl, hs3⟩ := okWide_struct Try.underlying29 (hval 3 29 v3 rfl rfl)
  obtain ⟨s, es, ok⟩ : ∃ s : SchV, (Value.agg cs0) = s.val ∧ SchOk W s := by
    obtain ⟨fuel, hf⟩ := h0
    obtain ⟨s, e, ok⟩ := open_sch hf
    refine ⟨s, ?_, ok⟩
    have e' : cs0.toList = [.string s.an, .int .i64 s.mo, .string s.ro, .slice s.ea s.es.length s.ec, .pointer s.so, .pointer s.re, .slice s.oa s.gs.length s.oc] := by simpa [Value.cells] using e
    rw [SchV.val, ← e']
  obtain ⟨g, eg, og⟩ : ∃ g : SegV, (Value.agg cs3) = g.val ∧ SegOk W g := by
    obtain ⟨fuel, hf⟩ := h3
    obtain ⟨g, e, ok⟩ := open_seg hf
    refine ⟨g, ?_, ok⟩
    have e' : cs3.toList = [.int .i64 g.s, .int .i64 g.b, .slice g.ra g.rs.length g.rc, .slice g.sa g.ss.length g.sc] := by simpa [Value.cells] using e
    rw [SegV.val, ← e']
  obtain ⟨c, rfl⟩ : ∃ c : ByteArray, v1 = .string c := by
    obtain ⟨fuel, hf⟩ := h1
    obtain ⟨c, e, _⟩ := DataW.trod_string Try.underlying9 hf
    refine ⟨c, ?_⟩
    obtain ⟨c', e'⟩ := okWide_string Try.underlying9 (hval 1 9 v1 rfl rfl)
    rw [e'] at e
    simp [Value.cells] at e
    rw [e', e]
  obtain ⟨kk, rfl, rfl, rfl, w3⟩ := open_int Try.underlying3 (hval 2 3 v2 rfl rfl) h2
  clear hA0 hval0 hsz hsz0
  rw [es, eg]
  refine (walk3 s c kk g W ok og).mono fun e W' ⟨he, bel⟩ => ?_
  subst he
  rw [es] at k0
  rw [eg] at k3
  rw [es, eg] at hW'
  exact ⟨_, rfl, _, _, _, [], _, [], hW', trodAll_mk1 (shut_bool Try.underlying4 _), (trodAll_cons_mk (Below.trod laidOut (by kernel_rfl) (of_decide_eq_true (by kernel_rfl)) k0 bel lt0) (trodAll_cons_mk (Below.trod laidOut (by kernel_rfl) (of_decide_eq_true (by kernel_rfl)) k1 bel lt1) (trodAll_cons_mk (Below.trod laidOut (by kernel_rfl) (of_decide_eq_true (by kernel_rfl)) k2 bel lt2) (trodAll_cons_mk (Below.trod laidOut (by kernel_rfl) (of_decide_eq_true (by kernel_rfl)) k3 bel lt3) trodAll_mk0)))), rfl, bel.frame _, fun h => by cases h⟩

theorem over : Rows.fnLastSubscriptionSegmentInsertRow.holds Try.pinned (OpenSpec.ofChange Rows.fnLastSubscriptionSegmentInsertSpec) :=
  OpenClaim.holds_of_wide 3 Try.f3 rfl rfl rfl rfl rfl rfl rfl ⟨rfl, rfl, rfl, rfl, rfl⟩ rfl rfl rfl rfl rfl (by kernel_rfl) Try.func3 (by kernel_rfl)
    (of_decide_eq_true (by kernel_rfl)) (by unfold Func.isWrapper; first | (rw [if_pos (by decide +kernel)]; kernel_rfl) | (rw [if_neg (by decide +kernel)]; exact ⟨rfl, rfl⟩))
    (fun os started H enc _ => lifted os started H enc)

/-- THE STATEMENT -/
theorem proved : Rows.FnLastSubscriptionSegmentInsertSaid := over
end Go.Proofs.Qxb6628220a.fnLastSubscriptionSegmentInsert
