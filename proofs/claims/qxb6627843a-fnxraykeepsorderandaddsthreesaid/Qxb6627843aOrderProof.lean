/-
  'Rows.FnXRayKeepsOrderAndAddsThreeSaid': the walk out of the contracts, in the frame that the guide's program wrote.
-/
import Derived.Test.Qxb6627843aCalls
import Derived.WalkKit
import Derived.ProofKit
import Derived.OpenShut
import Derived.ShutString
namespace Go.Proofs.Qxb6627843a.fnXRayKeepsOrderAndAddsThree
open Go.ChangeShapes Go.WideShapes Go.ChangeAt Go.RowKit
open Go.ChangeMaps (open_string shut_string)
set_option linter.unusedVariables false

theorem own : ownKnob Try.prog.godebug = none := by kernel_rfl

theorem grown_drewN (w : World) (n : Nat) : Grown w (w.drewN n) :=
  ⟨by have h := World.keptBut_refl w (fun _ => False); exact ⟨h.1, h.2.1, h.2.2⟩, fun _ => rfl, Nat.le_refl _⟩

/-! ### STEP 1: THE WALK: the Go text returns true. 'Grown w w'': the world has at most new blocks (Derived/RowKit3.lean). Part the cases AHEAD of 'go_enter' where a test parts the walk; take each callee by a contract of your own. -/
set_option maxHeartbeats 1000000 in
theorem walk (a0 : ByteArray) (a1 : ByteArray) (w0 : a0.size ≤ maxLen) (w1 : a1.size ≤ maxLen) (w : World) :
    Calls Try.prog 4 #[.string a0, .string a1] w fun e w' => e = .returned (.bool true) ∧ Grown w w' := by
  go_enter Try.func4, Try.ntmps4
  go_wp2_with fail
  refine (bytes8 a0 a1 w w0 w1).mono ?_
  rintro e w' ⟨rfl, r, rfl, hr⟩
  cases r
  · go_wp2
    go_ret
    exact ⟨rfl, Grown.refl _⟩
  obtain ⟨ha, hb⟩ := hr rfl
  clear hr w0 w1
  by_cases hsum : (a0.size : Int) + a1.size ≤ 1048576
  case neg =>
    go_wp2
    go_ret
    exact ⟨rfl, Grown.refl _⟩
  by_cases h0 : 8 ≤ a0.size
  case neg =>
    go_wp2
    go_ret
    exact ⟨rfl, Grown.refl _⟩
  by_cases h1 : 8 ≤ a1.size
  case neg =>
    go_wp2
    go_ret
    exact ⟨rfl, Grown.refl _⟩
  go_wp2_with fail
  refine (xray6 a0 _ h0 ha).mono ?_
  rintro e w2 ⟨xa, rfl, hxa, n1, rfl⟩
  go_wp2_with fail
  refine (xray6 a1 _ h1 hb).mono ?_
  rintro e w3 ⟨xb, rfl, hxb, n2, rfl⟩
  have sa : xa.size = a0.size + 3 := by rw [size_of hxa, X_length (by simpa using h0)]; simp
  have sb : xb.size = a1.size + 3 := by rw [size_of hxb, X_length (by simpa using h1)]; simp
  have ba : ((xa.size : Int) != (a0.size : Int) + 3) = false := by simp; omega
  have bb : ((xb.size : Int) != (a1.size : Int) + 3) = false := by simp; omega
  have la : xa.size ≤ 1048579 := by omega
  have lb : xb.size ≤ 1048579 := by omega
  have HX : Hid (cmp xa.data.toList xb.data.toList = cmp a0.data.toList a1.data.toList) := by
    rw [Hid, hxa, hxb]; exact cmp_X (by simpa using h0) (by simpa using h1)
  clear sa sb hxa hxb
  go_wp2_with fail
  refine (compare9 xa xb _ la lb).mono ?_
  rintro e w4 ⟨rfl, n3, rfl⟩
  go_wp2_with fail
  refine (compare9 a0 a1 _ (by omega) (by omega)).mono ?_
  rintro e w5 ⟨rfl, n4, rfl⟩
  rw [HX.out]
  go_wp2
  go_ret
  refine ⟨by simp, ?_⟩
  exact grown_drewN _ _

/-! ### THE ROW's STEP: WRITTEN OUT: LEAVE IT -/
set_option maxRecDepth 100000 in
theorem lifted (os : Os) (started : os.Started) (H : Type) (enc : TypeId × Value → H) :
    ReturnsInHanded {} Try.checked os 4 .any (Rows.fnXRayKeepsOrderAndAddsThreeSpec.pre6 enc Try.prog Try.f4 Rows.fnXRayKeepsOrderAndAddsThreeRow.domain false) (Rows.fnXRayKeepsOrderAndAddsThreeSpec.post enc Try.prog Try.f4 false true false false) := by
  refine returnsInHanded_of_change (C := Try.checked) own started (by kernel_rfl) Try.func4
    (ChangeSpec.witness6 (enc := enc) (C := Try.checked) false ⟨#[], #[.string ByteArray.empty, .string ByteArray.empty], []⟩ 8 (by kernel_rfl) (by kernel_rfl) (by kernel_rfl) (by kernel_rfl)) ?_
  intro W base args ds gs before hval0 hW hcnd _
  have hval : ∀ (j : Nat) t v, Try.f4.params[j]? = some t → args[j]? = some v → Value.okWide Try.prog W .any base t v := hval0
  have hW' := hW
  obtain ⟨p, q, hA0, hV, rfl, hfz, hnd⟩ := hW
  have hA : DataW.TrodAll enc Try.prog W 0 (fun _ => true) true Try.f4.params.toList args.toList ds p := hA0
  rw [Try.params4] at hA hval
  obtain ⟨v0, vs0, d0, ds0, p0, q0, hargs, rfl, rfl, h0, r0⟩ := trodAll_cons hA
  obtain ⟨v1, vs1, d1, ds1, p1, q1, rfl, rfl, rfl, h1, r1⟩ := trodAll_cons r0
  obtain ⟨rfl, rfl, rfl⟩ := trodAll_nil r1
  obtain rfl : args = #[v0, v1] := by cases args; simp_all
  obtain ⟨rfl, rfl⟩ := trodVars_none hV
  obtain ⟨a0, rfl, rfl, rfl, w0⟩ := open_string Try.underlying9 (hval 0 9 v0 rfl rfl) h0
  obtain ⟨a1, rfl, rfl, rfl, w1⟩ := open_string Try.underlying9 (hval 1 9 v1 rfl rfl) h1
  clear hA0 hval0
  simp only [List.append_nil] at hW'
  refine (walk a0 a1 w0 w1 W).mono fun e W' ⟨he, hg⟩ => ?_
  subst he
  exact ⟨_, rfl, post_of_same (pa := []) (pv := []) hW' (fun _ _ _ => (trodAll_cons_mk (shut_bool Try.underlying4 _) trodAll_mk0)) (fun sp _ => (trodAll_cons_mk (shut_string Try.underlying9 w0) (trodAll_cons_mk (shut_string Try.underlying9 w1) trodAll_mk0))) (fun _ _ => rfl) rfl
    (hg.frame _) hg.2.1 (ok_one (by kernel_rfl) rfl (okWide_bool_mk Try.underlying4 _))⟩

theorem over : Rows.fnXRayKeepsOrderAndAddsThreeRow.holds Try.pinned (OpenSpec.ofChange Rows.fnXRayKeepsOrderAndAddsThreeSpec) :=
  OpenClaim.holds_of_wide 4 Try.f4 rfl rfl rfl rfl rfl rfl rfl ⟨rfl, rfl, rfl, rfl, rfl⟩ rfl rfl rfl rfl rfl (by kernel_rfl) Try.func4 (by kernel_rfl)
    (of_decide_eq_true (by kernel_rfl)) (by unfold Func.isWrapper; first | (rw [if_pos (by decide +kernel)]; kernel_rfl) | (rw [if_neg (by decide +kernel)]; exact ⟨rfl, rfl⟩))
    (fun os started H enc _ => lifted os started H enc)

/-- ████ THE STATEMENT ████ -/
theorem proved : Rows.FnXRayKeepsOrderAndAddsThreeSaid :=
  over
end Go.Proofs.Qxb6627843a.fnXRayKeepsOrderAndAddsThree
