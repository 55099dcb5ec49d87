/-
  'Rows.FnXRayCutAnywhereAndStripSaid': the walk out of the contracts, in the frame that the guide's program wrote.
-/
import Derived.Test.Qxb6627843aCalls
import Derived.WalkKit
import Derived.ProofKit
import Derived.OpenShut
import Derived.ShutString
namespace Go.Proofs.Qxb6627843a.fnXRayCutAnywhereAndStrip
open Go.ChangeShapes Go.WideShapes Go.ChangeAt Go.RowKit
open Go.ChangeMaps (open_string shut_string)
set_option linter.unusedVariables false

theorem own : ownKnob Try.prog.godebug = none := by kernel_rfl

theorem grown_drewN (w : World) (n : Nat) : Grown w (w.drewN n) :=
  ⟨by have h := World.keptBut_refl w (fun _ => False); exact ⟨h.1, h.2.1, h.2.2⟩, fun _ => rfl, Nat.le_refl _⟩

/-! ### STEP 1: THE WALK: the Go text returns true. 'Grown w w'': the world has at most new blocks (Derived/RowKit3.lean). Part the cases AHEAD of 'go_enter' where a test parts the walk; take each callee by a contract of your own. -/
set_option maxHeartbeats 1000000 in
theorem walk (a0 : ByteArray) (a1 : Int) (w0 : a0.size ≤ maxLen) (w1 : (Lit.int .i64 a1).wf = true) (w : World) :
    Calls Try.prog 3 #[.string a0, .int .i64 a1] w fun e w' => e = .returned (.bool true) ∧ Grown w w' := by
  go_enter Try.func3, Try.ntmps3
  go_wp2_with fail
  refine (bytes5 a0 a1 w w0).mono ?_
  rintro e w' ⟨rfl, rfl⟩
  by_cases hs : a0.size ≤ 1048576
  case neg =>
    rw [decide_eq_false hs]
    go_wp2
    go_ret
    exact ⟨rfl, Grown.refl _⟩
  rw [decide_eq_true hs]
  by_cases h8 : 8 ≤ a0.size
  case neg =>
    go_wp2
    go_ret
    exact ⟨rfl, Grown.refl _⟩
  by_cases hk8 : 8 ≤ a1
  case neg =>
    go_wp2
    go_ret
    exact ⟨rfl, Grown.refl _⟩
  by_cases hk : a1 ≤ a0.size
  case neg =>
    go_wp2
    go_ret
    exact ⟨rfl, Grown.refl _⟩
  obtain ⟨k, rfl⟩ := Int.eq_ofNat_of_zero_le (show 0 ≤ a1 by omega)
  have hk8' : 8 ≤ k := by omega
  have hkl : k ≤ a0.size := by omega
  clear hk8 hk w0 w1
  go_wp2_with fail
  refine (xray6 a0 _ h8 hs).mono ?_
  rintro e w2 ⟨x, rfl, hx, n1, rfl⟩
  go_wp2_with fail
  refine (xray6 (a0.extract 0 k) _ (by simp; omega) (by simp; omega)).mono ?_
  rintro e w3 ⟨y, rfl, hy, n2, rfl⟩
  have hxl : x.size = a0.size + 3 := by rw [size_of hx, X_length (by simpa using h8)]; simp
  have hyl : y.size = k + 3 := by
    rw [size_of hy, X_length (by rw [Lib.extract_data]; simp; omega), Lib.extract_data]; simp; omega
  have hxy : x = y ++ a0.extract k a0.size := by
    apply ByteArray.ext
    apply Array.toList_inj.1
    rw [hx, Joins.data_append, hy, Lib.extract_data, Lib.extract_data, X_cut hk8']
    have : (a0.data.toList.drop k).take (a0.size - k) = a0.data.toList.drop k := List.take_of_length_le (by simp)
    rw [this]
    simp
  have hne : (x.toList == (y ++ a0.extract k a0.size).toList) = true := by rw [← hxy]; simp
  have HX : Hid (x.data.toList = X a0.data.toList) := hx
  have hx1 : x.size ≤ 1048579 := by omega
  have hy1 : y.size ≤ 1048579 := by omega
  clear hx hy hxy hxl hyl
  go_wp2_with fail
  refine (strip7 x a0.data.toList _ HX.out (by simpa using h8) (by simpa using hs)).mono ?_
  rintro e w4 ⟨u, rfl, hu, n3, rfl⟩
  have hu' : u = a0 := ByteArray.ext (Array.toList_inj.1 hu)
  subst hu'
  go_wp2
  go_ret
  refine ⟨by simp, ?_⟩
  exact grown_drewN _ _

/-! ### THE ROW's STEP: WRITTEN OUT: LEAVE IT -/
set_option maxRecDepth 100000 in
theorem lifted (os : Os) (started : os.Started) (H : Type) (enc : TypeId × Value → H) :
    ReturnsInHanded {} Try.checked os 3 .any (Rows.fnXRayCutAnywhereAndStripSpec.pre6 enc Try.prog Try.f3 Rows.fnXRayCutAnywhereAndStripRow.domain false) (Rows.fnXRayCutAnywhereAndStripSpec.post enc Try.prog Try.f3 false true false false) := by
  refine returnsInHanded_of_change (C := Try.checked) own started (by kernel_rfl) Try.func3
    (ChangeSpec.witness6 (enc := enc) (C := Try.checked) false ⟨#[], #[.string ByteArray.empty, .int .i64 0], []⟩ 8 (by kernel_rfl) (by kernel_rfl) (by kernel_rfl) (by kernel_rfl)) ?_
  intro W base args ds gs before hval0 hW hcnd _
  have hval : ∀ (j : Nat) t v, Try.f3.params[j]? = some t → args[j]? = some v → Value.okWide Try.prog W .any base t v := hval0
  have hW' := hW
  obtain ⟨p, q, hA0, hV, rfl, hfz, hnd⟩ := hW
  have hA : DataW.TrodAll enc Try.prog W 0 (fun _ => true) true Try.f3.params.toList args.toList ds p := hA0
  rw [Try.params3] at hA hval
  obtain ⟨v0, vs0, d0, ds0, p0, q0, hargs, rfl, rfl, h0, r0⟩ := trodAll_cons hA
  obtain ⟨v1, vs1, d1, ds1, p1, q1, rfl, rfl, rfl, h1, r1⟩ := trodAll_cons r0
  obtain ⟨rfl, rfl, rfl⟩ := trodAll_nil r1
  obtain rfl : args = #[v0, v1] := by cases args; simp_all
  obtain ⟨rfl, rfl⟩ := trodVars_none hV
  obtain ⟨a0, rfl, rfl, rfl, w0⟩ := open_string Try.underlying9 (hval 0 9 v0 rfl rfl) h0
  obtain ⟨a1, rfl, rfl, rfl, w1⟩ := open_int Try.underlying3 (hval 1 3 v1 rfl rfl) h1
  clear hA0 hval0
  simp only [List.append_nil] at hW'
  refine (walk a0 a1 w0 w1 W).mono fun e W' ⟨he, hg⟩ => ?_
  subst he
  exact ⟨_, rfl, post_of_same (pa := []) (pv := []) hW' (fun _ _ _ => (trodAll_cons_mk (shut_bool Try.underlying4 _) trodAll_mk0)) (fun sp _ => (trodAll_cons_mk (shut_string Try.underlying9 w0) (trodAll_cons_mk (shut_int Try.underlying3 w1) trodAll_mk0))) (fun _ _ => rfl) rfl
    (hg.frame _) hg.2.1 (ok_one (by kernel_rfl) rfl (okWide_bool_mk Try.underlying4 _))⟩

theorem over : Rows.fnXRayCutAnywhereAndStripRow.holds Try.pinned (OpenSpec.ofChange Rows.fnXRayCutAnywhereAndStripSpec) :=
  OpenClaim.holds_of_wide 3 Try.f3 rfl rfl rfl rfl rfl rfl rfl ⟨rfl, rfl, rfl, rfl, rfl⟩ rfl rfl rfl rfl rfl (by kernel_rfl) Try.func3 (by kernel_rfl)
    (of_decide_eq_true (by kernel_rfl)) (by unfold Func.isWrapper; first | (rw [if_pos (by decide +kernel)]; kernel_rfl) | (rw [if_neg (by decide +kernel)]; exact ⟨rfl, rfl⟩))
    (fun os started H enc _ => lifted os started H enc)

/-- ████ THE STATEMENT ████ -/
theorem proved : Rows.FnXRayCutAnywhereAndStripSaid :=
  over
end Go.Proofs.Qxb6627843a.fnXRayCutAnywhereAndStrip
