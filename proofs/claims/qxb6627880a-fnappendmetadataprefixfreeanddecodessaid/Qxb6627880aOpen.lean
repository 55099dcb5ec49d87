/-
  Slices of strings and of bytes among the arguments, opened as the walks are told of it.
-/
import Derived.Test.Qxb6627880aLaw
import Derived.ProofKit
import Derived.OpenShut
import Derived.ShutString
import Derived.ChangeOld
import Derived.SizedLaws
import Derived.SliceStrings
import Derived.ChangeSlices
namespace Go.Proofs.Qxb6627880a
open Go.ChangeShapes Go.WideShapes Go.ChangeAt Go.RowKit

theorem own : ownKnob Try.prog.godebug = none := by kernel_rfl
theorem laidOut : laidOutB Try.prog = true := by kernel_rfl
theorem cells9 : Try.prog.cellsOf 9 = 1 := by kernel_rfl
theorem bytes9 : Try.prog.bytesOf 9 = 16 := by kernel_rfl

theorem open_strs {H : Type} {enc : TypeId × Value → H} {W : World} {base : Nat} {fuel : Nat} {a : Option Addr} {len cap : Nat} {x : DataW H × List MemPlace}
    (h : DataW.trod enc Try.prog W base (fun _ => true) true fuel 23 [.slice a len cap] = some x)
    (hsz : ∀ elems spare, x.1 = .slice elems spare → (elems.length + spare.length) * Try.prog.bytesOf 9 ≤ reachBytes) :
    ∃ ss : List ByteArray, ss.length = len ∧ IsStrs W a ss ∧ (a = none → ss = [] ∧ cap = 0) ∧ ss.length ≤ 140737488351232 := by
  rcases open_strings Try.underlying23 Try.underlying9 cells9 h with ⟨hcs, _⟩ | ⟨ad, l, c, ss, hcs, _, hl, hm, hz, hx, hcell, _⟩
  · simp at hcs
    obtain ⟨rfl, rfl, rfl⟩ := hcs
    exact ⟨[], rfl, .inl rfl, fun _ => ⟨rfl, rfl⟩, by simp⟩
  · simp at hcs
    obtain ⟨rfl, rfl, rfl⟩ := hcs
    simp at hz
    have hlen : (ss.take len).length = len := by simp; omega
    refine ⟨ss.take len, hlen, ?_, fun e => by simp at e, ?_⟩
    · by_cases h0 : len = 0
      · exact .inl (by rw [h0]; simp)
      · obtain ⟨b, off, spot⟩ := ad
        have h00 := hcell 0 (by omega)
        have hspot : spot = none := by simpa [Addr.add] using World.cell?_spot h00
        subst hspot
        have hb : b < W.heap.size := by
          have := World.block_lt_of_cell? W _ h00
          simpa [Addr.add] using this
        refine .inr ⟨b, off, rfl, hb, fun j s hs => ?_⟩
        rw [List.getElem?_take] at hs
        split at hs
        · have hj := (List.getElem?_eq_some_iff.1 hs).1
          have := hcell j hj
          rw [Go.WideShapes.add_plain] at this
          rw [this]
          simp [hs]
        · cases hs
    · have := hsz _ _ (by rw [hx])
      rw [bytes9] at this
      simp only [strs, List.length_map, List.length_take, List.length_drop, reachBytes] at this
      omega

theorem cells5 : Try.prog.cellsOf 5 = 1 := by kernel_rfl
theorem bytes5' : Try.prog.bytesOf 5 = 1 := by kernel_rfl

theorem open_bytes {H : Type} {enc : TypeId × Value → H} {W : World} {base : Nat} {fuel : Nat} {a : Option Addr} {len cap : Nat} {x : DataW H × List MemPlace}
    (h : DataW.trod enc Try.prog W base (fun _ => true) true fuel 22 [.slice a len cap] = some x)
    (hsz : ∀ elems spare, x.1 = .slice elems spare → (elems.length + spare.length) * Try.prog.bytesOf 5 ≤ reachBytes) :
    ∃ bs : List UInt8, bs.length = len ∧ IsBytes W a bs ∧ (a = none → bs = []) ∧ bs.length ≤ 140737488351232 := by
  rcases open_ints Try.underlying22 Try.underlying5 cells5 h with ⟨hcs, _⟩ | ⟨ad, l, c, zs, hcs, _, hl, hm, hz, hx, hcell, hw⟩
  · simp at hcs
    obtain ⟨rfl, rfl, rfl⟩ := hcs
    exact ⟨[], rfl, .inl rfl, fun _ => rfl, by simp⟩
  · simp at hcs
    obtain ⟨rfl, rfl, rfl⟩ := hcs
    simp at hz
    have hlen : ((zs.take len).map fun n => UInt8.ofNat n.toNat).length = len := by simp; omega
    refine ⟨(zs.take len).map fun n => UInt8.ofNat n.toNat, hlen, ?_, fun e => by simp at e, ?_⟩
    · by_cases h0 : len = 0
      · exact .inl (by rw [h0]; simp)
      · obtain ⟨b, off, spot⟩ := ad
        have h00 := hcell 0 (by omega)
        have hspot : spot = none := by simpa [Addr.add] using World.cell?_spot h00
        subst hspot
        have hb : b < W.heap.size := by
          have := World.block_lt_of_cell? W _ h00
          simpa [Addr.add] using this
        refine .inr ⟨b, off, rfl, hb, fun j s hs => ?_⟩
        rw [List.getElem?_map, List.getElem?_take] at hs
        split at hs
        · have hj : j < zs.length := by omega
          have hc := hcell j hj
          rw [Go.WideShapes.add_plain] at hc
          rw [hc]
          have hb8 := range_u8 hw j
          rw [List.getElem?_eq_getElem hj] at hs
          simp at hs
          subst hs
          rw [List.getElem?_eq_getElem hj] at hb8
          rw [List.getD_eq_getElem?_getD, List.getElem?_eq_getElem hj]
          simp only [Option.getD_some] at hb8 ⊢
          congr 2
          simp only [UInt8.toNat_ofNat']
          omega
        · cases hs
    · have := hsz _ _ (by rw [hx])
      rw [bytes5'] at this
      simp only [lits, List.length_map, List.length_take, List.length_drop, reachBytes] at this
      rw [hlen]
      omega

end Go.Proofs.Qxb6627880a
