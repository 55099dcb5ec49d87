/-
  FnBindFirstAppearanceSlots (function 3): the code behind region 45 (the checks), walked in a declaration of its own.
-/
import Derived.Test.Qxb6627794aFin3
import Derived.Test.Qxb6627794aSplit
namespace Go.Proofs.Qxb6627794a
open Go.RowKit Go.Maps

/-- The code behind region k of a body. -/
def behind (k : Nat) : Code → Option Code
  | .seq (.region n _ _) b => if n = k then some b else behind k b
  | .seq _ b => behind k b
  | .block _ c => behind k c
  | .scope c => behind k c
  | _ => none

set_option maxHeartbeats 4000000 in
set_option maxRecDepth 1000000 in
theorem tail3 (w0 wc : World) (a3 : Option Addr) (xs ys L K : List ByteArray) (C : List Nat) (t g ga gd : Nat) (u0 u2 u3 u4 u5 u6 u7 u8 u9 u11 u12 u13 u16 u18 u19 u20 u21 u22 u23 u24 u25 u26 u27 u28 u29 u30 u31 u32 u33 u34 u35 u36 u37 u38 u39 u40 u41 u42 u43 u44 u45 u46 u47 u48 u49 u50 u51 u52 u53 u54 u55 u56 u57 u58 u59 u60 u61 u62 u63 u64 u65 u66 u67 u68 u69 u70 u71 u72 u73 u74 u75 u76 u77 u78 u79 u80 u81 u82 u83 u84 u85 u86 u87 u88 u89 u90 u91 u92 u93 u94 u95 u96 u97 u98 u99 u100 u101 u102 u103 u104 u105 u106 u107 u108 u109 u110 u111 u112 u113 u114 u115 u116 u117 u118 u119 u120 u121 u122 u123 u124 u125 u126 u127 u128 u129 u130 u131 u132 u133 u134 u135 u136 u137 u138 u139 u140 u141 u142 u143 u144 u145 u146 u147 u148 u149 u150 u151 u152 u153 u154 u155 u156 u157 u158 u159 u160 u161 u162 u163 u164 u165 u166 u167 u168 u169 u170 u171 u172 u173 u174 u175 u176 u177 u178 u179 u180 u181 u182 u183 u184 u185 u186 u187 u188 u189 u190 u191 u192 u193 u194 u195 u196 u197 u198 u199 u200 u201 u202 u203 u204 u205 u206 u207 u208 u209 u210 u211 u212 u213 u214 u215 u216 u217 u218 u219 u220 u221 u222 u223 u224 u225 u226 u227 u228 u229 u230 u231 u232 u233 u234 u235 u236 u237 u238 u239 u240 u241 u242 u243 u244 u245 u246 u247 u248 u249 u250 u251 u252 u253 u254 u255 u256 u257 u258 u259 u260 u261 u262 u263 u264 u265 u266 u267 u268 u269 u270 u271 u272 u273 u274 u275 u276 u277 : Value)
    (HE : Hid (Below w0.heap.size w0 wc)) (HSF : SlotFacts wc g ys K a3) (HKf : Hid (∀ (j : Nat) s, K[j]? = some s → C[j]? = some (occ s L) ∧ ix s K = j ∧ s ∈ K ∧ s.size ≤ 1048576))
    (SA : IsStrs wc (some ⟨ga, 0, none⟩) L) (TB : TabR wc t K C) (S4 : IsStrs wc (some ⟨gd, 0, none⟩) K) (HLl : Hid (L.length = xs.length + ys.length)) (hKl : K.length ≤ xs.length + ys.length) (hx : xs.length ≤ 4096) (hy : ys.length ≤ 4096) :
    Code.wp Try.prog ((Try.f3.body.bind (behind 45)).getD .skip) (bodyPost Try.prog Try.f3 fun e w' => e = .returned (.bool true) ∧ Below w0.heap.size w0 w') ⟨#[u0, .slice a3 ys.length ys.length, u2, u3, u4, u5, u6, u7, u8, u9, .pointer (some ⟨t, 0, none⟩), u11, u12, u13, .slice (some ⟨ga, 0, none⟩) (xs.length + ys.length) (xs.length + ys.length), .slice (some ⟨gd, 0, none⟩) K.length (xs.length + ys.length), u16, .slice (some ⟨g, 0, none⟩) ys.length ys.length, u18, u19, u20, u21, u22, u23, u24, u25, u26, u27, u28, u29, u30, u31, u32, u33, u34, u35, u36, u37, u38, u39, u40, u41, u42, u43, u44, u45, u46, u47, u48, u49, u50, u51, u52, u53, u54, u55, u56, u57, u58, u59, u60, u61, u62, u63, u64, u65, u66, u67, u68, u69, u70, u71, u72, u73, u74, u75, u76, u77, u78, u79, u80, u81, u82, u83, u84, u85, u86, u87, u88, u89, u90, u91, u92, u93, u94, u95, u96, u97, u98, u99, u100, u101, u102, u103, u104, u105, u106, u107, u108, u109, u110, u111, u112, u113, u114, u115, u116, u117, u118, u119, u120, u121, u122, u123, u124, u125, u126, u127, u128, u129, u130, u131, u132, u133, u134, u135, u136, u137, u138, u139, u140, u141, u142, u143, u144, u145, u146, u147, u148, u149, u150, u151, u152, u153, u154, u155, u156, u157, u158, u159, u160, u161, u162, u163, u164, u165, u166, u167, u168, u169, u170, u171, u172, u173, u174, u175, u176, u177, u178, u179, u180, u181, u182, u183, u184, u185, u186, u187, u188, u189, u190, u191, u192, u193, u194, u195, u196, u197, u198, u199, u200, u201, u202, u203, u204, u205, u206, u207, u208, u209, u210, u211, u212, u213, u214, u215, u216, u217, u218, u219, u220, u221, u222, u223, u224, u225, u226, u227, u228, u229, u230, u231, u232, u233, u234, u235, u236, u237, u238, u239, u240, u241, u242, u243, u244, u245, u246, u247, u248, u249, u250, u251, u252, u253, u254, u255, u256, u257, u258, u259, u260, u261, u262, u263, u264, u265, u266, u267, u268, u269, u270, u271, u272, u273, u274, u275, u276, u277], []⟩ wc := by
  conv => arg 2; whnf
  obtain ⟨mv, ka, ra, fa, kc, rc, fc, V⟩ := TB.view3
  have v0 := V.c0
  have v1 := V.c1
  have v2 := V.c2
  have v3 := V.c3
  have v4 := V.c4
  go_wp2
  go_loopw [157] (fun i wr => ∃ (k m : Nat), k ≤ ys.length ∧ i = .int .i64 k ∧ wr = wc.drewN m) (fun i _ => ys.length - (intOf i).toNat)
  case atStart => exact ⟨0, 0, Nat.zero_le _, rfl, rfl⟩
  case round =>
    obtain ⟨k4, m, hk4, rfl, rfl⟩ := hrel
    by_cases hkl4 : k4 < ys.length
    · obtain ⟨s, hs⟩ := get_some hkl4
      obtain ⟨c1, hin, b, off, rfl, c2⟩ := HSF k4 s hs
      have hx1 : ix s K < K.length := ix_lt hin
      have HIX : Hid (∀ n : Nat, Calls Try.prog 8 #[.slice (some ⟨gd, 0, none⟩) K.length (xs.length + ys.length), .string s] (wc.drewN (m + n)) fun e w' => e = .returned (.int .i64 (ix s K)) ∧ ∃ n', w' = wc.drewN (m + n')) := fun n => by
        have := idx8 _ K K.length (xs.length + ys.length) s (wc.drewN (m + n)) (S4.drewN (m + n)) rfl (by omega)
        rw [zx_in hin] at this
        exact this.mono fun e w' h => ⟨h.1, n, h.2⟩
      have hwx : IntKind.i64.wrap (ix s K : Int) = (ix s K : Int) := by rw [IntKind.wrap_i64]; omega
      clear hs
      generalize ix s K = x at *
      go_wp2
      go_quiet ((go_at_call 8; exact HIX.out _))
      go_wp2
      go_roundw
      case rel => exact ⟨k4 + 1, _, by omega, by go_num, rfl⟩
      case measure => simp [intOf]; omega
    · have hml : ∀ n : Nat, (Builtin.len_ #[25] 3 #[mv]).run Try.prog (wc.drewN n) = .ok (.int .i64 K.length) (wc.drewN n) := fun n => V.mlen _ rfl
      go_wp2
      go_loopw [208] (fun i wr => ∃ k : Nat, k ≤ K.length ∧ i = .int .i64 k ∧ Below wc.heap.size wc wr) (fun i _ => K.length - (intOf i).toNat)
      case atStart => exact ⟨0, Nat.zero_le _, rfl, below_drewN (Below.refl _ _) _⟩
      case round =>
        obtain ⟨k, hk, rfl, hb⟩ := hrel
        clear hml hk4 hkl4 v0 v1 v2 v3 v4
        by_cases hkl : k < K.length
        · obtain ⟨s, hs⟩ := get_some hkl
          obtain ⟨hC, hix, hin, hsz⟩ := HKf.out k s hs
          obtain ⟨gk, rfl, k1⟩ := V.keys k s hs
          obtain ⟨gr, rfl, k2⟩ := V.reads k _ hC
          have k1' := carry hb k1
          have k2' := carry hb k2
          obtain ⟨b, off, e, hd⟩ := strs_cell S4 k s hs
          cases e
          rw [Nat.zero_add] at hd
          have hd' := carry hb hd
          obtain ⟨mv', ka', ra', fa', kc', rc', fc', V'⟩ := (TB.below hb (Nat.le_refl _)).view3
          obtain ⟨gf, rfl, d0, d1, d2⟩ := V'.found k hkl
          have e0 := V'.c0
          have e3 := V'.c3
          have HLK : Hid (∀ n : Nat, (Instr.lookup 25 mv' (.string s) true).run Try.prog (wr.drewN n) = .ok (.tuple #[.int .i32 (k : Int), .bool true]) (wr.drewN n)) := fun n => by
            have := V'.mlook (wr.drewN n) s rfl hin (by unfold maxLen; omega)
            rw [hix] at this
            exact this
          have HSA : Hid (∀ (i : Nat) x, L[i]? = some x → wr.cell? ⟨ga, i, none⟩ = some (.string x)) := fun i x hx => by
            obtain ⟨b, off, e, h⟩ := strs_cell SA i x hx
            cases e
            rw [Nat.zero_add] at h
            exact carry hb h
          have HD : Hid (wr.cell? ⟨t, 0, none⟩ = some mv' ∧ wr.cell? ⟨t, 3, none⟩ = some (.slice (some ⟨gf, 0, none⟩) K.length fc') ∧ wr.cell? ⟨gf, k * 3, none⟩ = some (.int .u64 0) ∧ wr.cell? ⟨gf, k * 3 + 1, none⟩ = some (.string ByteArray.empty) ∧ wr.cell? ⟨gf, k * 3 + 1 + 1, none⟩ = some (.bool false)) := ⟨e0, e3, d0, d1, d2⟩
          have hoc : occ s L ≤ xs.length + ys.length := by have := occ_le s L; rw [HLl.out] at this; exact this
          clear hs hC hix hin hsz k1 k2 hd V' e0 e3 d0 d1 d2
          go_wp2
          go_quiet (fail)
          go_wp2
          go_loopw [22, 222] (fun c i w6 => ∃ j m : Nat, j ≤ xs.length + ys.length ∧ i = .int .i64 j ∧ c = .int .i64 (occ s (L.take j) : Nat) ∧ w6 = wr.drewN m) (fun _ i _ => xs.length + ys.length - (intOf i).toNat)
          case atStart => exact ⟨0, _, Nat.zero_le _, rfl, rfl, rfl⟩
          case round =>
            obtain ⟨j, m6, hj, rfl, rfl, rfl⟩ := hrel
            have hoj : occ s (L.take j) ≤ j := by have := occ_le s (L.take j); simp at this; omega
            by_cases hjl : j < xs.length + ys.length
            · obtain ⟨x, hx⟩ := get_some (show j < L.length by rw [HLl.out]; exact hjl)
              have hc := HSA.out j x hx
              by_cases he : x = s
              · subst he
                have HO : Hid (occ x (L.take (j + 1)) = occ x (L.take j) + 1) := occ_step_same hx
                clear hx
                generalize occ x (L.take j) = q at *
                go_wp2
                go_quiet (fail)
                go_wp2
                go_roundw
                case rel => exact ⟨j + 1, _, by omega, by go_num, by rw [HO.out]; go_num, rfl⟩
                case measure => simp [intOf]; omega
              · have hne : (x.toList == s.toList) = false := str_ne.2 he
                have HO : Hid (occ s (L.take (j + 1)) = occ s (L.take j)) := occ_step_other hx he
                clear hx he
                generalize occ s (L.take j) = q at *
                go_wp2
                go_quiet (fail)
                go_wp2
                go_roundw
                case rel => exact ⟨j + 1, _, by omega, by go_num, by rw [HO.out], rfl⟩
                case measure => simp [intOf]; omega
            · have ho : occ s (L.take j) = occ s L := by rw [List.take_of_length_le (by rw [HLl.out]; omega)]
              have hwo : IntKind.i64.wrap (occ s L : Int) = (occ s L : Int) := by rw [IntKind.wrap_i64]; omega
              have hno : ((occ s L : Int) != (occ s (L.take j) : Int)) = false := by rw [ho]; simp
              have hwk : IntKind.i64.wrap (k : Int) = (k : Int) := by rw [IntKind.wrap_i64]; omega
              clear ho hoj
              generalize occ s (L.take j) = q at *
              generalize occ s L = q' at *
              go_wp2_with fail
              refine (slotOf17 t s mv' k (wr.drewN m6) HD.out.1 (HLK.out m6)).mono ?_
              rintro e w7 ⟨rfl, rfl⟩
              go_wp2_with fail
              refine (found18 t k K.length fc' gf (wr.drewN m6) hkl HD.out.2.1 HD.out.2.2.1 HD.out.2.2.2.1 HD.out.2.2.2.2).mono ?_
              rintro e w8 ⟨rfl, hb8⟩
              go_wp2
              go_roundw
              case rel => (repeat apply Exists.intro); exact ⟨⟨k + 1, by omega, by go_num, (below_drewN hb _).trans (hb8.mono hb.size)⟩, rfl⟩
              case measure => simp [intOf]; omega
        · go_wp2
          go_ret
          exact ⟨rfl, HE.out.trans (hb.mono HE.out.size)⟩
end Go.Proofs.Qxb6627794a
