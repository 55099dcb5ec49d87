/-
  zzBytes (4): the code behind region 33: the loop over the segments. (Written by a script.)
-/
import Derived.Test.Qxb6628220aBytesC
namespace Go.Proofs.Qxb6628220a
open Go.RowKit

set_option maxHeartbeats 8000000 in
set_option maxRecDepth 1000000 in
theorem bytes4b (w W0 : World) (B : Nat) (c : ByteArray) (z : Int) (oa : Option Addr) (gs : List SegV) (oc : Nat) (ra' : Option Addr) (rs' : List ByteArray) (rc' : Nat) (sa' : Option Addr) (ss' : List ByteArray) (sc' : Nat) (u0 u2 u3 u5 u6 u8 u10 u11 u12 u13 u14 u15 u16 u17 u18 u19 u20 u21 u22 u23 u24 u25 u26 u27 u28 u29 u30 u31 u32 u33 u34 u35 u36 u37 u38 u39 u40 u41 u42 u43 u44 u45 u46 u47 u48 u49 u50 u51 u52 u53 u54 u55 u56 u57 u58 u59 u60 u61 u62 u63 u64 u65 u66 u67 u68 u69 u70 u71 u72 u73 u74 u75 u76 u77 u78 u79 u80 u81 u82 u83 u84 u85 u86 u87 u88 u89 u90 u91 u92 u93 u94 u95 u96 u97 u98 u99 u100 u101 u102 u103 u104 u105 u106 u107 u108 u109 u110 u111 u112 u113 u114 u115 u116 u117 u118 u119 u120 u121 u122 u123 u124 u125 u126 u127 u128 u129 u130 u131 u132 u133 u134 u135 u136 u137 u138 u139 u140 u141 u142 u143 u144 u145 u146 u147 u148 u149 u150 u151 u152 u153 u154 u155 u156 u157 u158 u159 u160 u161 u162 u163 u164 u165 u166 u167 u168 u169 u170 u171 u172 u173 u174 u175 u176 u177 u178 u179 u180 u181 u182 u183 u184 u185 u186 u187 u188 u189 u190 u191 u192 u193 u194 u195 u196 u197 u198 u199 u200 u201 u202 u203 u204 u205 u206 u207 u208 u209 u210 u211 u212 u213 u214 u215 u216 u217 u218 u219 u220 u221 u222 u223 u224 u225 u226 u227 u228 u229 u230 u231 u232 u233 u234 u235 u236 u237 u238 u239 u240 u241 u242 u243 u244 u245 u246 u247 u248 u249 u250 u251 u252 u253 u254 u255 u256 u257 u258 u259 u260 u261 u262 u263 u264 u265 u266 u267 u268 u269 u270 u271 u272 u273 u274 u275 u276 u277 u278 u279 u280 u281 u282 u283 u284 u285 u286 u287 u288 u289 u290 u291 u292 u293 u294 u295 u296 u297 u298 u299 : Value)
    (bA : Below w.heap.size w W0) (hn : gs.length ≤ 1048576) (hz0 : 0 ≤ z) (hz1 : z ≤ 1048576 + 1048576) (s6 : W0.cell? ⟨B, 6, none⟩ = some (.slice oa gs.length oc)) (t2 : W0.cell? ⟨B + 1, 2, none⟩ = some (.slice ra' rs'.length rc')) (t3 : W0.cell? ⟨B + 1, 3, none⟩ = some (.slice sa' ss'.length sc'))
    (HO : Hid (IsSegs W0 oa gs)) (HG : Hid (∀ g ∈ gs, SegOk W0 g)) (HR : Hid (∀ (k : Nat) s, rs'[k]? = some s → ∃ b off, ra' = some ⟨b, off, none⟩ ∧ W0.cell? ⟨b, off + k, none⟩ = some (.string s))) (HS : Hid (∀ (k : Nat) s, ss'[k]? = some s → ∃ b off, sa' = some ⟨b, off, none⟩ ∧ W0.cell? ⟨b, off + k, none⟩ = some (.string s))) :
    Code.wp Try.prog ((Try.f4.body.bind (behind 33)).getD .skip) (bodyPost Try.prog Try.f4 fun e w' => Below w.heap.size w w' ∧ RetBool e fun r => FewIf r gs.length) ⟨#[u0, .string c, u2, u3, .pointer (some ⟨B, 0, none⟩), u5, u6, .pointer (some ⟨B + 1, 0, none⟩), u8, .int .i64 z, u10, u11, u12, u13, u14, u15, u16, u17, u18, u19, u20, u21, u22, u23, u24, u25, u26, u27, u28, u29, u30, u31, u32, u33, u34, u35, u36, u37, u38, u39, u40, u41, u42, u43, u44, u45, u46, u47, u48, u49, u50, u51, u52, u53, u54, u55, u56, u57, u58, u59, u60, u61, u62, u63, u64, u65, u66, u67, u68, u69, u70, u71, u72, u73, u74, u75, u76, u77, u78, u79, u80, u81, u82, u83, u84, u85, u86, u87, u88, u89, u90, u91, u92, u93, u94, u95, u96, u97, u98, u99, u100, u101, u102, u103, u104, u105, u106, u107, u108, u109, u110, u111, u112, u113, u114, u115, u116, u117, u118, u119, u120, u121, u122, u123, u124, u125, u126, u127, u128, u129, u130, u131, u132, u133, u134, u135, u136, u137, u138, u139, u140, u141, u142, u143, u144, u145, u146, u147, u148, u149, u150, u151, u152, u153, u154, u155, u156, u157, u158, u159, u160, u161, u162, u163, u164, u165, u166, u167, u168, u169, u170, u171, u172, u173, u174, u175, u176, u177, u178, u179, u180, u181, u182, u183, u184, u185, u186, u187, u188, u189, u190, u191, u192, u193, u194, u195, u196, u197, u198, u199, u200, u201, u202, u203, u204, u205, u206, u207, u208, u209, u210, u211, u212, u213, u214, u215, u216, u217, u218, u219, u220, u221, u222, u223, u224, u225, u226, u227, u228, u229, u230, u231, u232, u233, u234, u235, u236, u237, u238, u239, u240, u241, u242, u243, u244, u245, u246, u247, u248, u249, u250, u251, u252, u253, u254, u255, u256, u257, u258, u259, u260, u261, u262, u263, u264, u265, u266, u267, u268, u269, u270, u271, u272, u273, u274, u275, u276, u277, u278, u279, u280, u281, u282, u283, u284, u285, u286, u287, u288, u289, u290, u291, u292, u293, u294, u295, u296, u297, u298, u299], []⟩ W0 := by
  conv => arg 2; whnf
  by_cases kz : z ≤ 1048576
  case neg =>
    go_wp2
    go_ret
    exact ⟨bA, false, rfl, fun h => by cases h⟩
  go_wp2
  go_loop [9, 11] (fun v i => ∃ (k : Nat) (z : Int), k ≤ gs.length ∧ i = .int .i64 k ∧ v = .int .i64 z ∧ 0 ≤ z ∧ z ≤ 1048576) (fun _ i => gs.length - (intOf i).toNat)
  case atStart => exact ⟨0, _, Nat.zero_le _, rfl, rfl, by omega, by omega⟩
  case round =>
    obtain ⟨io, zo, hio, rfl, rfl, loo, hio'⟩ := hrel
    by_cases hlo : io < gs.length
    · obtain ⟨⟨gs2, gb2, ra, rs, rc, sa, ss, sc⟩, hx⟩ := get_some hlo
      have ok := HG.out _ (List.mem_of_getElem? hx)
      obtain ⟨qb, qo, rfl, q0, q1, q2, q3⟩ := segs_cell HO.out io _ hx
      simp only at q0 q1 q2 q3
      have HR2 : Hid (∀ (k : Nat) s, rs[k]? = some s → ∃ b off, ra = some ⟨b, off, none⟩ ∧ W0.cell? ⟨b, off + k, none⟩ = some (.string s)) := strs_cell ok.r
      have HS2 : Hid (∀ (k : Nat) s, ss[k]? = some s → ∃ b off, sa = some ⟨b, off, none⟩ ∧ W0.cell? ⟨b, off + k, none⟩ = some (.string s)) := strs_cell ok.s
      clear hx ok HR HS t2 t3
      by_cases k7a : (rs.length) ≤ 1048576
      case neg =>
        go_wp2
        go_ret
        exact ⟨bA, false, rfl, fun h => by cases h⟩
      by_cases k7b : zo + ((rs.length : Nat) : Int) ≤ 1048576
      case neg =>
        go_wp2
        go_ret
        exact ⟨bA, false, rfl, fun h => by cases h⟩
      go_wp2
      go_loop [9, 12] (fun v i => ∃ (k : Nat) (z : Int), k ≤ rs.length ∧ i = .int .i64 k ∧ v = .int .i64 z ∧ 0 ≤ z ∧ z ≤ 1048576) (fun _ i => rs.length - (intOf i).toNat)
      case atStart => exact ⟨0, _, Nat.zero_le _, rfl, rfl, by omega, by omega⟩
      case round =>
        obtain ⟨i8, z8, hi8, rfl, rfl, lo8, hi8'⟩ := hrel
        by_cases hl8 : i8 < rs.length
        · obtain ⟨x, hx⟩ := get_some hl8
          obtain ⟨b1, o1, rfl, c1⟩ := HR2.out i8 x hx
          clear hx
          by_cases k9a : (x.size) ≤ 1048576
          case neg =>
            go_wp2
            go_ret
            exact ⟨bA, false, rfl, fun h => by cases h⟩
          by_cases k9b : z8 + ((x.size : Nat) : Int) ≤ 1048576
          case neg =>
            go_wp2
            go_ret
            exact ⟨bA, false, rfl, fun h => by cases h⟩
          go_wp2
          go_round
          case rel => exact ⟨i8 + 1, _, by omega, by go_num, rfl, by omega, by omega⟩
          case measure => simp [intOf]; omega
        · by_cases k10a : (ss.length) ≤ 1048576
          case neg =>
            go_wp2
            go_ret
            exact ⟨bA, false, rfl, fun h => by cases h⟩
          by_cases k10b : z8 + ((ss.length : Nat) : Int) ≤ 1048576
          case neg =>
            go_wp2
            go_ret
            exact ⟨bA, false, rfl, fun h => by cases h⟩
          go_wp2
          go_loop [9, 13] (fun v i => ∃ (k : Nat) (z : Int), k ≤ ss.length ∧ i = .int .i64 k ∧ v = .int .i64 z ∧ 0 ≤ z ∧ z ≤ 1048576) (fun _ i => ss.length - (intOf i).toNat)
          case atStart => exact ⟨0, _, Nat.zero_le _, rfl, rfl, by omega, by omega⟩
          case round =>
            obtain ⟨i11, z11, hi11, rfl, rfl, lo11, hi11'⟩ := hrel
            by_cases hl11 : i11 < ss.length
            · obtain ⟨x, hx⟩ := get_some hl11
              obtain ⟨b1, o1, rfl, c1⟩ := HS2.out i11 x hx
              clear hx
              by_cases k12a : (x.size) ≤ 1048576
              case neg =>
                go_wp2
                go_ret
                exact ⟨bA, false, rfl, fun h => by cases h⟩
              by_cases k12b : z11 + ((x.size : Nat) : Int) ≤ 1048576
              case neg =>
                go_wp2
                go_ret
                exact ⟨bA, false, rfl, fun h => by cases h⟩
              go_wp2
              go_round
              case rel => exact ⟨i11 + 1, _, by omega, by go_num, rfl, by omega, by omega⟩
              case measure => simp [intOf]; omega
            · go_wp2
              go_round
              case rel => exact ⟨io + 1, _, by omega, by go_num, rfl, by omega, by omega⟩
              case measure => simp [intOf]; omega
    · by_cases kc : c.size ≤ 1048576
      case neg =>
        go_wp2
        go_ret
        exact ⟨bA, false, rfl, fun h => by cases h⟩
      go_upto_region 67 with fail
      go_cut [9] (fun v wx => wx = W0 ∧ v = .int .i64 (zo + c.size))
      case first =>
        go_wp2
        go_meet
        exact ⟨rfl, rfl⟩
      obtain ⟨e1, e2⟩ := hcut
      subst e1
      subst e2
      go_step
      exact bytes4c w wc (B + 1) gs.length (zo + c.size) ra' rs' rc' sa' ss' sc' _ _ _ _ _ _ _ _ _ _ _ _ _ _ _ _ _ _ _ _ _ _ _ _ _ _ _ _ _ _ _ _ _ _ _ _ _ _ _ _ _ _ _ _ _ _ _ _ _ _ _ _ _ _ _ _ _ _ _ _ _ _ _ _ _ _ _ _ _ _ _ _ _ _ _ _ _ _ _ _ _ _ _ _ _ _ _ _ _ _ _ _ _ _ _ _ _ _ _ _ _ _ _ _ _ _ _ _ _ _ _ _ _ _ _ _ _ _ _ _ _ _ _ _ _ _ _ _ _ _ _ _ _ _ _ _ _ _ _ _ _ _ _ _ _ _ _ _ _ _ _ _ _ _ _ _ _ _ _ _ _ _ _ _ _ _ _ _ _ _ _ _ _ _ _ _ _ _ _ _ _ _ _ _ _ _ _ _ _ _ _ _ _ _ _ _ _ _ _ _ _ _ _ _ _ _ _ _ _ _ _ _ _ _ _ _ _ _ _ _ _ _ _ _ _ _ _ _ _ _ _ _ _ _ _ _ _ _ _ _ _ _ _ _ _ _ _ _ _ _ _ _ _ _ _ _ _ _ _ _ _ _ _ _ _ _ _ _ _ _ _ _ _ _ _ _ _ _ _ _ _ _ _ _ _ _ _ _ _ _ _ _ _ _ _ _ _ _ bA hn (by omega) (by omega) t2 t3 HR HS

end Go.Proofs.Qxb6628220a
