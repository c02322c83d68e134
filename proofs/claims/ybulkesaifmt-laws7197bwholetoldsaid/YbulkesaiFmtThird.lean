/- THE LAW's THIRD PART: the extension bit's count, the optional components' count; then the last part. WRITTEN BY A PROGRAM OF MY OWN. -/
import Derived.Test.YbulkesaiFmtLast
import Derived.Deep.DeepCutAuto
namespace Go.Proofs.YbulkesaiFmt
open Go.ChangeShapes Go.WideShapes Go.ChangeAt Go.RowKit
open Go.Extern.Stop Go.Stop Go.Extern
set_option linter.unusedVariables false

set_option maxHeartbeats 1600000 in
set_option maxRecDepth 100000 in
theorem seg3_no (a0 a4 : Option Addr) (l0 c0 m c4 E O root S R P : Nat) (pv av ev : Value) (Z : Nat → Nat) (opt : Nat → Bool) (hZ : ∀ j, Z j < 256) (w0 w : World) (b0 : l0 ≤ 1048576) (b4 : m ≤ 1048576) (hOE : O ≤ E) (hEl : E ≤ 8 * l0) (hr64 : root ≤ 64) (hr4 : root ≤ m)
    (hO : OptOf w a4 m opt) (hS : ∀ j, j < l0 → w.cell? ⟨S, j, none⟩ = some (.int .u8 (Z j : Nat))) (hB : Below w0.heap.size w0 w) (hL : Left3 Z opt O E root false pv av ev P) (hRd : w.heap[R]? = some (rdO a0 l0 c0 (P : Nat) E))
    (u1 u2 u5 u6 u7 u8 u9 u10 u11 u12 u13 u17 u18 u19 u25 u26 u27 u28 u29 u30 u31 u32 u33 u34 u35 u36 u37 u38 u39 u40 u41 u42 u43 u44 u45 u46 u47 u48 u49 u50 u51 u52 u53 u54 u55 u56 u57 u58 u59 u60 u61 u62 u63 u64 u65 u66 u67 u68 u69 u70 u71 u72 u73 u74 u75 u76 u77 u78 u79 u80 u81 u82 u83 u84 u85 u86 u87 u88 u89 u90 u91 u92 u93 u94 u95 u96 u97 u98 u99 u100 u101 u102 u103 u104 u105 u106 u107 u108 u109 u110 u111 u112 u113 u114 u115 u116 u117 u118 u119 u120 u121 u122 u123 u124 u125 u126 u127 u128 u129 u130 u131 u132 u133 u134 u135 u136 u137 u138 u139 u140 u141 u142 u143 u144 u145 u146 u147 u148 u149 u150 u151 u152 u153 u154 u155 u156 u157 u158 u159 u160 u161 u162 u163 u164 u165 u166 u167 u168 u169 u170 u171 u172 u173 u174 u175 u176 u177 u178 u179 u180 u181 u182 u183 u184 u185 u186 u187 u188 u189 u190 u191 u192 u193 u194 u195 u196 u197 u198 u199 u200 u201 u202 u203 u204 u205 u206 u207 u208 u209 u210 u211 u212 u213 u214 u215 u216 u217 u218 u219 u220 u221 u222 u223 u224 u225 u226 u227 u228 u229 u230 u231 u232 u233 u234 u235 u236 u237 u238 u239 u240 u241 u242 u243 u244 u245 u246 u247 u248 u249 u250 u251 u252 u253 u254 u255 u256 u257 u258 u259 u260 u261 u262 u263 u264 u265 u266 u267 u268 u269 u270 u271 u272 u273 u274 u275 u276 u277 u278 u279 u280 u281 u282 u283 u284 u285 u286 u287 u288 u289 u290 u291 u292 u293 u294 u295 u296 u297 u298 u299 u300 u301 u302 u303 u304 u305 u306 u307 u308 u309 u310 u311 u312 u313 u314 u315 u316 u317 u318 u319 u320 u321 u322 u323 u324 u325 u326 u327 u328 u329 u330 u331 : Value) (K : Act → World → Prop)
    (hK : ∀ a w, Code.wp Ybaf.prog ((Ybaf.f3.body.bind (partAt 41)).getD (.skip, .skip)).2 (bodyPost Ybaf.prog Ybaf.f3 fun e w' => e = .returned (.bool true) ∧ Below w0.heap.size w0 w') a w → K a w) :
    Code.wp Ybaf.prog ((Ybaf.f3.body.bind (partAt 41)).getD (.skip, .skip)).1 (Exit.then K (bodyPost Ybaf.prog Ybaf.f3 fun e w' => e = .returned (.bool true) ∧ Below w0.heap.size w0 w'))
      ⟨#[.slice a0 l0 c0, u1, u2, .bool false, .slice a4 m c4, u5, u6, u7, u8, u9, u10, u11, u12, u13, .int .i64 (E : Nat), .int .i64 (O : Nat), .int .i64 (root : Nat), u17, u18, u19, .slice (some ⟨S, 0, none⟩) l0 l0, .pointer (some ⟨R, 0, none⟩), pv, av, ev, u25, u26, u27, u28, u29, u30, u31, u32, u33, u34, u35, u36, u37, u38, u39, u40, u41, u42, u43, u44, u45, u46, u47, u48, u49, u50, u51, u52, u53, u54, u55, u56, u57, u58, u59, u60, u61, u62, u63, u64, u65, u66, u67, u68, u69, u70, u71, u72, u73, u74, u75, u76, u77, u78, u79, u80, u81, u82, u83, u84, u85, u86, u87, u88, u89, u90, u91, u92, u93, u94, u95, u96, u97, u98, u99, u100, u101, u102, u103, u104, u105, u106, u107, u108, u109, u110, u111, u112, u113, u114, u115, u116, u117, u118, u119, u120, u121, u122, u123, u124, u125, u126, u127, u128, u129, u130, u131, u132, u133, u134, u135, u136, u137, u138, u139, u140, u141, u142, u143, u144, u145, u146, u147, u148, u149, u150, u151, u152, u153, u154, u155, u156, u157, u158, u159, u160, u161, u162, u163, u164, u165, u166, u167, u168, u169, u170, u171, u172, u173, u174, u175, u176, u177, u178, u179, u180, u181, u182, u183, u184, u185, u186, u187, u188, u189, u190, u191, u192, u193, u194, u195, u196, u197, u198, u199, u200, u201, u202, u203, u204, u205, u206, u207, u208, u209, u210, u211, u212, u213, u214, u215, u216, u217, u218, u219, u220, u221, u222, u223, u224, u225, u226, u227, u228, u229, u230, u231, u232, u233, u234, u235, u236, u237, u238, u239, u240, u241, u242, u243, u244, u245, u246, u247, u248, u249, u250, u251, u252, u253, u254, u255, u256, u257, u258, u259, u260, u261, u262, u263, u264, u265, u266, u267, u268, u269, u270, u271, u272, u273, u274, u275, u276, u277, u278, u279, u280, u281, u282, u283, u284, u285, u286, u287, u288, u289, u290, u291, u292, u293, u294, u295, u296, u297, u298, u299, u300, u301, u302, u303, u304, u305, u306, u307, u308, u309, u310, u311, u312, u313, u314, u315, u316, u317, u318, u319, u320, u321, u322, u323, u324, u325, u326, u327, u328, u329, u330, u331], []⟩ w := by
  conv => arg 2; whnf
  conv at hK => enter [a, w, 1, 2]; whnf
  have HL : Hid (Left3 Z opt O E root false pv av ev P) := hL
  have HR : Hid (w.heap[R]? = some (rdO a0 l0 c0 (P : Nat) E)) := hRd
  have HO : Hid (OptOf w a4 m opt) := hO
  have HS : Hid (∀ j, j < l0 → w.cell? ⟨S, j, none⟩ = some (.int .u8 (Z j : Nat))) := hS
  have HB : Hid (Below w0.heap.size w0 w) := hB
  clear hL hRd hS hB
  go_wp2_with fail
  go_loop [29, 30] (fun c i => ∃ k : Nat, k ≤ root ∧ i = .int .i64 k ∧ c = .int .i64 (cnt opt k : Nat)) (fun _ i => root - (intOf i).toNat)
  case atStart => exact ⟨0, Nat.zero_le _, rfl, rfl⟩
  case round =>
    obtain ⟨k, hk, rfl, rfl⟩ := hrel
    have hcl := cnt_le opt k
    by_cases hlt : k < root
    · obtain ⟨b, off, rfl, hbw, hc⟩ := hO k (by omega)
      have hck := hc k (by omega)
      have hkm : (k : Int) < (m : Int) := by omega
      clear hO hc
      go_wp2_with fail
      · go_round
        case rel => exact ⟨k + 1, by omega, by go_num, cnt_hit ‹_›⟩
        case measure => simp [intOf]; omega
      · go_round
        case rel => exact ⟨k + 1, by omega, by go_num, cnt_miss ‹_›⟩
        case measure => simp [intOf]; omega
    · obtain rfl : k = root := by omega
      clear hO
      go_upto_region 50 with fail
      have hL := HL.out
      have hRd := HR.out
      have hO := HO.out
      have hS := HS.out
      have hB := HB.out
      clear HL HR HO HS HB
      rcases hL with ⟨hfit, rfl, rfl, rfl, rfl⟩ | ⟨hno, rfl, rfl, ⟨q, rfl⟩, rfl⟩
      · exact seg4_fit_no a0 a4 l0 c0 m c4 E O k S R Z opt hZ w0 w b0 b4 hOE hEl hr64 hr4 hO hS hB hfit hRd _ _ _ _ _ _ _ _ _ _ _ _ _ _ _ _ _ _ _ _ _ _ _ _ _ _ _ _ _ _ _ _ _ _ _ _ _ _ _ _ _ _ _ _ _ _ _ _ _ _ _ _ _ _ _ _ _ _ _ _ _ _ _ _ _ _ _ _ _ _ _ _ _ _ _ _ _ _ _ _ _ _ _ _ _ _ _ _ _ _ _ _ _ _ _ _ _ _ _ _ _ _ _ _ _ _ _ _ _ _ _ _ _ _ _ _ _ _ _ _ _ _ _ _ _ _ _ _ _ _ _ _ _ _ _ _ _ _ _ _ _ _ _ _ _ _ _ _ _ _ _ _ _ _ _ _ _ _ _ _ _ _ _ _ _ _ _ _ _ _ _ _ _ _ _ _ _ _ _ _ _ _ _ _ _ _ _ _ _ _ _ _ _ _ _ _ _ _ _ _ _ _ _ _ _ _ _ _ _ _ _ _ _ _ _ _ _ _ _ _ _ _ _ _ _ _ _ _ _ _ _ _ _ _ _ _ _ _ _ _ _ _ _ _ _ _ _ _ _ _ _ _ _ _ _ _ _ _ _ _ _ _ _ _ _ _ _ _ _ _ _ _ _ _ _ _ _ _ _ _ _ _ _ _ _ _ _ _ _ _ _ _ _ _ _ _ _ _ _ _ _ _ _ _ _ _ _ _ _ _ _ _ _ _ _ _ _ _ _ _ ‹_›
      · by_cases hle : cnt opt k ≤ 32
        · have ep : errPos false O E (cnt opt k) = O := by unfold errPos; rw [if_pos (by simpa using hle)]
          rw [ep] at hRd
          exact seg4_no_short a0 a4 l0 c0 m c4 E O k S R Z opt hZ w0 w b0 b4 hOE hEl hr64 hr4 0 (cnt opt k) q false hO hS hB (by omega) hno hle hRd _ _ _ _ _ _ _ _ _ _ _ _ _ _ _ _ _ _ _ _ _ _ _ _ _ _ _ _ _ _ _ _ _ _ _ _ _ _ _ _ _ _ _ _ _ _ _ _ _ _ _ _ _ _ _ _ _ _ _ _ _ _ _ _ _ _ _ _ _ _ _ _ _ _ _ _ _ _ _ _ _ _ _ _ _ _ _ _ _ _ _ _ _ _ _ _ _ _ _ _ _ _ _ _ _ _ _ _ _ _ _ _ _ _ _ _ _ _ _ _ _ _ _ _ _ _ _ _ _ _ _ _ _ _ _ _ _ _ _ _ _ _ _ _ _ _ _ _ _ _ _ _ _ _ _ _ _ _ _ _ _ _ _ _ _ _ _ _ _ _ _ _ _ _ _ _ _ _ _ _ _ _ _ _ _ _ _ _ _ _ _ _ _ _ _ _ _ _ _ _ _ _ _ _ _ _ _ _ _ _ _ _ _ _ _ _ _ _ _ _ _ _ _ _ _ _ _ _ _ _ _ _ _ _ _ _ _ _ _ _ _ _ _ _ _ _ _ _ _ _ _ _ _ _ _ _ _ _ _ _ _ _ _ _ _ _ _ _ _ _ _ _ _ _ _ _ _ _ _ _ _ _ _ _ _ _ _ _ _ _ _ _ _ _ _ _ _ _ _ _ _ _ _ _ _ _ _ _ _ _ _ _ _ _ _ _ _ _ _ _ ‹_›
        · have ep : errPos false O E (cnt opt k) = stopPos E O (cnt opt k) := by unfold errPos; rw [if_neg (by simpa using hle), if_neg (by simp)]; rfl
          rw [ep] at hRd
          exact seg4_no_plain a0 a4 l0 c0 m c4 E O k S R Z opt hZ w0 w b0 b4 hOE hEl hr64 hr4 (cnt opt k) q hO hS hB O rfl hno (by omega) (by omega) hRd _ _ _ _ _ _ _ _ _ _ _ _ _ _ _ _ _ _ _ _ _ _ _ _ _ _ _ _ _ _ _ _ _ _ _ _ _ _ _ _ _ _ _ _ _ _ _ _ _ _ _ _ _ _ _ _ _ _ _ _ _ _ _ _ _ _ _ _ _ _ _ _ _ _ _ _ _ _ _ _ _ _ _ _ _ _ _ _ _ _ _ _ _ _ _ _ _ _ _ _ _ _ _ _ _ _ _ _ _ _ _ _ _ _ _ _ _ _ _ _ _ _ _ _ _ _ _ _ _ _ _ _ _ _ _ _ _ _ _ _ _ _ _ _ _ _ _ _ _ _ _ _ _ _ _ _ _ _ _ _ _ _ _ _ _ _ _ _ _ _ _ _ _ _ _ _ _ _ _ _ _ _ _ _ _ _ _ _ _ _ _ _ _ _ _ _ _ _ _ _ _ _ _ _ _ _ _ _ _ _ _ _ _ _ _ _ _ _ _ _ _ _ _ _ _ _ _ _ _ _ _ _ _ _ _ _ _ _ _ _ _ _ _ _ _ _ _ _ _ _ _ _ _ _ _ _ _ _ _ _ _ _ _ _ _ _ _ _ _ _ _ _ _ _ _ _ _ _ _ _ _ _ _ _ _ _ _ _ _ _ _ _ _ _ _ _ _ _ _ _ _ _ _ _ _ _ _ _ _ _ _ _ _ _ _ _ _ _ _ _ ‹_›

set_option maxHeartbeats 1600000 in
set_option maxRecDepth 100000 in
theorem seg3_ext (a0 a4 : Option Addr) (l0 c0 m c4 E O root S R P : Nat) (pv av ev : Value) (Z : Nat → Nat) (opt : Nat → Bool) (hZ : ∀ j, Z j < 256) (w0 w : World) (b0 : l0 ≤ 1048576) (b4 : m ≤ 1048576) (hOE : O ≤ E) (hEl : E ≤ 8 * l0) (hr64 : root ≤ 64) (hr4 : root ≤ m)
    (hO : OptOf w a4 m opt) (hS : ∀ j, j < l0 → w.cell? ⟨S, j, none⟩ = some (.int .u8 (Z j : Nat))) (hB : Below w0.heap.size w0 w) (hL : Left3 Z opt O E root true pv av ev P) (hRd : w.heap[R]? = some (rdO a0 l0 c0 (P : Nat) E))
    (u1 u2 u5 u6 u7 u8 u9 u10 u11 u12 u13 u17 u18 u19 u25 u26 u27 u28 u29 u30 u31 u32 u33 u34 u35 u36 u37 u38 u39 u40 u41 u42 u43 u44 u45 u46 u47 u48 u49 u50 u51 u52 u53 u54 u55 u56 u57 u58 u59 u60 u61 u62 u63 u64 u65 u66 u67 u68 u69 u70 u71 u72 u73 u74 u75 u76 u77 u78 u79 u80 u81 u82 u83 u84 u85 u86 u87 u88 u89 u90 u91 u92 u93 u94 u95 u96 u97 u98 u99 u100 u101 u102 u103 u104 u105 u106 u107 u108 u109 u110 u111 u112 u113 u114 u115 u116 u117 u118 u119 u120 u121 u122 u123 u124 u125 u126 u127 u128 u129 u130 u131 u132 u133 u134 u135 u136 u137 u138 u139 u140 u141 u142 u143 u144 u145 u146 u147 u148 u149 u150 u151 u152 u153 u154 u155 u156 u157 u158 u159 u160 u161 u162 u163 u164 u165 u166 u167 u168 u169 u170 u171 u172 u173 u174 u175 u176 u177 u178 u179 u180 u181 u182 u183 u184 u185 u186 u187 u188 u189 u190 u191 u192 u193 u194 u195 u196 u197 u198 u199 u200 u201 u202 u203 u204 u205 u206 u207 u208 u209 u210 u211 u212 u213 u214 u215 u216 u217 u218 u219 u220 u221 u222 u223 u224 u225 u226 u227 u228 u229 u230 u231 u232 u233 u234 u235 u236 u237 u238 u239 u240 u241 u242 u243 u244 u245 u246 u247 u248 u249 u250 u251 u252 u253 u254 u255 u256 u257 u258 u259 u260 u261 u262 u263 u264 u265 u266 u267 u268 u269 u270 u271 u272 u273 u274 u275 u276 u277 u278 u279 u280 u281 u282 u283 u284 u285 u286 u287 u288 u289 u290 u291 u292 u293 u294 u295 u296 u297 u298 u299 u300 u301 u302 u303 u304 u305 u306 u307 u308 u309 u310 u311 u312 u313 u314 u315 u316 u317 u318 u319 u320 u321 u322 u323 u324 u325 u326 u327 u328 u329 u330 u331 : Value) (K : Act → World → Prop)
    (hK : ∀ a w, Code.wp Ybaf.prog ((Ybaf.f3.body.bind (partAt 41)).getD (.skip, .skip)).2 (bodyPost Ybaf.prog Ybaf.f3 fun e w' => e = .returned (.bool true) ∧ Below w0.heap.size w0 w') a w → K a w) :
    Code.wp Ybaf.prog ((Ybaf.f3.body.bind (partAt 41)).getD (.skip, .skip)).1 (Exit.then K (bodyPost Ybaf.prog Ybaf.f3 fun e w' => e = .returned (.bool true) ∧ Below w0.heap.size w0 w'))
      ⟨#[.slice a0 l0 c0, u1, u2, .bool true, .slice a4 m c4, u5, u6, u7, u8, u9, u10, u11, u12, u13, .int .i64 (E : Nat), .int .i64 (O : Nat), .int .i64 (root : Nat), u17, u18, u19, .slice (some ⟨S, 0, none⟩) l0 l0, .pointer (some ⟨R, 0, none⟩), pv, av, ev, u25, u26, u27, u28, u29, u30, u31, u32, u33, u34, u35, u36, u37, u38, u39, u40, u41, u42, u43, u44, u45, u46, u47, u48, u49, u50, u51, u52, u53, u54, u55, u56, u57, u58, u59, u60, u61, u62, u63, u64, u65, u66, u67, u68, u69, u70, u71, u72, u73, u74, u75, u76, u77, u78, u79, u80, u81, u82, u83, u84, u85, u86, u87, u88, u89, u90, u91, u92, u93, u94, u95, u96, u97, u98, u99, u100, u101, u102, u103, u104, u105, u106, u107, u108, u109, u110, u111, u112, u113, u114, u115, u116, u117, u118, u119, u120, u121, u122, u123, u124, u125, u126, u127, u128, u129, u130, u131, u132, u133, u134, u135, u136, u137, u138, u139, u140, u141, u142, u143, u144, u145, u146, u147, u148, u149, u150, u151, u152, u153, u154, u155, u156, u157, u158, u159, u160, u161, u162, u163, u164, u165, u166, u167, u168, u169, u170, u171, u172, u173, u174, u175, u176, u177, u178, u179, u180, u181, u182, u183, u184, u185, u186, u187, u188, u189, u190, u191, u192, u193, u194, u195, u196, u197, u198, u199, u200, u201, u202, u203, u204, u205, u206, u207, u208, u209, u210, u211, u212, u213, u214, u215, u216, u217, u218, u219, u220, u221, u222, u223, u224, u225, u226, u227, u228, u229, u230, u231, u232, u233, u234, u235, u236, u237, u238, u239, u240, u241, u242, u243, u244, u245, u246, u247, u248, u249, u250, u251, u252, u253, u254, u255, u256, u257, u258, u259, u260, u261, u262, u263, u264, u265, u266, u267, u268, u269, u270, u271, u272, u273, u274, u275, u276, u277, u278, u279, u280, u281, u282, u283, u284, u285, u286, u287, u288, u289, u290, u291, u292, u293, u294, u295, u296, u297, u298, u299, u300, u301, u302, u303, u304, u305, u306, u307, u308, u309, u310, u311, u312, u313, u314, u315, u316, u317, u318, u319, u320, u321, u322, u323, u324, u325, u326, u327, u328, u329, u330, u331], []⟩ w := by
  conv => arg 2; whnf
  conv at hK => enter [a, w, 1, 2]; whnf
  have HL : Hid (Left3 Z opt O E root true pv av ev P) := hL
  have HR : Hid (w.heap[R]? = some (rdO a0 l0 c0 (P : Nat) E)) := hRd
  have HO : Hid (OptOf w a4 m opt) := hO
  have HS : Hid (∀ j, j < l0 → w.cell? ⟨S, j, none⟩ = some (.int .u8 (Z j : Nat))) := hS
  have HB : Hid (Below w0.heap.size w0 w) := hB
  clear hL hRd hS hB
  go_wp2_with fail
  go_loop [29, 30] (fun c i => ∃ k : Nat, k ≤ root ∧ i = .int .i64 k ∧ c = .int .i64 (cnt opt k : Nat)) (fun _ i => root - (intOf i).toNat)
  case atStart => exact ⟨0, Nat.zero_le _, rfl, rfl⟩
  case round =>
    obtain ⟨k, hk, rfl, rfl⟩ := hrel
    have hcl := cnt_le opt k
    by_cases hlt : k < root
    · obtain ⟨b, off, rfl, hbw, hc⟩ := hO k (by omega)
      have hck := hc k (by omega)
      have hkm : (k : Int) < (m : Int) := by omega
      clear hO hc
      go_wp2_with fail
      · go_round
        case rel => exact ⟨k + 1, by omega, by go_num, cnt_hit ‹_›⟩
        case measure => simp [intOf]; omega
      · go_round
        case rel => exact ⟨k + 1, by omega, by go_num, cnt_miss ‹_›⟩
        case measure => simp [intOf]; omega
    · obtain rfl : k = root := by omega
      clear hO
      go_upto_region 50 with fail
      have hL := HL.out
      have hRd := HR.out
      have hO := HO.out
      have hS := HS.out
      have hB := HB.out
      clear HL HR HO HS HB
      rcases hL with ⟨hfit, rfl, rfl, rfl, rfl⟩ | ⟨hno, rfl, rfl, ⟨q, rfl⟩, rfl⟩
      · exact seg4_fit_ext a0 a4 l0 c0 m c4 E O k S R Z opt hZ w0 w b0 b4 hOE hEl hr64 hr4 hO hS hB hfit hRd _ _ _ _ _ _ _ _ _ _ _ _ _ _ _ _ _ _ _ _ _ _ _ _ _ _ _ _ _ _ _ _ _ _ _ _ _ _ _ _ _ _ _ _ _ _ _ _ _ _ _ _ _ _ _ _ _ _ _ _ _ _ _ _ _ _ _ _ _ _ _ _ _ _ _ _ _ _ _ _ _ _ _ _ _ _ _ _ _ _ _ _ _ _ _ _ _ _ _ _ _ _ _ _ _ _ _ _ _ _ _ _ _ _ _ _ _ _ _ _ _ _ _ _ _ _ _ _ _ _ _ _ _ _ _ _ _ _ _ _ _ _ _ _ _ _ _ _ _ _ _ _ _ _ _ _ _ _ _ _ _ _ _ _ _ _ _ _ _ _ _ _ _ _ _ _ _ _ _ _ _ _ _ _ _ _ _ _ _ _ _ _ _ _ _ _ _ _ _ _ _ _ _ _ _ _ _ _ _ _ _ _ _ _ _ _ _ _ _ _ _ _ _ _ _ _ _ _ _ _ _ _ _ _ _ _ _ _ _ _ _ _ _ _ _ _ _ _ _ _ _ _ _ _ _ _ _ _ _ _ _ _ _ _ _ _ _ _ _ _ _ _ _ _ _ _ _ _ _ _ _ _ _ _ _ _ _ _ _ _ _ _ _ _ _ _ _ _ _ _ _ _ _ _ _ _ _ _ _ _ _ _ _ _ _ _ _ _ _ _ ‹_›
      · by_cases hle : cnt opt k + 1 ≤ 32
        · have ep : errPos true O E (cnt opt k) = O := by unfold errPos; rw [if_pos (by simpa using hle)]
          rw [ep] at hRd
          exact seg4_no_short a0 a4 l0 c0 m c4 E O k S R Z opt hZ w0 w b0 b4 hOE hEl hr64 hr4 1 (cnt opt k) q true hO hS hB (by omega) hno hle hRd _ _ _ _ _ _ _ _ _ _ _ _ _ _ _ _ _ _ _ _ _ _ _ _ _ _ _ _ _ _ _ _ _ _ _ _ _ _ _ _ _ _ _ _ _ _ _ _ _ _ _ _ _ _ _ _ _ _ _ _ _ _ _ _ _ _ _ _ _ _ _ _ _ _ _ _ _ _ _ _ _ _ _ _ _ _ _ _ _ _ _ _ _ _ _ _ _ _ _ _ _ _ _ _ _ _ _ _ _ _ _ _ _ _ _ _ _ _ _ _ _ _ _ _ _ _ _ _ _ _ _ _ _ _ _ _ _ _ _ _ _ _ _ _ _ _ _ _ _ _ _ _ _ _ _ _ _ _ _ _ _ _ _ _ _ _ _ _ _ _ _ _ _ _ _ _ _ _ _ _ _ _ _ _ _ _ _ _ _ _ _ _ _ _ _ _ _ _ _ _ _ _ _ _ _ _ _ _ _ _ _ _ _ _ _ _ _ _ _ _ _ _ _ _ _ _ _ _ _ _ _ _ _ _ _ _ _ _ _ _ _ _ _ _ _ _ _ _ _ _ _ _ _ _ _ _ _ _ _ _ _ _ _ _ _ _ _ _ _ _ _ _ _ _ _ _ _ _ _ _ _ _ _ _ _ _ _ _ _ _ _ _ _ _ _ _ _ _ _ _ _ _ _ _ _ _ _ _ _ _ _ _ _ _ _ _ _ _ _ _ ‹_›
        · by_cases hb : E < O + 1
          · have ep : errPos true O E (cnt opt k) = O := by unfold errPos; rw [if_neg (by simpa using hle), if_pos ⟨rfl, hb⟩]
            rw [ep] at hRd
            exact seg4_no_bit a0 a4 l0 c0 m c4 E O k S R Z opt hZ w0 w b0 b4 hOE hEl hr64 hr4 (cnt opt k) q hO hS hB hb (by omega) (by omega) hRd _ _ _ _ _ _ _ _ _ _ _ _ _ _ _ _ _ _ _ _ _ _ _ _ _ _ _ _ _ _ _ _ _ _ _ _ _ _ _ _ _ _ _ _ _ _ _ _ _ _ _ _ _ _ _ _ _ _ _ _ _ _ _ _ _ _ _ _ _ _ _ _ _ _ _ _ _ _ _ _ _ _ _ _ _ _ _ _ _ _ _ _ _ _ _ _ _ _ _ _ _ _ _ _ _ _ _ _ _ _ _ _ _ _ _ _ _ _ _ _ _ _ _ _ _ _ _ _ _ _ _ _ _ _ _ _ _ _ _ _ _ _ _ _ _ _ _ _ _ _ _ _ _ _ _ _ _ _ _ _ _ _ _ _ _ _ _ _ _ _ _ _ _ _ _ _ _ _ _ _ _ _ _ _ _ _ _ _ _ _ _ _ _ _ _ _ _ _ _ _ _ _ _ _ _ _ _ _ _ _ _ _ _ _ _ _ _ _ _ _ _ _ _ _ _ _ _ _ _ _ _ _ _ _ _ _ _ _ _ _ _ _ _ _ _ _ _ _ _ _ _ _ _ _ _ _ _ _ _ _ _ _ _ _ _ _ _ _ _ _ _ _ _ _ _ _ _ _ _ _ _ _ _ _ _ _ _ _ _ _ _ _ _ _ _ _ _ _ _ _ _ _ _ _ _ _ _ _ _ _ _ _ _ _ _ _ _ _ _ _ ‹_›
          · have ep : errPos true O E (cnt opt k) = stopPos E (O + 1) (cnt opt k) := by unfold errPos; rw [if_neg (by simpa using hle), if_neg (by simp; omega)]; rfl
            rw [ep] at hRd
            exact seg4_no_ext a0 a4 l0 c0 m c4 E O k S R Z opt hZ w0 w b0 b4 hOE hEl hr64 hr4 (cnt opt k) q hO hS hB (O + 1) rfl (by omega) hno (by omega) (by omega) hRd _ _ _ _ _ _ _ _ _ _ _ _ _ _ _ _ _ _ _ _ _ _ _ _ _ _ _ _ _ _ _ _ _ _ _ _ _ _ _ _ _ _ _ _ _ _ _ _ _ _ _ _ _ _ _ _ _ _ _ _ _ _ _ _ _ _ _ _ _ _ _ _ _ _ _ _ _ _ _ _ _ _ _ _ _ _ _ _ _ _ _ _ _ _ _ _ _ _ _ _ _ _ _ _ _ _ _ _ _ _ _ _ _ _ _ _ _ _ _ _ _ _ _ _ _ _ _ _ _ _ _ _ _ _ _ _ _ _ _ _ _ _ _ _ _ _ _ _ _ _ _ _ _ _ _ _ _ _ _ _ _ _ _ _ _ _ _ _ _ _ _ _ _ _ _ _ _ _ _ _ _ _ _ _ _ _ _ _ _ _ _ _ _ _ _ _ _ _ _ _ _ _ _ _ _ _ _ _ _ _ _ _ _ _ _ _ _ _ _ _ _ _ _ _ _ _ _ _ _ _ _ _ _ _ _ _ _ _ _ _ _ _ _ _ _ _ _ _ _ _ _ _ _ _ _ _ _ _ _ _ _ _ _ _ _ _ _ _ _ _ _ _ _ _ _ _ _ _ _ _ _ _ _ _ _ _ _ _ _ _ _ _ _ _ _ _ _ _ _ _ _ _ _ _ _ _ _ _ _ _ _ _ _ _ _ _ _ _ _ _ ‹_›
end Go.Proofs.YbulkesaiFmt
