/- THE LAW's LAST PART, from 'total := ext + n' on: one theorem a way. WRITTEN BY A PROGRAM OF MY OWN (the frames' letters). -/
import Derived.Test.YbulkesaiFmtSegs
namespace Go.Proofs.YbulkesaiFmt
open Go.ChangeShapes Go.WideShapes Go.ChangeAt Go.RowKit
open Go.Extern.Stop Go.Stop Go.Extern
set_option linter.unusedVariables false

theorem Below.same_drewN {B : Nat} {w0 w : World} (h : Below B w0 w) (n : Nat) : Below B w0 (w.drewN n) := ⟨h.os, h.tape, h.output, h.size, h.block⟩

theorem ret_bool {a b : Bool} (h : a = b) : Ending.returned (.bool a) = .returned (.bool b) := by rw [h]
theorem bit_any' (S len cap p : Nat) (q : Int) (hq : q = (p : Nat)) (Z : Nat → Nat) (hZ : ∀ j, Z j < 256) (w : World) (hp : p < 8 * len) (hl : len ≤ 1048576) (hc : ∀ j, j < len → w.cell? ⟨S, j, none⟩ = some (.int .u8 (Z j : Nat))) :
    Calls Ybaf.prog 6 #[.slice (some ⟨S, 0, none⟩) len cap, .int .i64 q] w fun x w' => x = .returned (.int .u64 (bit Z p : Nat)) ∧ w = w' := by
  subst hq; exact bit_any S len cap p Z hZ w hp hl hc
theorem pres_bit (Z : Nat → Nat) {opt : Nat → Bool} (p : Nat) {j : Nat} (h : opt j = true) : bits BinOp.or IntKind.u64 (pres Z opt p j) (IntKind.u64.wrap ((bit Z (p + cnt opt j) : Nat) * 2 ^ j)) = pres Z opt p (j + 1) := by
  simp [pres, hold, h]

set_option maxHeartbeats 1600000 in
set_option maxRecDepth 100000 in
theorem seg4_fit_no (a0 a4 : Option Addr) (l0 c0 m c4 E O root S R : Nat) (Z : Nat → Nat) (opt : Nat → Bool) (hZ : ∀ j, Z j < 256) (w0 w : World) (b0 : l0 ≤ 1048576) (b4 : m ≤ 1048576) (hOE : O ≤ E) (hEl : E ≤ 8 * l0) (hr64 : root ≤ 64) (hr4 : root ≤ m)
    (hO : OptOf w a4 m opt) (hS : ∀ j, j < l0 → w.cell? ⟨S, j, none⟩ = some (.int .u8 (Z j : Nat))) (hB : Below w0.heap.size w0 w)
    (hfit : O + cnt opt root ≤ E) (hRd : w.heap[R]? = some (rdO a0 l0 c0 ((O + cnt opt root : Nat) : Int) E))
    (u1 u2 u5 u6 u7 u8 u9 u10 u11 u12 u13 u17 u18 u19 u25 u26 u27 u30 u31 u32 u33 u34 u35 u36 u37 u38 u39 u40 u41 u42 u43 u44 u45 u46 u47 u48 u49 u50 u51 u52 u53 u54 u55 u56 u57 u58 u59 u60 u61 u62 u63 u64 u65 u66 u67 u68 u69 u70 u71 u72 u73 u74 u75 u76 u77 u78 u79 u80 u81 u82 u83 u84 u85 u86 u87 u88 u89 u90 u91 u92 u93 u94 u95 u96 u97 u98 u99 u100 u101 u102 u103 u104 u105 u106 u107 u108 u109 u110 u111 u112 u113 u114 u115 u116 u117 u118 u119 u120 u121 u122 u123 u124 u125 u126 u127 u128 u129 u130 u131 u132 u133 u134 u135 u136 u137 u138 u139 u140 u141 u142 u143 u144 u145 u146 u147 u148 u149 u150 u151 u152 u153 u154 u155 u156 u157 u158 u159 u160 u161 u162 u163 u164 u165 u166 u167 u168 u169 u170 u171 u172 u173 u174 u175 u176 u177 u178 u179 u180 u181 u182 u183 u184 u185 u186 u187 u188 u189 u190 u191 u192 u193 u194 u195 u196 u197 u198 u199 u200 u201 u202 u203 u204 u205 u206 u207 u208 u209 u210 u211 u212 u213 u214 u215 u216 u217 u218 u219 u220 u221 u222 u223 u224 u225 u226 u227 u228 u229 u230 u231 u232 u233 u234 u235 u236 u237 u238 u239 u240 u241 u242 u243 u244 u245 u246 u247 u248 u249 u250 u251 u252 u253 u254 u255 u256 u257 u258 u259 u260 u261 u262 u263 u264 u265 u266 u267 u268 u269 u270 u271 u272 u273 u274 u275 u276 u277 u278 u279 u280 u281 u282 u283 u284 u285 u286 u287 u288 u289 u290 u291 u292 u293 u294 u295 u296 u297 u298 u299 u300 u301 u302 u303 u304 u305 u306 u307 u308 u309 u310 u311 u312 u313 u314 u315 u316 u317 u318 u319 u320 u321 u322 u323 u324 u325 u326 u327 u328 u329 u330 u331 : Value) (K : Act → World → Prop)
    (hK : ∀ a w, Code.wp Ybaf.prog ((Ybaf.f3.body.bind (partAt 50)).getD (.skip, .skip)).2 (bodyPost Ybaf.prog Ybaf.f3 fun e w' => e = .returned (.bool true) ∧ Below w0.heap.size w0 w') a w → K a w) :
    Code.wp Ybaf.prog ((Ybaf.f3.body.bind (partAt 50)).getD (.skip, .skip)).1 (Exit.then K (bodyPost Ybaf.prog Ybaf.f3 fun e w' => e = .returned (.bool true) ∧ Below w0.heap.size w0 w'))
      ⟨#[.slice a0 l0 c0, u1, u2, .bool false, .slice a4 m c4, u5, u6, u7, u8, u9, u10, u11, u12, u13, .int .i64 (E : Nat), .int .i64 (O : Nat), .int .i64 (root : Nat), u17, u18, u19, .slice (some ⟨S, 0, none⟩) l0 l0, .pointer (some ⟨R, 0, none⟩), .int .u64 (pres Z opt O root), .bool false, .nilIface, u25, u26, u27, .int .i64 0, .int .i64 (cnt opt root : Nat), u30, u31, u32, u33, u34, u35, u36, u37, u38, u39, u40, u41, u42, u43, u44, u45, u46, u47, u48, u49, u50, u51, u52, u53, u54, u55, u56, u57, u58, u59, u60, u61, u62, u63, u64, u65, u66, u67, u68, u69, u70, u71, u72, u73, u74, u75, u76, u77, u78, u79, u80, u81, u82, u83, u84, u85, u86, u87, u88, u89, u90, u91, u92, u93, u94, u95, u96, u97, u98, u99, u100, u101, u102, u103, u104, u105, u106, u107, u108, u109, u110, u111, u112, u113, u114, u115, u116, u117, u118, u119, u120, u121, u122, u123, u124, u125, u126, u127, u128, u129, u130, u131, u132, u133, u134, u135, u136, u137, u138, u139, u140, u141, u142, u143, u144, u145, u146, u147, u148, u149, u150, u151, u152, u153, u154, u155, u156, u157, u158, u159, u160, u161, u162, u163, u164, u165, u166, u167, u168, u169, u170, u171, u172, u173, u174, u175, u176, u177, u178, u179, u180, u181, u182, u183, u184, u185, u186, u187, u188, u189, u190, u191, u192, u193, u194, u195, u196, u197, u198, u199, u200, u201, u202, u203, u204, u205, u206, u207, u208, u209, u210, u211, u212, u213, u214, u215, u216, u217, u218, u219, u220, u221, u222, u223, u224, u225, u226, u227, u228, u229, u230, u231, u232, u233, u234, u235, u236, u237, u238, u239, u240, u241, u242, u243, u244, u245, u246, u247, u248, u249, u250, u251, u252, u253, u254, u255, u256, u257, u258, u259, u260, u261, u262, u263, u264, u265, u266, u267, u268, u269, u270, u271, u272, u273, u274, u275, u276, u277, u278, u279, u280, u281, u282, u283, u284, u285, u286, u287, u288, u289, u290, u291, u292, u293, u294, u295, u296, u297, u298, u299, u300, u301, u302, u303, u304, u305, u306, u307, u308, u309, u310, u311, u312, u313, u314, u315, u316, u317, u318, u319, u320, u321, u322, u323, u324, u325, u326, u327, u328, u329, u330, u331], []⟩ w := by
  conv => arg 2; whnf
  conv at hK => enter [a, w, 1, 2]; whnf
  obtain ⟨c0', c1, c2, _, _⟩ := rd_cells hRd
  have hcl := cnt_le opt root
  have hd : decide ((E : Int) - O < (cnt opt root : Nat)) = false := decide_eq_false (by omega)
  clear hRd
  go_wp2_with fail
  go_loop [37, 38, 39] (fun v c i => ∃ k : Nat, k ≤ root ∧ i = .int .i64 k ∧ c = .int .i64 (cnt opt k : Nat) ∧ v = .int .u64 (pres Z opt O k)) (fun _ _ i => root - (intOf i).toNat)
  case atStart => exact ⟨0, Nat.zero_le _, rfl, rfl, rfl⟩
  case round =>
    obtain ⟨k, hk, rfl, rfl, rfl⟩ := hrel
    have hck := cnt_le opt k
    by_cases hlt : k < root
    · obtain ⟨b, off, rfl, hbw, hc⟩ := hO k (by omega)
      have hcc := hc k (by omega)
      have hkm : (k : Int) < (m : Int) := by omega
      have hk64 : k < 64 := by omega
      cases ho : opt k
      · rw [ho] at hcc
        have HO : Hid (opt k = false) := ho
        clear ho hc hO
        go_wp2_with fail
        go_round
        case rel => exact ⟨k + 1, by omega, by go_num, int_congr (by rw [cnt_succ_no HO.out]), int_congr (pres_miss Z O HO.out)⟩
        case measure => simp [intOf]; omega
      · rw [ho] at hcc
        have hcn : cnt opt k < cnt opt root := by
          have h1 := cnt_mono opt (show k + 1 ≤ root from hlt)
          have h2 := cnt_succ_yes ho
          omega
        have HO : Hid (opt k = true) := ho
        clear ho hc hO
        go_wp2_with (go_at_call 6; refine (bit_any' S l0 l0 (O + cnt opt k) _ (by omega) Z hZ w (by omega) b0 hS).mono ?_; rintro x w' ⟨rfl, rfl⟩)
        go_round
        case rel => exact ⟨k + 1, by omega, by go_num, int_congr (by rw [cnt_succ_yes HO.out]; omega), int_congr (pres_bit Z O HO.out)⟩
        case measure => simp [intOf]; omega
    · obtain rfl : k = root := by omega
      go_wp2_with fail
      go_ret
      exact ⟨rfl, hB⟩

set_option maxHeartbeats 1600000 in
set_option maxRecDepth 100000 in
theorem seg4_fit_ext (a0 a4 : Option Addr) (l0 c0 m c4 E O root S R : Nat) (Z : Nat → Nat) (opt : Nat → Bool) (hZ : ∀ j, Z j < 256) (w0 w : World) (b0 : l0 ≤ 1048576) (b4 : m ≤ 1048576) (hOE : O ≤ E) (hEl : E ≤ 8 * l0) (hr64 : root ≤ 64) (hr4 : root ≤ m)
    (hO : OptOf w a4 m opt) (hS : ∀ j, j < l0 → w.cell? ⟨S, j, none⟩ = some (.int .u8 (Z j : Nat))) (hB : Below w0.heap.size w0 w)
    (hfit : O + 1 + cnt opt root ≤ E) (hRd : w.heap[R]? = some (rdO a0 l0 c0 ((O + 1 + cnt opt root : Nat) : Int) E))
    (u1 u2 u5 u6 u7 u8 u9 u10 u11 u12 u13 u17 u18 u19 u25 u26 u27 u30 u31 u32 u33 u34 u35 u36 u37 u38 u39 u40 u41 u42 u43 u44 u45 u46 u47 u48 u49 u50 u51 u52 u53 u54 u55 u56 u57 u58 u59 u60 u61 u62 u63 u64 u65 u66 u67 u68 u69 u70 u71 u72 u73 u74 u75 u76 u77 u78 u79 u80 u81 u82 u83 u84 u85 u86 u87 u88 u89 u90 u91 u92 u93 u94 u95 u96 u97 u98 u99 u100 u101 u102 u103 u104 u105 u106 u107 u108 u109 u110 u111 u112 u113 u114 u115 u116 u117 u118 u119 u120 u121 u122 u123 u124 u125 u126 u127 u128 u129 u130 u131 u132 u133 u134 u135 u136 u137 u138 u139 u140 u141 u142 u143 u144 u145 u146 u147 u148 u149 u150 u151 u152 u153 u154 u155 u156 u157 u158 u159 u160 u161 u162 u163 u164 u165 u166 u167 u168 u169 u170 u171 u172 u173 u174 u175 u176 u177 u178 u179 u180 u181 u182 u183 u184 u185 u186 u187 u188 u189 u190 u191 u192 u193 u194 u195 u196 u197 u198 u199 u200 u201 u202 u203 u204 u205 u206 u207 u208 u209 u210 u211 u212 u213 u214 u215 u216 u217 u218 u219 u220 u221 u222 u223 u224 u225 u226 u227 u228 u229 u230 u231 u232 u233 u234 u235 u236 u237 u238 u239 u240 u241 u242 u243 u244 u245 u246 u247 u248 u249 u250 u251 u252 u253 u254 u255 u256 u257 u258 u259 u260 u261 u262 u263 u264 u265 u266 u267 u268 u269 u270 u271 u272 u273 u274 u275 u276 u277 u278 u279 u280 u281 u282 u283 u284 u285 u286 u287 u288 u289 u290 u291 u292 u293 u294 u295 u296 u297 u298 u299 u300 u301 u302 u303 u304 u305 u306 u307 u308 u309 u310 u311 u312 u313 u314 u315 u316 u317 u318 u319 u320 u321 u322 u323 u324 u325 u326 u327 u328 u329 u330 u331 : Value) (K : Act → World → Prop)
    (hK : ∀ a w, Code.wp Ybaf.prog ((Ybaf.f3.body.bind (partAt 50)).getD (.skip, .skip)).2 (bodyPost Ybaf.prog Ybaf.f3 fun e w' => e = .returned (.bool true) ∧ Below w0.heap.size w0 w') a w → K a w) :
    Code.wp Ybaf.prog ((Ybaf.f3.body.bind (partAt 50)).getD (.skip, .skip)).1 (Exit.then K (bodyPost Ybaf.prog Ybaf.f3 fun e w' => e = .returned (.bool true) ∧ Below w0.heap.size w0 w'))
      ⟨#[.slice a0 l0 c0, u1, u2, .bool true, .slice a4 m c4, u5, u6, u7, u8, u9, u10, u11, u12, u13, .int .i64 (E : Nat), .int .i64 (O : Nat), .int .i64 (root : Nat), u17, u18, u19, .slice (some ⟨S, 0, none⟩) l0 l0, .pointer (some ⟨R, 0, none⟩), .int .u64 (pres Z opt (O + 1) root), .bool (bit Z O == 1), .nilIface, u25, u26, u27, .int .i64 1, .int .i64 (cnt opt root : Nat), u30, u31, u32, u33, u34, u35, u36, u37, u38, u39, u40, u41, u42, u43, u44, u45, u46, u47, u48, u49, u50, u51, u52, u53, u54, u55, u56, u57, u58, u59, u60, u61, u62, u63, u64, u65, u66, u67, u68, u69, u70, u71, u72, u73, u74, u75, u76, u77, u78, u79, u80, u81, u82, u83, u84, u85, u86, u87, u88, u89, u90, u91, u92, u93, u94, u95, u96, u97, u98, u99, u100, u101, u102, u103, u104, u105, u106, u107, u108, u109, u110, u111, u112, u113, u114, u115, u116, u117, u118, u119, u120, u121, u122, u123, u124, u125, u126, u127, u128, u129, u130, u131, u132, u133, u134, u135, u136, u137, u138, u139, u140, u141, u142, u143, u144, u145, u146, u147, u148, u149, u150, u151, u152, u153, u154, u155, u156, u157, u158, u159, u160, u161, u162, u163, u164, u165, u166, u167, u168, u169, u170, u171, u172, u173, u174, u175, u176, u177, u178, u179, u180, u181, u182, u183, u184, u185, u186, u187, u188, u189, u190, u191, u192, u193, u194, u195, u196, u197, u198, u199, u200, u201, u202, u203, u204, u205, u206, u207, u208, u209, u210, u211, u212, u213, u214, u215, u216, u217, u218, u219, u220, u221, u222, u223, u224, u225, u226, u227, u228, u229, u230, u231, u232, u233, u234, u235, u236, u237, u238, u239, u240, u241, u242, u243, u244, u245, u246, u247, u248, u249, u250, u251, u252, u253, u254, u255, u256, u257, u258, u259, u260, u261, u262, u263, u264, u265, u266, u267, u268, u269, u270, u271, u272, u273, u274, u275, u276, u277, u278, u279, u280, u281, u282, u283, u284, u285, u286, u287, u288, u289, u290, u291, u292, u293, u294, u295, u296, u297, u298, u299, u300, u301, u302, u303, u304, u305, u306, u307, u308, u309, u310, u311, u312, u313, u314, u315, u316, u317, u318, u319, u320, u321, u322, u323, u324, u325, u326, u327, u328, u329, u330, u331], []⟩ w := by
  conv => arg 2; whnf
  conv at hK => enter [a, w, 1, 2]; whnf
  obtain ⟨c0', c1, c2, _, _⟩ := rd_cells hRd
  have hcl := cnt_le opt root
  have hd : decide ((E : Int) - O < 1 + (cnt opt root : Nat)) = false := decide_eq_false (by omega)
  clear hRd
  go_wp2_with (go_at_call 6; refine (bit_any S l0 l0 O Z hZ w (by omega) b0 hS).mono ?_; rintro x w' ⟨rfl, rfl⟩)
  have hadd : (((bit Z O : Nat) : Int) == 1) = (bit Z O == 1) := by
    have := bit_lt Z O
    by_cases h : bit Z O = 1
    · simp [h]
    · have h0 : bit Z O = 0 := by omega
      simp [h0]
  have HA : Hid ((((bit Z O : Nat) : Int) == 1) = (bit Z O == 1)) := hadd
  clear hadd
  go_loop [37, 38, 39] (fun v c i => ∃ k : Nat, k ≤ root ∧ i = .int .i64 k ∧ c = .int .i64 (cnt opt k : Nat) ∧ v = .int .u64 (pres Z opt (O + 1) k)) (fun _ _ i => root - (intOf i).toNat)
  case atStart => exact ⟨0, Nat.zero_le _, rfl, rfl, rfl⟩
  case round =>
    obtain ⟨k, hk, rfl, rfl, rfl⟩ := hrel
    have hck := cnt_le opt k
    by_cases hlt : k < root
    · obtain ⟨b, off, rfl, hbw, hc⟩ := hO k (by omega)
      have hcc := hc k (by omega)
      have hkm : (k : Int) < (m : Int) := by omega
      have hk64 : k < 64 := by omega
      cases ho : opt k
      · rw [ho] at hcc
        have HO : Hid (opt k = false) := ho
        clear ho hc hO
        go_wp2_with fail
        go_round
        case rel => exact ⟨k + 1, by omega, by go_num, int_congr (by rw [cnt_succ_no HO.out]), int_congr (pres_miss Z (O + 1) HO.out)⟩
        case measure => simp [intOf]; omega
      · rw [ho] at hcc
        have hcn : cnt opt k < cnt opt root := by
          have h1 := cnt_mono opt (show k + 1 ≤ root from hlt)
          have h2 := cnt_succ_yes ho
          omega
        have HO : Hid (opt k = true) := ho
        clear ho hc hO
        go_wp2_with (go_at_call 6; refine (bit_any' S l0 l0 ((O + 1) + cnt opt k) _ (by omega) Z hZ w (by omega) b0 hS).mono ?_; rintro x w' ⟨rfl, rfl⟩)
        go_round
        case rel => exact ⟨k + 1, by omega, by go_num, int_congr (by rw [cnt_succ_yes HO.out]; omega), int_congr (pres_bit Z (O + 1) HO.out)⟩
        case measure => simp [intOf]; omega
    · obtain rfl : k = root := by omega
      go_wp2_with fail
      go_ret
      exact ⟨ret_bool (by rw [HA.out]; simp), hB⟩

/-- THE LOOP OVER THE FIELDS, in the law's own text. -/
def Run6 (E p n : Nat) (pos ok m : Value) : Prop :=
  (∃ d mm : Nat, n = d + mm ∧ m = .int .i64 mm ∧ ok = .bool true ∧ pos = .int .i64 (p + d : Nat) ∧ (d = 0 ∨ d = 32 ∨ mm = 0) ∧ p + d ≤ E) ∨
  (∃ mm : Nat, m = .int .i64 mm ∧ ok = .bool false ∧ pos = .int .i64 (stopPos E p n : Nat))

set_option maxHeartbeats 1600000 in
set_option maxRecDepth 100000 in
theorem seg4_no_short (a0 a4 : Option Addr) (l0 c0 m c4 E O root S R : Nat) (Z : Nat → Nat) (opt : Nat → Bool) (hZ : ∀ j, Z j < 256) (w0 w : World) (b0 : l0 ≤ 1048576) (b4 : m ≤ 1048576) (hOE : O ≤ E) (hEl : E ≤ 8 * l0) (hr64 : root ≤ 64) (hr4 : root ≤ m)
    (x n : Nat) (q : Option Addr) (ev : Bool) (hO : OptOf w a4 m opt) (hS : ∀ j, j < l0 → w.cell? ⟨S, j, none⟩ = some (.int .u8 (Z j : Nat))) (hB : Below w0.heap.size w0 w)
    (hx : x ≤ 1) (hno : E < O + x + n) (hle : n + x ≤ 32) (hRd : w.heap[R]? = some (rdO a0 l0 c0 (O : Nat) E))
    (u1 u2 u5 u6 u7 u8 u9 u10 u11 u12 u13 u17 u18 u19 u25 u26 u27 u30 u31 u32 u33 u34 u35 u36 u37 u38 u39 u40 u41 u42 u43 u44 u45 u46 u47 u48 u49 u50 u51 u52 u53 u54 u55 u56 u57 u58 u59 u60 u61 u62 u63 u64 u65 u66 u67 u68 u69 u70 u71 u72 u73 u74 u75 u76 u77 u78 u79 u80 u81 u82 u83 u84 u85 u86 u87 u88 u89 u90 u91 u92 u93 u94 u95 u96 u97 u98 u99 u100 u101 u102 u103 u104 u105 u106 u107 u108 u109 u110 u111 u112 u113 u114 u115 u116 u117 u118 u119 u120 u121 u122 u123 u124 u125 u126 u127 u128 u129 u130 u131 u132 u133 u134 u135 u136 u137 u138 u139 u140 u141 u142 u143 u144 u145 u146 u147 u148 u149 u150 u151 u152 u153 u154 u155 u156 u157 u158 u159 u160 u161 u162 u163 u164 u165 u166 u167 u168 u169 u170 u171 u172 u173 u174 u175 u176 u177 u178 u179 u180 u181 u182 u183 u184 u185 u186 u187 u188 u189 u190 u191 u192 u193 u194 u195 u196 u197 u198 u199 u200 u201 u202 u203 u204 u205 u206 u207 u208 u209 u210 u211 u212 u213 u214 u215 u216 u217 u218 u219 u220 u221 u222 u223 u224 u225 u226 u227 u228 u229 u230 u231 u232 u233 u234 u235 u236 u237 u238 u239 u240 u241 u242 u243 u244 u245 u246 u247 u248 u249 u250 u251 u252 u253 u254 u255 u256 u257 u258 u259 u260 u261 u262 u263 u264 u265 u266 u267 u268 u269 u270 u271 u272 u273 u274 u275 u276 u277 u278 u279 u280 u281 u282 u283 u284 u285 u286 u287 u288 u289 u290 u291 u292 u293 u294 u295 u296 u297 u298 u299 u300 u301 u302 u303 u304 u305 u306 u307 u308 u309 u310 u311 u312 u313 u314 u315 u316 u317 u318 u319 u320 u321 u322 u323 u324 u325 u326 u327 u328 u329 u330 u331 : Value) (K : Act → World → Prop)
    (hK : ∀ a w, Code.wp Ybaf.prog ((Ybaf.f3.body.bind (partAt 50)).getD (.skip, .skip)).2 (bodyPost Ybaf.prog Ybaf.f3 fun e w' => e = .returned (.bool true) ∧ Below w0.heap.size w0 w') a w → K a w) :
    Code.wp Ybaf.prog ((Ybaf.f3.body.bind (partAt 50)).getD (.skip, .skip)).1 (Exit.then K (bodyPost Ybaf.prog Ybaf.f3 fun e w' => e = .returned (.bool true) ∧ Below w0.heap.size w0 w'))
      ⟨#[.slice a0 l0 c0, u1, u2, .bool ev, .slice a4 m c4, u5, u6, u7, u8, u9, u10, u11, u12, u13, .int .i64 (E : Nat), .int .i64 (O : Nat), .int .i64 (root : Nat), u17, u18, u19, .slice (some ⟨S, 0, none⟩) l0 l0, .pointer (some ⟨R, 0, none⟩), .int .u64 0, .bool false, .iface 81 (.pointer q), u25, u26, u27, .int .i64 (x : Nat), .int .i64 (n : Nat), u30, u31, u32, u33, u34, u35, u36, u37, u38, u39, u40, u41, u42, u43, u44, u45, u46, u47, u48, u49, u50, u51, u52, u53, u54, u55, u56, u57, u58, u59, u60, u61, u62, u63, u64, u65, u66, u67, u68, u69, u70, u71, u72, u73, u74, u75, u76, u77, u78, u79, u80, u81, u82, u83, u84, u85, u86, u87, u88, u89, u90, u91, u92, u93, u94, u95, u96, u97, u98, u99, u100, u101, u102, u103, u104, u105, u106, u107, u108, u109, u110, u111, u112, u113, u114, u115, u116, u117, u118, u119, u120, u121, u122, u123, u124, u125, u126, u127, u128, u129, u130, u131, u132, u133, u134, u135, u136, u137, u138, u139, u140, u141, u142, u143, u144, u145, u146, u147, u148, u149, u150, u151, u152, u153, u154, u155, u156, u157, u158, u159, u160, u161, u162, u163, u164, u165, u166, u167, u168, u169, u170, u171, u172, u173, u174, u175, u176, u177, u178, u179, u180, u181, u182, u183, u184, u185, u186, u187, u188, u189, u190, u191, u192, u193, u194, u195, u196, u197, u198, u199, u200, u201, u202, u203, u204, u205, u206, u207, u208, u209, u210, u211, u212, u213, u214, u215, u216, u217, u218, u219, u220, u221, u222, u223, u224, u225, u226, u227, u228, u229, u230, u231, u232, u233, u234, u235, u236, u237, u238, u239, u240, u241, u242, u243, u244, u245, u246, u247, u248, u249, u250, u251, u252, u253, u254, u255, u256, u257, u258, u259, u260, u261, u262, u263, u264, u265, u266, u267, u268, u269, u270, u271, u272, u273, u274, u275, u276, u277, u278, u279, u280, u281, u282, u283, u284, u285, u286, u287, u288, u289, u290, u291, u292, u293, u294, u295, u296, u297, u298, u299, u300, u301, u302, u303, u304, u305, u306, u307, u308, u309, u310, u311, u312, u313, u314, u315, u316, u317, u318, u319, u320, u321, u322, u323, u324, u325, u326, u327, u328, u329, u330, u331], []⟩ w := by
  conv => arg 2; whnf
  conv at hK => enter [a, w, 1, 2]; whnf
  obtain ⟨c0', c1, c2, _, _⟩ := rd_cells hRd
  have hd : decide ((E : Int) - O < (x : Int) + n) = true := decide_eq_true (by omega)
  have hd2 : decide ((32 : Int) < (x : Int) + n) = false := decide_eq_false (by omega)
  clear hRd hO hS
  go_wp2_with fail
  go_ret
  exact ⟨rfl, hB⟩

set_option maxHeartbeats 1600000 in
set_option maxRecDepth 100000 in
theorem seg4_no_bit (a0 a4 : Option Addr) (l0 c0 m c4 E O root S R : Nat) (Z : Nat → Nat) (opt : Nat → Bool) (hZ : ∀ j, Z j < 256) (w0 w : World) (b0 : l0 ≤ 1048576) (b4 : m ≤ 1048576) (hOE : O ≤ E) (hEl : E ≤ 8 * l0) (hr64 : root ≤ 64) (hr4 : root ≤ m)
    (n : Nat) (q : Option Addr) (hO : OptOf w a4 m opt) (hS : ∀ j, j < l0 → w.cell? ⟨S, j, none⟩ = some (.int .u8 (Z j : Nat))) (hB : Below w0.heap.size w0 w)
    (hno : E < O + 1) (hn : n ≤ 64) (hle : 32 < n + 1) (hRd : w.heap[R]? = some (rdO a0 l0 c0 (O : Nat) E))
    (u1 u2 u5 u6 u7 u8 u9 u10 u11 u12 u13 u17 u18 u19 u25 u26 u27 u30 u31 u32 u33 u34 u35 u36 u37 u38 u39 u40 u41 u42 u43 u44 u45 u46 u47 u48 u49 u50 u51 u52 u53 u54 u55 u56 u57 u58 u59 u60 u61 u62 u63 u64 u65 u66 u67 u68 u69 u70 u71 u72 u73 u74 u75 u76 u77 u78 u79 u80 u81 u82 u83 u84 u85 u86 u87 u88 u89 u90 u91 u92 u93 u94 u95 u96 u97 u98 u99 u100 u101 u102 u103 u104 u105 u106 u107 u108 u109 u110 u111 u112 u113 u114 u115 u116 u117 u118 u119 u120 u121 u122 u123 u124 u125 u126 u127 u128 u129 u130 u131 u132 u133 u134 u135 u136 u137 u138 u139 u140 u141 u142 u143 u144 u145 u146 u147 u148 u149 u150 u151 u152 u153 u154 u155 u156 u157 u158 u159 u160 u161 u162 u163 u164 u165 u166 u167 u168 u169 u170 u171 u172 u173 u174 u175 u176 u177 u178 u179 u180 u181 u182 u183 u184 u185 u186 u187 u188 u189 u190 u191 u192 u193 u194 u195 u196 u197 u198 u199 u200 u201 u202 u203 u204 u205 u206 u207 u208 u209 u210 u211 u212 u213 u214 u215 u216 u217 u218 u219 u220 u221 u222 u223 u224 u225 u226 u227 u228 u229 u230 u231 u232 u233 u234 u235 u236 u237 u238 u239 u240 u241 u242 u243 u244 u245 u246 u247 u248 u249 u250 u251 u252 u253 u254 u255 u256 u257 u258 u259 u260 u261 u262 u263 u264 u265 u266 u267 u268 u269 u270 u271 u272 u273 u274 u275 u276 u277 u278 u279 u280 u281 u282 u283 u284 u285 u286 u287 u288 u289 u290 u291 u292 u293 u294 u295 u296 u297 u298 u299 u300 u301 u302 u303 u304 u305 u306 u307 u308 u309 u310 u311 u312 u313 u314 u315 u316 u317 u318 u319 u320 u321 u322 u323 u324 u325 u326 u327 u328 u329 u330 u331 : Value) (K : Act → World → Prop)
    (hK : ∀ a w, Code.wp Ybaf.prog ((Ybaf.f3.body.bind (partAt 50)).getD (.skip, .skip)).2 (bodyPost Ybaf.prog Ybaf.f3 fun e w' => e = .returned (.bool true) ∧ Below w0.heap.size w0 w') a w → K a w) :
    Code.wp Ybaf.prog ((Ybaf.f3.body.bind (partAt 50)).getD (.skip, .skip)).1 (Exit.then K (bodyPost Ybaf.prog Ybaf.f3 fun e w' => e = .returned (.bool true) ∧ Below w0.heap.size w0 w'))
      ⟨#[.slice a0 l0 c0, u1, u2, .bool true, .slice a4 m c4, u5, u6, u7, u8, u9, u10, u11, u12, u13, .int .i64 (E : Nat), .int .i64 (O : Nat), .int .i64 (root : Nat), u17, u18, u19, .slice (some ⟨S, 0, none⟩) l0 l0, .pointer (some ⟨R, 0, none⟩), .int .u64 0, .bool false, .iface 81 (.pointer q), u25, u26, u27, .int .i64 1, .int .i64 (n : Nat), u30, u31, u32, u33, u34, u35, u36, u37, u38, u39, u40, u41, u42, u43, u44, u45, u46, u47, u48, u49, u50, u51, u52, u53, u54, u55, u56, u57, u58, u59, u60, u61, u62, u63, u64, u65, u66, u67, u68, u69, u70, u71, u72, u73, u74, u75, u76, u77, u78, u79, u80, u81, u82, u83, u84, u85, u86, u87, u88, u89, u90, u91, u92, u93, u94, u95, u96, u97, u98, u99, u100, u101, u102, u103, u104, u105, u106, u107, u108, u109, u110, u111, u112, u113, u114, u115, u116, u117, u118, u119, u120, u121, u122, u123, u124, u125, u126, u127, u128, u129, u130, u131, u132, u133, u134, u135, u136, u137, u138, u139, u140, u141, u142, u143, u144, u145, u146, u147, u148, u149, u150, u151, u152, u153, u154, u155, u156, u157, u158, u159, u160, u161, u162, u163, u164, u165, u166, u167, u168, u169, u170, u171, u172, u173, u174, u175, u176, u177, u178, u179, u180, u181, u182, u183, u184, u185, u186, u187, u188, u189, u190, u191, u192, u193, u194, u195, u196, u197, u198, u199, u200, u201, u202, u203, u204, u205, u206, u207, u208, u209, u210, u211, u212, u213, u214, u215, u216, u217, u218, u219, u220, u221, u222, u223, u224, u225, u226, u227, u228, u229, u230, u231, u232, u233, u234, u235, u236, u237, u238, u239, u240, u241, u242, u243, u244, u245, u246, u247, u248, u249, u250, u251, u252, u253, u254, u255, u256, u257, u258, u259, u260, u261, u262, u263, u264, u265, u266, u267, u268, u269, u270, u271, u272, u273, u274, u275, u276, u277, u278, u279, u280, u281, u282, u283, u284, u285, u286, u287, u288, u289, u290, u291, u292, u293, u294, u295, u296, u297, u298, u299, u300, u301, u302, u303, u304, u305, u306, u307, u308, u309, u310, u311, u312, u313, u314, u315, u316, u317, u318, u319, u320, u321, u322, u323, u324, u325, u326, u327, u328, u329, u330, u331], []⟩ w := by
  conv => arg 2; whnf
  conv at hK => enter [a, w, 1, 2]; whnf
  obtain ⟨c0', c1, c2, _, _⟩ := rd_cells hRd
  have hd : decide ((E : Int) - O < 1 + (n : Int)) = true := decide_eq_true (by omega)
  have hd2 : decide ((32 : Int) < 1 + (n : Int)) = true := decide_eq_true (by omega)
  have hd3 : decide ((E : Int) - O < 1) = true := decide_eq_true (by omega)
  clear hRd hO hS
  go_wp2_with fail
  refine wp_loop_rounds 1 ?_
  rw [rounds_succ]
  go_wp2_with fail
  go_ret
  exact ⟨rfl, hB⟩

set_option maxHeartbeats 1600000 in
set_option maxRecDepth 100000 in
theorem seg4_no_plain (a0 a4 : Option Addr) (l0 c0 m c4 E O root S R : Nat) (Z : Nat → Nat) (opt : Nat → Bool) (hZ : ∀ j, Z j < 256) (w0 w : World) (b0 : l0 ≤ 1048576) (b4 : m ≤ 1048576) (hOE : O ≤ E) (hEl : E ≤ 8 * l0) (hr64 : root ≤ 64) (hr4 : root ≤ m)
    (n : Nat) (q : Option Addr) (hO : OptOf w a4 m opt) (hS : ∀ j, j < l0 → w.cell? ⟨S, j, none⟩ = some (.int .u8 (Z j : Nat))) (hB : Below w0.heap.size w0 w)
    (p : Nat) (hp : p = O) (hno : E < p + n) (hn : n ≤ 64) (hle : 32 < n) (hRd : w.heap[R]? = some (rdO a0 l0 c0 (stopPos E p n : Nat) E))
    (u1 u2 u5 u6 u7 u8 u9 u10 u11 u12 u13 u17 u18 u19 u25 u26 u27 u30 u31 u32 u33 u34 u35 u36 u37 u38 u39 u40 u41 u42 u43 u44 u45 u46 u47 u48 u49 u50 u51 u52 u53 u54 u55 u56 u57 u58 u59 u60 u61 u62 u63 u64 u65 u66 u67 u68 u69 u70 u71 u72 u73 u74 u75 u76 u77 u78 u79 u80 u81 u82 u83 u84 u85 u86 u87 u88 u89 u90 u91 u92 u93 u94 u95 u96 u97 u98 u99 u100 u101 u102 u103 u104 u105 u106 u107 u108 u109 u110 u111 u112 u113 u114 u115 u116 u117 u118 u119 u120 u121 u122 u123 u124 u125 u126 u127 u128 u129 u130 u131 u132 u133 u134 u135 u136 u137 u138 u139 u140 u141 u142 u143 u144 u145 u146 u147 u148 u149 u150 u151 u152 u153 u154 u155 u156 u157 u158 u159 u160 u161 u162 u163 u164 u165 u166 u167 u168 u169 u170 u171 u172 u173 u174 u175 u176 u177 u178 u179 u180 u181 u182 u183 u184 u185 u186 u187 u188 u189 u190 u191 u192 u193 u194 u195 u196 u197 u198 u199 u200 u201 u202 u203 u204 u205 u206 u207 u208 u209 u210 u211 u212 u213 u214 u215 u216 u217 u218 u219 u220 u221 u222 u223 u224 u225 u226 u227 u228 u229 u230 u231 u232 u233 u234 u235 u236 u237 u238 u239 u240 u241 u242 u243 u244 u245 u246 u247 u248 u249 u250 u251 u252 u253 u254 u255 u256 u257 u258 u259 u260 u261 u262 u263 u264 u265 u266 u267 u268 u269 u270 u271 u272 u273 u274 u275 u276 u277 u278 u279 u280 u281 u282 u283 u284 u285 u286 u287 u288 u289 u290 u291 u292 u293 u294 u295 u296 u297 u298 u299 u300 u301 u302 u303 u304 u305 u306 u307 u308 u309 u310 u311 u312 u313 u314 u315 u316 u317 u318 u319 u320 u321 u322 u323 u324 u325 u326 u327 u328 u329 u330 u331 : Value) (K : Act → World → Prop)
    (hK : ∀ a w, Code.wp Ybaf.prog ((Ybaf.f3.body.bind (partAt 50)).getD (.skip, .skip)).2 (bodyPost Ybaf.prog Ybaf.f3 fun e w' => e = .returned (.bool true) ∧ Below w0.heap.size w0 w') a w → K a w) :
    Code.wp Ybaf.prog ((Ybaf.f3.body.bind (partAt 50)).getD (.skip, .skip)).1 (Exit.then K (bodyPost Ybaf.prog Ybaf.f3 fun e w' => e = .returned (.bool true) ∧ Below w0.heap.size w0 w'))
      ⟨#[.slice a0 l0 c0, u1, u2, .bool false, .slice a4 m c4, u5, u6, u7, u8, u9, u10, u11, u12, u13, .int .i64 (E : Nat), .int .i64 (O : Nat), .int .i64 (root : Nat), u17, u18, u19, .slice (some ⟨S, 0, none⟩) l0 l0, .pointer (some ⟨R, 0, none⟩), .int .u64 0, .bool false, .iface 81 (.pointer q), u25, u26, u27, .int .i64 0, .int .i64 (n : Nat), u30, u31, u32, u33, u34, u35, u36, u37, u38, u39, u40, u41, u42, u43, u44, u45, u46, u47, u48, u49, u50, u51, u52, u53, u54, u55, u56, u57, u58, u59, u60, u61, u62, u63, u64, u65, u66, u67, u68, u69, u70, u71, u72, u73, u74, u75, u76, u77, u78, u79, u80, u81, u82, u83, u84, u85, u86, u87, u88, u89, u90, u91, u92, u93, u94, u95, u96, u97, u98, u99, u100, u101, u102, u103, u104, u105, u106, u107, u108, u109, u110, u111, u112, u113, u114, u115, u116, u117, u118, u119, u120, u121, u122, u123, u124, u125, u126, u127, u128, u129, u130, u131, u132, u133, u134, u135, u136, u137, u138, u139, u140, u141, u142, u143, u144, u145, u146, u147, u148, u149, u150, u151, u152, u153, u154, u155, u156, u157, u158, u159, u160, u161, u162, u163, u164, u165, u166, u167, u168, u169, u170, u171, u172, u173, u174, u175, u176, u177, u178, u179, u180, u181, u182, u183, u184, u185, u186, u187, u188, u189, u190, u191, u192, u193, u194, u195, u196, u197, u198, u199, u200, u201, u202, u203, u204, u205, u206, u207, u208, u209, u210, u211, u212, u213, u214, u215, u216, u217, u218, u219, u220, u221, u222, u223, u224, u225, u226, u227, u228, u229, u230, u231, u232, u233, u234, u235, u236, u237, u238, u239, u240, u241, u242, u243, u244, u245, u246, u247, u248, u249, u250, u251, u252, u253, u254, u255, u256, u257, u258, u259, u260, u261, u262, u263, u264, u265, u266, u267, u268, u269, u270, u271, u272, u273, u274, u275, u276, u277, u278, u279, u280, u281, u282, u283, u284, u285, u286, u287, u288, u289, u290, u291, u292, u293, u294, u295, u296, u297, u298, u299, u300, u301, u302, u303, u304, u305, u306, u307, u308, u309, u310, u311, u312, u313, u314, u315, u316, u317, u318, u319, u320, u321, u322, u323, u324, u325, u326, u327, u328, u329, u330, u331], []⟩ w := by
  conv => arg 2; whnf
  conv at hK => enter [a, w, 1, 2]; whnf
  obtain ⟨c0', c1, c2, _, _⟩ := rd_cells hRd
  have hd : decide ((E : Int) - O < (n : Int)) = true := decide_eq_true (by omega)
  have hd2 : decide ((32 : Int) < (n : Int)) = true := decide_eq_true (by omega)
  have HP : Hid (p = O) := hp
  have hpE' : p ≤ E := by omega
  clear hRd hO hS hp
  go_wp2_with fail
  go_loop [32, 33, 34] (fun pos ok m => Run6 E p n pos ok m) (fun _ _ m => (intOf m).toNat)
  case atStart => exact Or.inl ⟨0, n, by omega, rfl, rfl, int_congr (by have := HP.out; omega), Or.inl rfl, by omega⟩
  case round =>
    rcases hrel with ⟨d, mm, hn', rfl, rfl, rfl, hdd, hpe⟩ | ⟨mm, rfl, rfl, rfl⟩
    · have HN : Hid (n = d + mm) := hn'
      have hmn : mm ≤ n := by omega
      have hdn : d ≤ n := by omega
      have hm1 : 1 ≤ mm := by omega
      by_cases hc : mm ≤ 32
      · have hmi : (mm : Int) ≤ 32 := by omega
        have hpos : (0 : Int) < (mm : Int) := by omega
        have hfit : decide ((E : Int) - ((p + d : Nat) : Int) < (mm : Int)) = true := decide_eq_true (by omega)
        have hfit2 : (E : Int) - ((p : Int) + d) < (mm : Int) := by omega
        have hs : stopPos E p n = p + d := by unfold stopPos; split <;> omega
        have HS : Hid (stopPos E p n = p + d) := hs
        clear hn' hs
        go_wp2_with fail
        go_round
        case rel => exact Or.inr ⟨0, int_congr (by omega), rfl, int_congr (by rw [HS.out])⟩
        case measure => simp [intOf]; omega
      · have hmi : (32 : Int) < (mm : Int) := by omega
        obtain rfl : d = 0 := by omega
        by_cases hf : p + 32 ≤ E
        · have hfit2 : ¬ (E : Int) - (p : Int) < 32 := by omega
          clear hn'
          go_wp2_with fail
          go_round
          case rel => exact Or.inl ⟨32, mm - 32, by have := HN.out; omega, int_congr (by omega), rfl, int_congr (by omega), Or.inr (Or.inl rfl), by omega⟩
          case measure => simp [intOf]; omega
        · have hfit2 : (E : Int) - (p : Int) < 32 := by omega
          have hs : stopPos E p n = p := by unfold stopPos; split <;> omega
          have HS : Hid (stopPos E p n = p) := hs
          clear hn' hs
          go_wp2_with fail
          go_round
          case rel => exact Or.inr ⟨mm - 32, int_congr (by omega), rfl, int_congr (by rw [HS.out]; omega)⟩
          case measure => simp [intOf]; omega
    · go_wp2_with fail
      go_ret
      exact ⟨rfl, hB⟩

set_option maxHeartbeats 1600000 in
set_option maxRecDepth 100000 in
theorem seg4_no_ext (a0 a4 : Option Addr) (l0 c0 m c4 E O root S R : Nat) (Z : Nat → Nat) (opt : Nat → Bool) (hZ : ∀ j, Z j < 256) (w0 w : World) (b0 : l0 ≤ 1048576) (b4 : m ≤ 1048576) (hOE : O ≤ E) (hEl : E ≤ 8 * l0) (hr64 : root ≤ 64) (hr4 : root ≤ m)
    (n : Nat) (q : Option Addr) (hO : OptOf w a4 m opt) (hS : ∀ j, j < l0 → w.cell? ⟨S, j, none⟩ = some (.int .u8 (Z j : Nat))) (hB : Below w0.heap.size w0 w)
    (p : Nat) (hp : p = O + 1) (hpE : p ≤ E) (hno : E < p + n) (hn : n ≤ 64) (hle : 32 ≤ n) (hRd : w.heap[R]? = some (rdO a0 l0 c0 (stopPos E p n : Nat) E))
    (u1 u2 u5 u6 u7 u8 u9 u10 u11 u12 u13 u17 u18 u19 u25 u26 u27 u30 u31 u32 u33 u34 u35 u36 u37 u38 u39 u40 u41 u42 u43 u44 u45 u46 u47 u48 u49 u50 u51 u52 u53 u54 u55 u56 u57 u58 u59 u60 u61 u62 u63 u64 u65 u66 u67 u68 u69 u70 u71 u72 u73 u74 u75 u76 u77 u78 u79 u80 u81 u82 u83 u84 u85 u86 u87 u88 u89 u90 u91 u92 u93 u94 u95 u96 u97 u98 u99 u100 u101 u102 u103 u104 u105 u106 u107 u108 u109 u110 u111 u112 u113 u114 u115 u116 u117 u118 u119 u120 u121 u122 u123 u124 u125 u126 u127 u128 u129 u130 u131 u132 u133 u134 u135 u136 u137 u138 u139 u140 u141 u142 u143 u144 u145 u146 u147 u148 u149 u150 u151 u152 u153 u154 u155 u156 u157 u158 u159 u160 u161 u162 u163 u164 u165 u166 u167 u168 u169 u170 u171 u172 u173 u174 u175 u176 u177 u178 u179 u180 u181 u182 u183 u184 u185 u186 u187 u188 u189 u190 u191 u192 u193 u194 u195 u196 u197 u198 u199 u200 u201 u202 u203 u204 u205 u206 u207 u208 u209 u210 u211 u212 u213 u214 u215 u216 u217 u218 u219 u220 u221 u222 u223 u224 u225 u226 u227 u228 u229 u230 u231 u232 u233 u234 u235 u236 u237 u238 u239 u240 u241 u242 u243 u244 u245 u246 u247 u248 u249 u250 u251 u252 u253 u254 u255 u256 u257 u258 u259 u260 u261 u262 u263 u264 u265 u266 u267 u268 u269 u270 u271 u272 u273 u274 u275 u276 u277 u278 u279 u280 u281 u282 u283 u284 u285 u286 u287 u288 u289 u290 u291 u292 u293 u294 u295 u296 u297 u298 u299 u300 u301 u302 u303 u304 u305 u306 u307 u308 u309 u310 u311 u312 u313 u314 u315 u316 u317 u318 u319 u320 u321 u322 u323 u324 u325 u326 u327 u328 u329 u330 u331 : Value) (K : Act → World → Prop)
    (hK : ∀ a w, Code.wp Ybaf.prog ((Ybaf.f3.body.bind (partAt 50)).getD (.skip, .skip)).2 (bodyPost Ybaf.prog Ybaf.f3 fun e w' => e = .returned (.bool true) ∧ Below w0.heap.size w0 w') a w → K a w) :
    Code.wp Ybaf.prog ((Ybaf.f3.body.bind (partAt 50)).getD (.skip, .skip)).1 (Exit.then K (bodyPost Ybaf.prog Ybaf.f3 fun e w' => e = .returned (.bool true) ∧ Below w0.heap.size w0 w'))
      ⟨#[.slice a0 l0 c0, u1, u2, .bool true, .slice a4 m c4, u5, u6, u7, u8, u9, u10, u11, u12, u13, .int .i64 (E : Nat), .int .i64 (O : Nat), .int .i64 (root : Nat), u17, u18, u19, .slice (some ⟨S, 0, none⟩) l0 l0, .pointer (some ⟨R, 0, none⟩), .int .u64 0, .bool false, .iface 81 (.pointer q), u25, u26, u27, .int .i64 1, .int .i64 (n : Nat), u30, u31, u32, u33, u34, u35, u36, u37, u38, u39, u40, u41, u42, u43, u44, u45, u46, u47, u48, u49, u50, u51, u52, u53, u54, u55, u56, u57, u58, u59, u60, u61, u62, u63, u64, u65, u66, u67, u68, u69, u70, u71, u72, u73, u74, u75, u76, u77, u78, u79, u80, u81, u82, u83, u84, u85, u86, u87, u88, u89, u90, u91, u92, u93, u94, u95, u96, u97, u98, u99, u100, u101, u102, u103, u104, u105, u106, u107, u108, u109, u110, u111, u112, u113, u114, u115, u116, u117, u118, u119, u120, u121, u122, u123, u124, u125, u126, u127, u128, u129, u130, u131, u132, u133, u134, u135, u136, u137, u138, u139, u140, u141, u142, u143, u144, u145, u146, u147, u148, u149, u150, u151, u152, u153, u154, u155, u156, u157, u158, u159, u160, u161, u162, u163, u164, u165, u166, u167, u168, u169, u170, u171, u172, u173, u174, u175, u176, u177, u178, u179, u180, u181, u182, u183, u184, u185, u186, u187, u188, u189, u190, u191, u192, u193, u194, u195, u196, u197, u198, u199, u200, u201, u202, u203, u204, u205, u206, u207, u208, u209, u210, u211, u212, u213, u214, u215, u216, u217, u218, u219, u220, u221, u222, u223, u224, u225, u226, u227, u228, u229, u230, u231, u232, u233, u234, u235, u236, u237, u238, u239, u240, u241, u242, u243, u244, u245, u246, u247, u248, u249, u250, u251, u252, u253, u254, u255, u256, u257, u258, u259, u260, u261, u262, u263, u264, u265, u266, u267, u268, u269, u270, u271, u272, u273, u274, u275, u276, u277, u278, u279, u280, u281, u282, u283, u284, u285, u286, u287, u288, u289, u290, u291, u292, u293, u294, u295, u296, u297, u298, u299, u300, u301, u302, u303, u304, u305, u306, u307, u308, u309, u310, u311, u312, u313, u314, u315, u316, u317, u318, u319, u320, u321, u322, u323, u324, u325, u326, u327, u328, u329, u330, u331], []⟩ w := by
  conv => arg 2; whnf
  conv at hK => enter [a, w, 1, 2]; whnf
  obtain ⟨c0', c1, c2, _, _⟩ := rd_cells hRd
  have hd : decide ((E : Int) - O < 1 + (n : Int)) = true := decide_eq_true (by omega)
  have hd2 : decide ((32 : Int) < 1 + (n : Int)) = true := decide_eq_true (by omega)
  have hd3 : decide ((E : Int) - O < 1) = false := decide_eq_false (by omega)
  have HP : Hid (p = O + 1) := hp
  have hpE' : p ≤ E := by omega
  clear hRd hO hS hp
  go_wp2_with fail
  go_loop [32, 33, 34] (fun pos ok m => Run6 E p n pos ok m) (fun _ _ m => (intOf m).toNat)
  case atStart => exact Or.inl ⟨0, n, by omega, rfl, rfl, int_congr (by have := HP.out; omega), Or.inl rfl, by omega⟩
  case round =>
    rcases hrel with ⟨d, mm, hn', rfl, rfl, rfl, hdd, hpe⟩ | ⟨mm, rfl, rfl, rfl⟩
    · have HN : Hid (n = d + mm) := hn'
      have hmn : mm ≤ n := by omega
      have hdn : d ≤ n := by omega
      have hm1 : 1 ≤ mm := by omega
      by_cases hc : mm ≤ 32
      · have hmi : (mm : Int) ≤ 32 := by omega
        have hpos : (0 : Int) < (mm : Int) := by omega
        have hfit : decide ((E : Int) - ((p + d : Nat) : Int) < (mm : Int)) = true := decide_eq_true (by omega)
        have hfit2 : (E : Int) - ((p : Int) + d) < (mm : Int) := by omega
        have hs : stopPos E p n = p + d := by unfold stopPos; split <;> omega
        have HS : Hid (stopPos E p n = p + d) := hs
        clear hn' hs
        go_wp2_with fail
        go_round
        case rel => exact Or.inr ⟨0, int_congr (by omega), rfl, int_congr (by rw [HS.out])⟩
        case measure => simp [intOf]; omega
      · have hmi : (32 : Int) < (mm : Int) := by omega
        obtain rfl : d = 0 := by omega
        by_cases hf : p + 32 ≤ E
        · have hfit2 : ¬ (E : Int) - (p : Int) < 32 := by omega
          clear hn'
          go_wp2_with fail
          go_round
          case rel => exact Or.inl ⟨32, mm - 32, by have := HN.out; omega, int_congr (by omega), rfl, int_congr (by omega), Or.inr (Or.inl rfl), by omega⟩
          case measure => simp [intOf]; omega
        · have hfit2 : (E : Int) - (p : Int) < 32 := by omega
          have hs : stopPos E p n = p := by unfold stopPos; split <;> omega
          have HS : Hid (stopPos E p n = p) := hs
          clear hn' hs
          go_wp2_with fail
          go_round
          case rel => exact Or.inr ⟨mm - 32, int_congr (by omega), rfl, int_congr (by rw [HS.out]; omega)⟩
          case measure => simp [intOf]; omega
    · go_wp2_with fail
      go_ret
      exact ⟨rfl, hB⟩
end Go.Proofs.YbulkesaiFmt
