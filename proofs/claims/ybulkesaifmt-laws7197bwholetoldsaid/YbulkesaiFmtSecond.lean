/- THE LAW's SECOND PART: ReadPreamble, and that nothing which it was handed has turned. WRITTEN BY A PROGRAM OF MY OWN. -/
import Derived.Test.YbulkesaiFmtThird
namespace Go.Proofs.YbulkesaiFmt
open Go.ChangeShapes Go.WideShapes Go.ChangeAt Go.RowKit
open Go.Extern.Stop Go.Stop Go.Extern
set_option linter.unusedVariables false

theorem preamble_left (F : Interp) (R T C : Nat) (a : Option Addr) (len cap : Nat) (off e m root : Nat) (ext : Bool) (opt : Nat → Bool) (Z : Nat → Nat) (hZ : ∀ j, Z j < 256) (w : World) (hF : F.answers w.tape) (h1 : off ≤ e) (h2 : e ≤ 8 * len) (h3 : len ≤ 1048576) (hcap : len ≤ cap)
    (r1 : root ≤ 64) (r2 : root ≤ m) (m1 : m ≤ 1048576) (hR : w.heap[R]? = some (rdO a len cap off e)) (hb : Buf w a len Z R) (hT : Typ w T C m root ext opt) (nT : T ≠ R) (nC : C ≠ R) :
    Calls Ybaf.prog 5 #[.pointer (some ⟨R, 0, none⟩), .pointer (some ⟨T, 0, none⟩)] w fun x w' => ∃ pv av ev P, x = .returned (.tuple #[pv, av, ev]) ∧ Left3 Z opt off e root ext pv av ev P ∧ Kept R w w' ∧ w'.heap[R]? = some (rdO a len cap (P : Nat) e) := by
  refine (preamble_any F R T C a len cap off e m root ext opt Z hZ w hF h1 h2 h3 hcap r1 r2 m1 hR hb hT nT nC).mono ?_
  rintro x w' ⟨hK, ⟨hfit, rfl, hr⟩ | ⟨hno, ⟨q, rfl⟩, hr⟩⟩
  · exact ⟨_, _, _, _, rfl, Or.inl ⟨hfit, rfl, rfl, rfl, rfl⟩, hK, hr⟩
  · exact ⟨_, _, _, _, rfl, Or.inr ⟨hno, rfl, rfl, ⟨q, rfl⟩, rfl⟩, hK, hr⟩

set_option maxHeartbeats 1600000 in
set_option maxRecDepth 100000 in
theorem seg2_no (F : Interp) (a0 a4 : Option Addr) (l0 c0 m c4 E O root T C S R : Nat) (Z : Nat → Nat) (opt : Nat → Bool) (hZ : ∀ j, Z j < 256) (w0 w : World) (b0 : l0 ≤ 1048576) (b4 : m ≤ 1048576) (hc0 : l0 ≤ c0) (hOE : O ≤ E) (hEl : E ≤ 8 * l0) (hr64 : root ≤ 64) (hr4 : root ≤ m)
    (hF : F.answers w0.tape) (hBy : BytesOf w0 a0 l0 Z) (hOp : OptOf w0 a4 m opt) (hRy : Ready w0 l0 Z m opt T C S root false w) (hRd : w.heap[R]? = some (rdO a0 l0 c0 (O : Nat) E)) (hwR : w0.heap.size ≤ R) (nT : T ≠ R) (nC : C ≠ R) (nS : S ≠ R)
    (u1 u2 u5 u6 u7 u8 u9 u10 u11 u12 u13 u17 u18 u22 u23 u24 u25 u26 u27 u28 u29 u30 u31 u32 u33 u34 u35 u36 u37 u38 u39 u40 u41 u42 u43 u44 u45 u46 u47 u48 u49 u50 u51 u52 u53 u54 u55 u56 u57 u58 u59 u60 u61 u62 u63 u64 u65 u66 u67 u68 u69 u70 u71 u72 u73 u74 u75 u76 u77 u78 u79 u80 u81 u82 u83 u84 u85 u86 u87 u88 u89 u90 u91 u92 u93 u94 u95 u96 u97 u98 u99 u100 u101 u102 u103 u104 u105 u106 u107 u108 u109 u110 u111 u112 u113 u114 u115 u116 u117 u118 u119 u120 u121 u122 u123 u124 u125 u126 u127 u128 u129 u130 u131 u132 u133 u134 u135 u136 u137 u138 u139 u140 u141 u142 u143 u144 u145 u146 u147 u148 u149 u150 u151 u152 u153 u154 u155 u156 u157 u158 u159 u160 u161 u162 u163 u164 u165 u166 u167 u168 u169 u170 u171 u172 u173 u174 u175 u176 u177 u178 u179 u180 u181 u182 u183 u184 u185 u186 u187 u188 u189 u190 u191 u192 u193 u194 u195 u196 u197 u198 u199 u200 u201 u202 u203 u204 u205 u206 u207 u208 u209 u210 u211 u212 u213 u214 u215 u216 u217 u218 u219 u220 u221 u222 u223 u224 u225 u226 u227 u228 u229 u230 u231 u232 u233 u234 u235 u236 u237 u238 u239 u240 u241 u242 u243 u244 u245 u246 u247 u248 u249 u250 u251 u252 u253 u254 u255 u256 u257 u258 u259 u260 u261 u262 u263 u264 u265 u266 u267 u268 u269 u270 u271 u272 u273 u274 u275 u276 u277 u278 u279 u280 u281 u282 u283 u284 u285 u286 u287 u288 u289 u290 u291 u292 u293 u294 u295 u296 u297 u298 u299 u300 u301 u302 u303 u304 u305 u306 u307 u308 u309 u310 u311 u312 u313 u314 u315 u316 u317 u318 u319 u320 u321 u322 u323 u324 u325 u326 u327 u328 u329 u330 u331 : Value) (K : Act → World → Prop)
    (hK : ∀ a w, Code.wp Ybaf.prog ((Ybaf.f3.body.bind (partAt 18)).getD (.skip, .skip)).2 (bodyPost Ybaf.prog Ybaf.f3 fun e w' => e = .returned (.bool true) ∧ Below w0.heap.size w0 w') a w → K a w) :
    Code.wp Ybaf.prog ((Ybaf.f3.body.bind (partAt 18)).getD (.skip, .skip)).1 (Exit.then K (bodyPost Ybaf.prog Ybaf.f3 fun e w' => e = .returned (.bool true) ∧ Below w0.heap.size w0 w'))
      ⟨#[.slice a0 l0 c0, u1, u2, .bool false, .slice a4 m c4, u5, u6, u7, u8, u9, u10, u11, u12, u13, .int .i64 (E : Nat), .int .i64 (O : Nat), .int .i64 (root : Nat), u17, u18, .pointer (some ⟨T, 0, none⟩), .slice (some ⟨S, 0, none⟩) l0 l0, .pointer (some ⟨R, 0, none⟩), u22, u23, u24, u25, u26, u27, u28, u29, u30, u31, u32, u33, u34, u35, u36, u37, u38, u39, u40, u41, u42, u43, u44, u45, u46, u47, u48, u49, u50, u51, u52, u53, u54, u55, u56, u57, u58, u59, u60, u61, u62, u63, u64, u65, u66, u67, u68, u69, u70, u71, u72, u73, u74, u75, u76, u77, u78, u79, u80, u81, u82, u83, u84, u85, u86, u87, u88, u89, u90, u91, u92, u93, u94, u95, u96, u97, u98, u99, u100, u101, u102, u103, u104, u105, u106, u107, u108, u109, u110, u111, u112, u113, u114, u115, u116, u117, u118, u119, u120, u121, u122, u123, u124, u125, u126, u127, u128, u129, u130, u131, u132, u133, u134, u135, u136, u137, u138, u139, u140, u141, u142, u143, u144, u145, u146, u147, u148, u149, u150, u151, u152, u153, u154, u155, u156, u157, u158, u159, u160, u161, u162, u163, u164, u165, u166, u167, u168, u169, u170, u171, u172, u173, u174, u175, u176, u177, u178, u179, u180, u181, u182, u183, u184, u185, u186, u187, u188, u189, u190, u191, u192, u193, u194, u195, u196, u197, u198, u199, u200, u201, u202, u203, u204, u205, u206, u207, u208, u209, u210, u211, u212, u213, u214, u215, u216, u217, u218, u219, u220, u221, u222, u223, u224, u225, u226, u227, u228, u229, u230, u231, u232, u233, u234, u235, u236, u237, u238, u239, u240, u241, u242, u243, u244, u245, u246, u247, u248, u249, u250, u251, u252, u253, u254, u255, u256, u257, u258, u259, u260, u261, u262, u263, u264, u265, u266, u267, u268, u269, u270, u271, u272, u273, u274, u275, u276, u277, u278, u279, u280, u281, u282, u283, u284, u285, u286, u287, u288, u289, u290, u291, u292, u293, u294, u295, u296, u297, u298, u299, u300, u301, u302, u303, u304, u305, u306, u307, u308, u309, u310, u311, u312, u313, u314, u315, u316, u317, u318, u319, u320, u321, u322, u323, u324, u325, u326, u327, u328, u329, u330, u331], []⟩ w := by
  conv => arg 2; whnf
  conv at hK => enter [a, w, 1, 2]; whnf
  go_wp2_with fail
  refine (preamble_left F R T C a0 l0 c0 O E m root false opt Z hZ _ (by rw [hRy.below.tape]; exact hF) hOE hEl b0 hc0 hr64 hr4 b4 hRd (hBy.buf hRy.below hwR) hRy.typ nT nC).mono ?_
  rintro x w4 ⟨pv, av, ev, P, rfl, hL, hKp, hRd4⟩
  have hRy4 := hRy.kept hKp hwR nT nC nS
  have hby := hBy.below hRy4.below
  have hop := hOp.below hRy4.below
  obtain ⟨r0, r1, r2, _, _⟩ := rd_cells hRd4
  obtain ⟨t5, t7, t8, ht⟩ := hRy4.typ
  have hsv := hRy4.saved
  have HL : Hid (Left3 Z opt O E root false pv av ev P) := hL
  have HR : Hid (w4.heap[R]? = some (rdO a0 l0 c0 (P : Nat) E)) := hRd4
  have HO : Hid (OptOf w4 a4 m opt) := hop
  have HS : Hid (∀ j, j < l0 → w4.cell? ⟨S, j, none⟩ = some (.int .u8 (Z j : Nat))) := hsv
  have HB : Hid (Below w0.heap.size w0 w4) := hRy4.below
  have HT : Hid (∀ i, i < m → w4.cell? ⟨C, i * 8 + 2, none⟩ = some (.bool (opt i))) := ht
  have HY : Hid (BytesOf w4 a0 l0 Z) := hby
  clear hL hRd4 hop hsv hRy4 hKp hRy hRd hBy hOp hF ht hby
  go_wp2_with fail
  go_loopw [118] (fun i wr => ∃ k : Nat, k ≤ l0 ∧ i = .int .i64 k ∧ ∃ n, wr = w4.drewN n) (fun i _ => l0 - (intOf i).toNat)
  case atStart => exact ⟨0, Nat.zero_le _, rfl, 0, rfl⟩
  case round =>
    obtain ⟨k, hk, rfl, n, rfl⟩ := hrel
    by_cases hlt : k < l0
    · obtain ⟨b, off, rfl, hbw, hc⟩ := HY.out k hlt
      have hck := hc k hlt
      have hsk := HS.out k hlt
      have hki : (k : Int) < (l0 : Int) := by omega
      clear hc
      go_wp2_with fail
      go_quiet (fail)
      go_wp2_with fail
      go_roundw
      case rel => exact ⟨k + 1, by omega, by go_num, _, rfl⟩
      case measure => simp [intOf]; omega
    · obtain rfl : l0 = k := by omega
      clear hlt
      go_wp2_with fail
      go_loopw [152] (fun i wr => ∃ k : Nat, k ≤ l0 ∧ i = .int .i64 k ∧ ∃ n, wr = w4.drewN n) (fun i _ => l0 - (intOf i).toNat)
      case atStart => exact ⟨0, Nat.zero_le _, rfl, n, rfl⟩
      case round =>
        clear n
        obtain ⟨k, hk, rfl, n, rfl⟩ := hrel
        by_cases hlt : k < l0
        · obtain ⟨b, off, rfl, hbw, hc⟩ := HY.out k hlt
          have hck := hc k hlt
          have hsk := HS.out k hlt
          have hki : (k : Int) < (l0 : Int) := by omega
          clear hc
          go_wp2_with fail
          go_quiet (fail)
          go_wp2_with fail
          go_roundw
          case rel => exact ⟨k + 1, by omega, by go_num, _, rfl⟩
          case measure => simp [intOf]; omega
        · obtain rfl : l0 = k := by omega
          clear hlt
          go_wp2_with fail
          go_loopw [194] (fun i wr => ∃ k : Nat, k ≤ m ∧ i = .int .i64 k ∧ ∃ n, wr = w4.drewN n) (fun i _ => m - (intOf i).toNat)
          case atStart => exact ⟨0, Nat.zero_le _, rfl, n, rfl⟩
          case round =>
            clear n
            obtain ⟨k, hk, rfl, n, rfl⟩ := hrel
            by_cases hlt : k < m
            · obtain ⟨b, off, rfl, hbw, hc⟩ := HO.out k hlt
              have hck := hc k hlt
              have hsk := HT.out k hlt
              have hki : (k : Int) < (m : Int) := by omega
              clear hc
              go_wp2_with fail
              go_quiet (fail)
              go_wp2_with fail
              go_roundw
              case rel => exact ⟨k + 1, by omega, by go_num, _, rfl⟩
              case measure => simp [intOf]; omega
            · obtain rfl : m = k := by omega
              clear hlt
              go_upto_region 41 with fail
              exact seg3_no a0 a4 l0 c0 m c4 E O root S R P pv av ev Z opt hZ w0 (w4.drewN n) b0 b4 hOE hEl hr64 hr4 HO.out HS.out (Go.Proofs.YbulkesaiFmt.Below.same_drewN HB.out n) HL.out HR.out _ _ _ _ _ _ _ _ _ _ _ _ _ _ _ _ _ _ _ _ _ _ _ _ _ _ _ _ _ _ _ _ _ _ _ _ _ _ _ _ _ _ _ _ _ _ _ _ _ _ _ _ _ _ _ _ _ _ _ _ _ _ _ _ _ _ _ _ _ _ _ _ _ _ _ _ _ _ _ _ _ _ _ _ _ _ _ _ _ _ _ _ _ _ _ _ _ _ _ _ _ _ _ _ _ _ _ _ _ _ _ _ _ _ _ _ _ _ _ _ _ _ _ _ _ _ _ _ _ _ _ _ _ _ _ _ _ _ _ _ _ _ _ _ _ _ _ _ _ _ _ _ _ _ _ _ _ _ _ _ _ _ _ _ _ _ _ _ _ _ _ _ _ _ _ _ _ _ _ _ _ _ _ _ _ _ _ _ _ _ _ _ _ _ _ _ _ _ _ _ _ _ _ _ _ _ _ _ _ _ _ _ _ _ _ _ _ _ _ _ _ _ _ _ _ _ _ _ _ _ _ _ _ _ _ _ _ _ _ _ _ _ _ _ _ _ _ _ _ _ _ _ _ _ _ _ _ _ _ _ _ _ _ _ _ _ _ _ _ _ _ _ _ _ _ _ _ _ _ _ _ _ _ _ _ _ _ _ _ _ _ _ _ _ _ _ _ _ _ _ _ _ _ _ _ _ _ _ _ _ _ _ _ _ _ _ _ _ _ _ _ _ ‹_›

set_option maxHeartbeats 1600000 in
set_option maxRecDepth 100000 in
theorem seg2_ext (F : Interp) (a0 a4 : Option Addr) (l0 c0 m c4 E O root T C S R : Nat) (Z : Nat → Nat) (opt : Nat → Bool) (hZ : ∀ j, Z j < 256) (w0 w : World) (b0 : l0 ≤ 1048576) (b4 : m ≤ 1048576) (hc0 : l0 ≤ c0) (hOE : O ≤ E) (hEl : E ≤ 8 * l0) (hr64 : root ≤ 64) (hr4 : root ≤ m)
    (hF : F.answers w0.tape) (hBy : BytesOf w0 a0 l0 Z) (hOp : OptOf w0 a4 m opt) (hRy : Ready w0 l0 Z m opt T C S root true w) (hRd : w.heap[R]? = some (rdO a0 l0 c0 (O : Nat) E)) (hwR : w0.heap.size ≤ R) (nT : T ≠ R) (nC : C ≠ R) (nS : S ≠ R)
    (u1 u2 u5 u6 u7 u8 u9 u10 u11 u12 u13 u17 u18 u22 u23 u24 u25 u26 u27 u28 u29 u30 u31 u32 u33 u34 u35 u36 u37 u38 u39 u40 u41 u42 u43 u44 u45 u46 u47 u48 u49 u50 u51 u52 u53 u54 u55 u56 u57 u58 u59 u60 u61 u62 u63 u64 u65 u66 u67 u68 u69 u70 u71 u72 u73 u74 u75 u76 u77 u78 u79 u80 u81 u82 u83 u84 u85 u86 u87 u88 u89 u90 u91 u92 u93 u94 u95 u96 u97 u98 u99 u100 u101 u102 u103 u104 u105 u106 u107 u108 u109 u110 u111 u112 u113 u114 u115 u116 u117 u118 u119 u120 u121 u122 u123 u124 u125 u126 u127 u128 u129 u130 u131 u132 u133 u134 u135 u136 u137 u138 u139 u140 u141 u142 u143 u144 u145 u146 u147 u148 u149 u150 u151 u152 u153 u154 u155 u156 u157 u158 u159 u160 u161 u162 u163 u164 u165 u166 u167 u168 u169 u170 u171 u172 u173 u174 u175 u176 u177 u178 u179 u180 u181 u182 u183 u184 u185 u186 u187 u188 u189 u190 u191 u192 u193 u194 u195 u196 u197 u198 u199 u200 u201 u202 u203 u204 u205 u206 u207 u208 u209 u210 u211 u212 u213 u214 u215 u216 u217 u218 u219 u220 u221 u222 u223 u224 u225 u226 u227 u228 u229 u230 u231 u232 u233 u234 u235 u236 u237 u238 u239 u240 u241 u242 u243 u244 u245 u246 u247 u248 u249 u250 u251 u252 u253 u254 u255 u256 u257 u258 u259 u260 u261 u262 u263 u264 u265 u266 u267 u268 u269 u270 u271 u272 u273 u274 u275 u276 u277 u278 u279 u280 u281 u282 u283 u284 u285 u286 u287 u288 u289 u290 u291 u292 u293 u294 u295 u296 u297 u298 u299 u300 u301 u302 u303 u304 u305 u306 u307 u308 u309 u310 u311 u312 u313 u314 u315 u316 u317 u318 u319 u320 u321 u322 u323 u324 u325 u326 u327 u328 u329 u330 u331 : Value) (K : Act → World → Prop)
    (hK : ∀ a w, Code.wp Ybaf.prog ((Ybaf.f3.body.bind (partAt 18)).getD (.skip, .skip)).2 (bodyPost Ybaf.prog Ybaf.f3 fun e w' => e = .returned (.bool true) ∧ Below w0.heap.size w0 w') a w → K a w) :
    Code.wp Ybaf.prog ((Ybaf.f3.body.bind (partAt 18)).getD (.skip, .skip)).1 (Exit.then K (bodyPost Ybaf.prog Ybaf.f3 fun e w' => e = .returned (.bool true) ∧ Below w0.heap.size w0 w'))
      ⟨#[.slice a0 l0 c0, u1, u2, .bool true, .slice a4 m c4, u5, u6, u7, u8, u9, u10, u11, u12, u13, .int .i64 (E : Nat), .int .i64 (O : Nat), .int .i64 (root : Nat), u17, u18, .pointer (some ⟨T, 0, none⟩), .slice (some ⟨S, 0, none⟩) l0 l0, .pointer (some ⟨R, 0, none⟩), u22, u23, u24, u25, u26, u27, u28, u29, u30, u31, u32, u33, u34, u35, u36, u37, u38, u39, u40, u41, u42, u43, u44, u45, u46, u47, u48, u49, u50, u51, u52, u53, u54, u55, u56, u57, u58, u59, u60, u61, u62, u63, u64, u65, u66, u67, u68, u69, u70, u71, u72, u73, u74, u75, u76, u77, u78, u79, u80, u81, u82, u83, u84, u85, u86, u87, u88, u89, u90, u91, u92, u93, u94, u95, u96, u97, u98, u99, u100, u101, u102, u103, u104, u105, u106, u107, u108, u109, u110, u111, u112, u113, u114, u115, u116, u117, u118, u119, u120, u121, u122, u123, u124, u125, u126, u127, u128, u129, u130, u131, u132, u133, u134, u135, u136, u137, u138, u139, u140, u141, u142, u143, u144, u145, u146, u147, u148, u149, u150, u151, u152, u153, u154, u155, u156, u157, u158, u159, u160, u161, u162, u163, u164, u165, u166, u167, u168, u169, u170, u171, u172, u173, u174, u175, u176, u177, u178, u179, u180, u181, u182, u183, u184, u185, u186, u187, u188, u189, u190, u191, u192, u193, u194, u195, u196, u197, u198, u199, u200, u201, u202, u203, u204, u205, u206, u207, u208, u209, u210, u211, u212, u213, u214, u215, u216, u217, u218, u219, u220, u221, u222, u223, u224, u225, u226, u227, u228, u229, u230, u231, u232, u233, u234, u235, u236, u237, u238, u239, u240, u241, u242, u243, u244, u245, u246, u247, u248, u249, u250, u251, u252, u253, u254, u255, u256, u257, u258, u259, u260, u261, u262, u263, u264, u265, u266, u267, u268, u269, u270, u271, u272, u273, u274, u275, u276, u277, u278, u279, u280, u281, u282, u283, u284, u285, u286, u287, u288, u289, u290, u291, u292, u293, u294, u295, u296, u297, u298, u299, u300, u301, u302, u303, u304, u305, u306, u307, u308, u309, u310, u311, u312, u313, u314, u315, u316, u317, u318, u319, u320, u321, u322, u323, u324, u325, u326, u327, u328, u329, u330, u331], []⟩ w := by
  conv => arg 2; whnf
  conv at hK => enter [a, w, 1, 2]; whnf
  go_wp2_with fail
  refine (preamble_left F R T C a0 l0 c0 O E m root true opt Z hZ _ (by rw [hRy.below.tape]; exact hF) hOE hEl b0 hc0 hr64 hr4 b4 hRd (hBy.buf hRy.below hwR) hRy.typ nT nC).mono ?_
  rintro x w4 ⟨pv, av, ev, P, rfl, hL, hKp, hRd4⟩
  have hRy4 := hRy.kept hKp hwR nT nC nS
  have hby := hBy.below hRy4.below
  have hop := hOp.below hRy4.below
  obtain ⟨r0, r1, r2, _, _⟩ := rd_cells hRd4
  obtain ⟨t5, t7, t8, ht⟩ := hRy4.typ
  have hsv := hRy4.saved
  have HL : Hid (Left3 Z opt O E root true pv av ev P) := hL
  have HR : Hid (w4.heap[R]? = some (rdO a0 l0 c0 (P : Nat) E)) := hRd4
  have HO : Hid (OptOf w4 a4 m opt) := hop
  have HS : Hid (∀ j, j < l0 → w4.cell? ⟨S, j, none⟩ = some (.int .u8 (Z j : Nat))) := hsv
  have HB : Hid (Below w0.heap.size w0 w4) := hRy4.below
  have HT : Hid (∀ i, i < m → w4.cell? ⟨C, i * 8 + 2, none⟩ = some (.bool (opt i))) := ht
  have HY : Hid (BytesOf w4 a0 l0 Z) := hby
  clear hL hRd4 hop hsv hRy4 hKp hRy hRd hBy hOp hF ht hby
  go_wp2_with fail
  go_loopw [118] (fun i wr => ∃ k : Nat, k ≤ l0 ∧ i = .int .i64 k ∧ ∃ n, wr = w4.drewN n) (fun i _ => l0 - (intOf i).toNat)
  case atStart => exact ⟨0, Nat.zero_le _, rfl, 0, rfl⟩
  case round =>
    obtain ⟨k, hk, rfl, n, rfl⟩ := hrel
    by_cases hlt : k < l0
    · obtain ⟨b, off, rfl, hbw, hc⟩ := HY.out k hlt
      have hck := hc k hlt
      have hsk := HS.out k hlt
      have hki : (k : Int) < (l0 : Int) := by omega
      clear hc
      go_wp2_with fail
      go_quiet (fail)
      go_wp2_with fail
      go_roundw
      case rel => exact ⟨k + 1, by omega, by go_num, _, rfl⟩
      case measure => simp [intOf]; omega
    · obtain rfl : l0 = k := by omega
      clear hlt
      go_wp2_with fail
      go_loopw [152] (fun i wr => ∃ k : Nat, k ≤ l0 ∧ i = .int .i64 k ∧ ∃ n, wr = w4.drewN n) (fun i _ => l0 - (intOf i).toNat)
      case atStart => exact ⟨0, Nat.zero_le _, rfl, n, rfl⟩
      case round =>
        clear n
        obtain ⟨k, hk, rfl, n, rfl⟩ := hrel
        by_cases hlt : k < l0
        · obtain ⟨b, off, rfl, hbw, hc⟩ := HY.out k hlt
          have hck := hc k hlt
          have hsk := HS.out k hlt
          have hki : (k : Int) < (l0 : Int) := by omega
          clear hc
          go_wp2_with fail
          go_quiet (fail)
          go_wp2_with fail
          go_roundw
          case rel => exact ⟨k + 1, by omega, by go_num, _, rfl⟩
          case measure => simp [intOf]; omega
        · obtain rfl : l0 = k := by omega
          clear hlt
          go_wp2_with fail
          go_loopw [194] (fun i wr => ∃ k : Nat, k ≤ m ∧ i = .int .i64 k ∧ ∃ n, wr = w4.drewN n) (fun i _ => m - (intOf i).toNat)
          case atStart => exact ⟨0, Nat.zero_le _, rfl, n, rfl⟩
          case round =>
            clear n
            obtain ⟨k, hk, rfl, n, rfl⟩ := hrel
            by_cases hlt : k < m
            · obtain ⟨b, off, rfl, hbw, hc⟩ := HO.out k hlt
              have hck := hc k hlt
              have hsk := HT.out k hlt
              have hki : (k : Int) < (m : Int) := by omega
              clear hc
              go_wp2_with fail
              go_quiet (fail)
              go_wp2_with fail
              go_roundw
              case rel => exact ⟨k + 1, by omega, by go_num, _, rfl⟩
              case measure => simp [intOf]; omega
            · obtain rfl : m = k := by omega
              clear hlt
              go_upto_region 41 with fail
              exact seg3_ext a0 a4 l0 c0 m c4 E O root S R P pv av ev Z opt hZ w0 (w4.drewN n) b0 b4 hOE hEl hr64 hr4 HO.out HS.out (Go.Proofs.YbulkesaiFmt.Below.same_drewN HB.out n) HL.out HR.out _ _ _ _ _ _ _ _ _ _ _ _ _ _ _ _ _ _ _ _ _ _ _ _ _ _ _ _ _ _ _ _ _ _ _ _ _ _ _ _ _ _ _ _ _ _ _ _ _ _ _ _ _ _ _ _ _ _ _ _ _ _ _ _ _ _ _ _ _ _ _ _ _ _ _ _ _ _ _ _ _ _ _ _ _ _ _ _ _ _ _ _ _ _ _ _ _ _ _ _ _ _ _ _ _ _ _ _ _ _ _ _ _ _ _ _ _ _ _ _ _ _ _ _ _ _ _ _ _ _ _ _ _ _ _ _ _ _ _ _ _ _ _ _ _ _ _ _ _ _ _ _ _ _ _ _ _ _ _ _ _ _ _ _ _ _ _ _ _ _ _ _ _ _ _ _ _ _ _ _ _ _ _ _ _ _ _ _ _ _ _ _ _ _ _ _ _ _ _ _ _ _ _ _ _ _ _ _ _ _ _ _ _ _ _ _ _ _ _ _ _ _ _ _ _ _ _ _ _ _ _ _ _ _ _ _ _ _ _ _ _ _ _ _ _ _ _ _ _ _ _ _ _ _ _ _ _ _ _ _ _ _ _ _ _ _ _ _ _ _ _ _ _ _ _ _ _ _ _ _ _ _ _ _ _ _ _ _ _ _ _ _ _ _ _ _ _ _ _ _ _ _ _ _ _ _ _ _ _ _ _ _ _ _ _ _ _ _ _ _ _ _ ‹_›
end Go.Proofs.YbulkesaiFmt
