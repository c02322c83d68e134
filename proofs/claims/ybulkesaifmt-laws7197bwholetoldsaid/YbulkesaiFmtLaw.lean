/- THE LAW's WALK. -/
import Derived.Test.YbulkesaiFmtSecond
namespace Go.Proofs.YbulkesaiFmt
open Go.ChangeShapes Go.WideShapes Go.ChangeAt Go.RowKit
open Go.Extern.Stop Go.Stop Go.Extern
set_option linter.unusedVariables false


set_option maxHeartbeats 1600000 in
set_option maxRecDepth 100000 in
theorem law_no_le (F : Interp) (a0 a4 : Option Addr) (l0 c0 l4 c4 : Nat) (x1 x2 x5 : Nat) (Z : Nat → Nat) (opt : Nat → Bool) (w : World) (hF : F.answers w.tape) (hZ : ∀ j, Z j < 256) (b0 : l0 ≤ 1048576) (b4 : l4 ≤ 1048576) (hc0 : l0 ≤ c0)
    (b1 : x1 < 18446744073709551616) (b2 : x2 < 18446744073709551616) (b5 : x5 < 256) (hm : l4 ≤ 64) (hB : BytesOf w a0 l0 Z) (hO : OptOf w a4 l4 opt) :
    Calls Ybaf.prog 3 #[.slice a0 l0 c0, .int .u64 x1, .int .u64 x2, .bool false, .slice a4 l4 c4, .int .u8 x5] w fun e w' => e = .returned (.bool true) ∧ Below w.heap.size w w' := by
  obtain ⟨y1, hy1⟩ : ∃ y1, y1 = x1 % (8 * l0 + 1) := ⟨_, rfl⟩
  have hy1b : y1 ≤ 8 * l0 := by have := Nat.mod_lt x1 (show 0 < 8 * l0 + 1 by omega); omega
  obtain ⟨E, hE⟩ : ∃ E, E = 8 * l0 - y1 := ⟨_, rfl⟩
  obtain ⟨O, hOo⟩ : ∃ O, O = x2 % (E + 1) := ⟨_, rfl⟩
  have hOE : O ≤ E := by have := Nat.mod_lt x2 (show 0 < E + 1 by omega); omega
  have hEl : E ≤ 8 * l0 := by omega
  obtain ⟨y5, hy5⟩ : ∃ y5, y5 = x5 % (l4 + 1) := ⟨_, rfl⟩
  have hy5b : y5 ≤ l4 := by have := Nat.mod_lt x5 (show 0 < l4 + 1 by omega); omega
  obtain ⟨root, hroot⟩ : ∃ root, root = l4 - y5 := ⟨_, rfl⟩
  have hr64 : root ≤ 64 := by omega
  have hr4 : root ≤ l4 := by omega
  have e1 : (x1 : Int) % (8 * (l0 : Int) + 1) = (y1 : Int) := by rw [hy1, Int.natCast_emod]; rfl
  have e2 : 8 * (l0 : Int) - (y1 : Int) = (E : Int) := by omega
  have e3 : (x2 : Int) % ((E : Int) + 1) = (O : Int) := by rw [hOo, Int.natCast_emod]; rfl
  have e4 : (x5 : Int) % ((l4 : Int) + 1) = (y5 : Int) := by rw [hy5, Int.natCast_emod]; rfl
  have e5 : (l4 : Int) - (y5 : Int) = (root : Int) := by omega
  have hmi : (l4 : Int) ≤ 64 := by omega
  clear hy1 hOo hy5 hroot hE
  have hmc := make_comps l4 b4
  have hmk := run_make_row' (P := Ybaf.prog) 22 5 (.int .u8 0) 1 Ybaf.underlying22 Ybaf.info5 rfl .i64 .i64 l0 (by omega) (by omega)
  have hd0 : decide ((1048576 : Int) < (l0 : Int)) = false := decide_eq_false (by omega)
  have hd4 : decide ((1048576 : Int) < (l4 : Int)) = false := decide_eq_false (by omega)
  go_enter Ybaf.func3, Ybaf.ntmps3
  go_wp2_with fail
  clear hmc e4 e5 hy5b e1 e2 e3 hy1b
  go_loopw [81] (fun i wr => ∃ k : Nat, k ≤ l4 ∧ i = .int .i64 k ∧ Comps w l4 opt k wr) (fun i _ => l4 - (intOf i).toNat)
  case atStart => exact ⟨0, Nat.zero_le _, rfl, Comps.start w l4 opt⟩
  case round =>
    obtain ⟨k, hk, rfl, hC⟩ := hrel
    by_cases hlt : k < l4
    · have HS : Hid (Comps w l4 opt (k + 1) (wr.setCell ⟨w.heap.size, k * 8 + 2, none⟩ (.bool (opt k)))) := hC.step hlt
      obtain ⟨f, hrow, _⟩ := hC.row
      have hcell := hrow.cell (show k * 8 + 2 < l4 * 8 by omega)
      have hfz := hrow.frozen (k * 8 + 2)
      obtain ⟨b, off, rfl, hbw, hc⟩ := (hO.below hC.below) k hlt
      have hck := hc k hlt
      clear hc hC hrow hO hB hF hmk
      go_wp2_with fail
      go_roundw
      case rel => exact ⟨k + 1, by omega, by go_num, HS⟩
      case measure => simp [intOf]; omega
    · obtain rfl : l4 = k := by omega
      obtain ⟨L, hL⟩ : ∃ L, L = bytesL Z l0 := ⟨_, rfl⟩
      have HL : Hid (L = bytesL Z l0) := hL
      clear hL
      go_wp2_with (refine wpList_copy_splice rfl (.tmp 101) (.tmp 102) 22 22 rfl 5 Ybaf.underlying22 Ybaf.size5 _ _ _ _ _ _ rfl rfl (wr.heap.size + 1) 0 (madeCells #[.int .u8 0] l0).toList 5 ?qg L ?qn ?qpos ?qfit ?q1 (wr.heap.size + 1) (wr.alloc (tyO w.heap.size l4 root false)) ?qb (Nat.le_refl _) ?_)
      case qg => rw [heap_second]
      case qn => rw [HL.out, bytesL_length]; simp
      case qpos =>
        intro h0
        rw [HL.out, bytesL_length] at h0
        obtain ⟨b, off, rfl, hlt2, hc⟩ := hB 0 h0
        refine ⟨_, rfl, fun j v hv => ?_⟩
        rw [HL.out] at hv
        obtain ⟨hj, rfl⟩ := bytesL_at _ _ _ _ hv
        have hs := hC.size
        have hb2 : Below w.heap.size w ((wr.alloc (tyO w.heap.size l4 root false)).alloc (.cells (madeCells #[.int .u8 0] l0) 5)) := (hC.below.alloc (by omega) _).alloc (by simp; omega) _
        rw [add_plain]
        exact (hb2.cell (p := ⟨b, off + j, none⟩) hlt2).trans (hc j hj)
      case qfit => rw [HL.out, bytesL_length]; simp [size_madeCells]
      case q1 => rw [HL.out]; exact bytesL_one _ _
      case qb => exact (Below.refl _ _).alloc (by simp) _
      intro w2 HG hB2
      have hR2 := hC.ready (l0 := l0) (root := root) (ext := false) (Z := Z) (Y := (madeCells #[.int .u8 0] l0).toList) (by simp [size_madeCells]) (by rw [← HL.out]; exact HG.out) hB2
      clear HG hB2 HL
      obtain ⟨T, hT⟩ : ∃ T, T = wr.heap.size := ⟨_, rfl⟩
      rw [← hT] at hR2 ⊢
      clear hC hT hmk
      go_upto_region 18 with fail
      have hR3 := hR2.alloc (rdO a0 l0 c0 (O : Nat) E)
      have hrd : (w2.alloc (rdO a0 l0 c0 (O : Nat) E)).heap[w2.heap.size]? = some (rdO a0 l0 c0 (O : Nat) E) := Deep.blk_alloc_new _ _
      exact seg2_no F a0 a4 l0 c0 l4 c4 E O root T w.heap.size (T + 1) w2.heap.size Z opt hZ w _ b0 b4 hc0 hOE hEl hr64 hr4 hF hB hO hR3 hrd hR2.below.size (Nat.ne_of_lt hR2.tlt) (Nat.ne_of_lt hR2.clt) (Nat.ne_of_lt hR2.slt) _ _ _ _ _ _ _ _ _ _ _ _ _ _ _ _ _ _ _ _ _ _ _ _ _ _ _ _ _ _ _ _ _ _ _ _ _ _ _ _ _ _ _ _ _ _ _ _ _ _ _ _ _ _ _ _ _ _ _ _ _ _ _ _ _ _ _ _ _ _ _ _ _ _ _ _ _ _ _ _ _ _ _ _ _ _ _ _ _ _ _ _ _ _ _ _ _ _ _ _ _ _ _ _ _ _ _ _ _ _ _ _ _ _ _ _ _ _ _ _ _ _ _ _ _ _ _ _ _ _ _ _ _ _ _ _ _ _ _ _ _ _ _ _ _ _ _ _ _ _ _ _ _ _ _ _ _ _ _ _ _ _ _ _ _ _ _ _ _ _ _ _ _ _ _ _ _ _ _ _ _ _ _ _ _ _ _ _ _ _ _ _ _ _ _ _ _ _ _ _ _ _ _ _ _ _ _ _ _ _ _ _ _ _ _ _ _ _ _ _ _ _ _ _ _ _ _ _ _ _ _ _ _ _ _ _ _ _ _ _ _ _ _ _ _ _ _ _ _ _ _ _ _ _ _ _ _ _ _ _ _ _ _ _ _ _ _ _ _ _ _ _ _ _ _ _ _ _ _ _ _ _ _ _ _ _ _ _ _ _ _ _ _ _ _ _ _ _ _ _ _ _ _ _ _ _ _ _ _ _ _ _ _ _ _ _ _ _ _ _ _ _ _ _ ‹_›

set_option maxHeartbeats 1600000 in
set_option maxRecDepth 100000 in
theorem law_no_gt (F : Interp) (a0 a4 : Option Addr) (l0 c0 l4 c4 : Nat) (x1 x2 x5 : Nat) (Z : Nat → Nat) (opt : Nat → Bool) (w : World) (hF : F.answers w.tape) (hZ : ∀ j, Z j < 256) (b0 : l0 ≤ 1048576) (b4 : l4 ≤ 1048576) (hc0 : l0 ≤ c0)
    (b1 : x1 < 18446744073709551616) (b2 : x2 < 18446744073709551616) (b5 : x5 < 256) (hm : 64 < l4) (hB : BytesOf w a0 l0 Z) (hO : OptOf w a4 l4 opt) :
    Calls Ybaf.prog 3 #[.slice a0 l0 c0, .int .u64 x1, .int .u64 x2, .bool false, .slice a4 l4 c4, .int .u8 x5] w fun e w' => e = .returned (.bool true) ∧ Below w.heap.size w w' := by
  obtain ⟨y1, hy1⟩ : ∃ y1, y1 = x1 % (8 * l0 + 1) := ⟨_, rfl⟩
  have hy1b : y1 ≤ 8 * l0 := by have := Nat.mod_lt x1 (show 0 < 8 * l0 + 1 by omega); omega
  obtain ⟨E, hE⟩ : ∃ E, E = 8 * l0 - y1 := ⟨_, rfl⟩
  obtain ⟨O, hOo⟩ : ∃ O, O = x2 % (E + 1) := ⟨_, rfl⟩
  have hOE : O ≤ E := by have := Nat.mod_lt x2 (show 0 < E + 1 by omega); omega
  have hEl : E ≤ 8 * l0 := by omega
  obtain ⟨y5, hy5⟩ : ∃ y5, y5 = x5 % (64 + 1) := ⟨_, rfl⟩
  have hy5b : y5 ≤ 64 := by have := Nat.mod_lt x5 (show 0 < 64 + 1 by omega); omega
  obtain ⟨root, hroot⟩ : ∃ root, root = 64 - y5 := ⟨_, rfl⟩
  have hr64 : root ≤ 64 := by omega
  have hr4 : root ≤ l4 := by omega
  have e1 : (x1 : Int) % (8 * (l0 : Int) + 1) = (y1 : Int) := by rw [hy1, Int.natCast_emod]; rfl
  have e2 : 8 * (l0 : Int) - (y1 : Int) = (E : Int) := by omega
  have e3 : (x2 : Int) % ((E : Int) + 1) = (O : Int) := by rw [hOo, Int.natCast_emod]; rfl
  have e4 : (x5 : Int) % 65 = (y5 : Int) := by rw [hy5, Int.natCast_emod]; rfl
  have e5 : (64 : Int) - (y5 : Int) = (root : Int) := by omega
  have hmi : (64 : Int) < (l4 : Int) := by omega
  clear hy1 hOo hy5 hroot hE
  have hmc := make_comps l4 b4
  have hmk := run_make_row' (P := Ybaf.prog) 22 5 (.int .u8 0) 1 Ybaf.underlying22 Ybaf.info5 rfl .i64 .i64 l0 (by omega) (by omega)
  have hd0 : decide ((1048576 : Int) < (l0 : Int)) = false := decide_eq_false (by omega)
  have hd4 : decide ((1048576 : Int) < (l4 : Int)) = false := decide_eq_false (by omega)
  go_enter Ybaf.func3, Ybaf.ntmps3
  go_wp2_with fail
  clear hmc e4 e5 hy5b e1 e2 e3 hy1b
  go_loopw [81] (fun i wr => ∃ k : Nat, k ≤ l4 ∧ i = .int .i64 k ∧ Comps w l4 opt k wr) (fun i _ => l4 - (intOf i).toNat)
  case atStart => exact ⟨0, Nat.zero_le _, rfl, Comps.start w l4 opt⟩
  case round =>
    obtain ⟨k, hk, rfl, hC⟩ := hrel
    by_cases hlt : k < l4
    · have HS : Hid (Comps w l4 opt (k + 1) (wr.setCell ⟨w.heap.size, k * 8 + 2, none⟩ (.bool (opt k)))) := hC.step hlt
      obtain ⟨f, hrow, _⟩ := hC.row
      have hcell := hrow.cell (show k * 8 + 2 < l4 * 8 by omega)
      have hfz := hrow.frozen (k * 8 + 2)
      obtain ⟨b, off, rfl, hbw, hc⟩ := (hO.below hC.below) k hlt
      have hck := hc k hlt
      clear hc hC hrow hO hB hF hmk
      go_wp2_with fail
      go_roundw
      case rel => exact ⟨k + 1, by omega, by go_num, HS⟩
      case measure => simp [intOf]; omega
    · obtain rfl : l4 = k := by omega
      obtain ⟨L, hL⟩ : ∃ L, L = bytesL Z l0 := ⟨_, rfl⟩
      have HL : Hid (L = bytesL Z l0) := hL
      clear hL
      go_wp2_with (refine wpList_copy_splice rfl (.tmp 101) (.tmp 102) 22 22 rfl 5 Ybaf.underlying22 Ybaf.size5 _ _ _ _ _ _ rfl rfl (wr.heap.size + 1) 0 (madeCells #[.int .u8 0] l0).toList 5 ?qg L ?qn ?qpos ?qfit ?q1 (wr.heap.size + 1) (wr.alloc (tyO w.heap.size l4 root false)) ?qb (Nat.le_refl _) ?_)
      case qg => rw [heap_second]
      case qn => rw [HL.out, bytesL_length]; simp
      case qpos =>
        intro h0
        rw [HL.out, bytesL_length] at h0
        obtain ⟨b, off, rfl, hlt2, hc⟩ := hB 0 h0
        refine ⟨_, rfl, fun j v hv => ?_⟩
        rw [HL.out] at hv
        obtain ⟨hj, rfl⟩ := bytesL_at _ _ _ _ hv
        have hs := hC.size
        have hb2 : Below w.heap.size w ((wr.alloc (tyO w.heap.size l4 root false)).alloc (.cells (madeCells #[.int .u8 0] l0) 5)) := (hC.below.alloc (by omega) _).alloc (by simp; omega) _
        rw [add_plain]
        exact (hb2.cell (p := ⟨b, off + j, none⟩) hlt2).trans (hc j hj)
      case qfit => rw [HL.out, bytesL_length]; simp [size_madeCells]
      case q1 => rw [HL.out]; exact bytesL_one _ _
      case qb => exact (Below.refl _ _).alloc (by simp) _
      intro w2 HG hB2
      have hR2 := hC.ready (l0 := l0) (root := root) (ext := false) (Z := Z) (Y := (madeCells #[.int .u8 0] l0).toList) (by simp [size_madeCells]) (by rw [← HL.out]; exact HG.out) hB2
      clear HG hB2 HL
      obtain ⟨T, hT⟩ : ∃ T, T = wr.heap.size := ⟨_, rfl⟩
      rw [← hT] at hR2 ⊢
      clear hC hT hmk
      go_upto_region 18 with fail
      have hR3 := hR2.alloc (rdO a0 l0 c0 (O : Nat) E)
      have hrd : (w2.alloc (rdO a0 l0 c0 (O : Nat) E)).heap[w2.heap.size]? = some (rdO a0 l0 c0 (O : Nat) E) := Deep.blk_alloc_new _ _
      exact seg2_no F a0 a4 l0 c0 l4 c4 E O root T w.heap.size (T + 1) w2.heap.size Z opt hZ w _ b0 b4 hc0 hOE hEl hr64 hr4 hF hB hO hR3 hrd hR2.below.size (Nat.ne_of_lt hR2.tlt) (Nat.ne_of_lt hR2.clt) (Nat.ne_of_lt hR2.slt) _ _ _ _ _ _ _ _ _ _ _ _ _ _ _ _ _ _ _ _ _ _ _ _ _ _ _ _ _ _ _ _ _ _ _ _ _ _ _ _ _ _ _ _ _ _ _ _ _ _ _ _ _ _ _ _ _ _ _ _ _ _ _ _ _ _ _ _ _ _ _ _ _ _ _ _ _ _ _ _ _ _ _ _ _ _ _ _ _ _ _ _ _ _ _ _ _ _ _ _ _ _ _ _ _ _ _ _ _ _ _ _ _ _ _ _ _ _ _ _ _ _ _ _ _ _ _ _ _ _ _ _ _ _ _ _ _ _ _ _ _ _ _ _ _ _ _ _ _ _ _ _ _ _ _ _ _ _ _ _ _ _ _ _ _ _ _ _ _ _ _ _ _ _ _ _ _ _ _ _ _ _ _ _ _ _ _ _ _ _ _ _ _ _ _ _ _ _ _ _ _ _ _ _ _ _ _ _ _ _ _ _ _ _ _ _ _ _ _ _ _ _ _ _ _ _ _ _ _ _ _ _ _ _ _ _ _ _ _ _ _ _ _ _ _ _ _ _ _ _ _ _ _ _ _ _ _ _ _ _ _ _ _ _ _ _ _ _ _ _ _ _ _ _ _ _ _ _ _ _ _ _ _ _ _ _ _ _ _ _ _ _ _ _ _ _ _ _ _ _ _ _ _ _ _ _ _ _ _ _ _ _ _ _ _ _ _ _ _ _ _ _ _ _ ‹_›

set_option maxHeartbeats 1600000 in
set_option maxRecDepth 100000 in
theorem law_ext_le (F : Interp) (a0 a4 : Option Addr) (l0 c0 l4 c4 : Nat) (x1 x2 x5 : Nat) (Z : Nat → Nat) (opt : Nat → Bool) (w : World) (hF : F.answers w.tape) (hZ : ∀ j, Z j < 256) (b0 : l0 ≤ 1048576) (b4 : l4 ≤ 1048576) (hc0 : l0 ≤ c0)
    (b1 : x1 < 18446744073709551616) (b2 : x2 < 18446744073709551616) (b5 : x5 < 256) (hm : l4 ≤ 64) (hB : BytesOf w a0 l0 Z) (hO : OptOf w a4 l4 opt) :
    Calls Ybaf.prog 3 #[.slice a0 l0 c0, .int .u64 x1, .int .u64 x2, .bool true, .slice a4 l4 c4, .int .u8 x5] w fun e w' => e = .returned (.bool true) ∧ Below w.heap.size w w' := by
  obtain ⟨y1, hy1⟩ : ∃ y1, y1 = x1 % (8 * l0 + 1) := ⟨_, rfl⟩
  have hy1b : y1 ≤ 8 * l0 := by have := Nat.mod_lt x1 (show 0 < 8 * l0 + 1 by omega); omega
  obtain ⟨E, hE⟩ : ∃ E, E = 8 * l0 - y1 := ⟨_, rfl⟩
  obtain ⟨O, hOo⟩ : ∃ O, O = x2 % (E + 1) := ⟨_, rfl⟩
  have hOE : O ≤ E := by have := Nat.mod_lt x2 (show 0 < E + 1 by omega); omega
  have hEl : E ≤ 8 * l0 := by omega
  obtain ⟨y5, hy5⟩ : ∃ y5, y5 = x5 % (l4 + 1) := ⟨_, rfl⟩
  have hy5b : y5 ≤ l4 := by have := Nat.mod_lt x5 (show 0 < l4 + 1 by omega); omega
  obtain ⟨root, hroot⟩ : ∃ root, root = l4 - y5 := ⟨_, rfl⟩
  have hr64 : root ≤ 64 := by omega
  have hr4 : root ≤ l4 := by omega
  have e1 : (x1 : Int) % (8 * (l0 : Int) + 1) = (y1 : Int) := by rw [hy1, Int.natCast_emod]; rfl
  have e2 : 8 * (l0 : Int) - (y1 : Int) = (E : Int) := by omega
  have e3 : (x2 : Int) % ((E : Int) + 1) = (O : Int) := by rw [hOo, Int.natCast_emod]; rfl
  have e4 : (x5 : Int) % ((l4 : Int) + 1) = (y5 : Int) := by rw [hy5, Int.natCast_emod]; rfl
  have e5 : (l4 : Int) - (y5 : Int) = (root : Int) := by omega
  have hmi : (l4 : Int) ≤ 64 := by omega
  clear hy1 hOo hy5 hroot hE
  have hmc := make_comps l4 b4
  have hmk := run_make_row' (P := Ybaf.prog) 22 5 (.int .u8 0) 1 Ybaf.underlying22 Ybaf.info5 rfl .i64 .i64 l0 (by omega) (by omega)
  have hd0 : decide ((1048576 : Int) < (l0 : Int)) = false := decide_eq_false (by omega)
  have hd4 : decide ((1048576 : Int) < (l4 : Int)) = false := decide_eq_false (by omega)
  go_enter Ybaf.func3, Ybaf.ntmps3
  go_wp2_with fail
  clear hmc e4 e5 hy5b e1 e2 e3 hy1b
  go_loopw [81] (fun i wr => ∃ k : Nat, k ≤ l4 ∧ i = .int .i64 k ∧ Comps w l4 opt k wr) (fun i _ => l4 - (intOf i).toNat)
  case atStart => exact ⟨0, Nat.zero_le _, rfl, Comps.start w l4 opt⟩
  case round =>
    obtain ⟨k, hk, rfl, hC⟩ := hrel
    by_cases hlt : k < l4
    · have HS : Hid (Comps w l4 opt (k + 1) (wr.setCell ⟨w.heap.size, k * 8 + 2, none⟩ (.bool (opt k)))) := hC.step hlt
      obtain ⟨f, hrow, _⟩ := hC.row
      have hcell := hrow.cell (show k * 8 + 2 < l4 * 8 by omega)
      have hfz := hrow.frozen (k * 8 + 2)
      obtain ⟨b, off, rfl, hbw, hc⟩ := (hO.below hC.below) k hlt
      have hck := hc k hlt
      clear hc hC hrow hO hB hF hmk
      go_wp2_with fail
      go_roundw
      case rel => exact ⟨k + 1, by omega, by go_num, HS⟩
      case measure => simp [intOf]; omega
    · obtain rfl : l4 = k := by omega
      obtain ⟨L, hL⟩ : ∃ L, L = bytesL Z l0 := ⟨_, rfl⟩
      have HL : Hid (L = bytesL Z l0) := hL
      clear hL
      go_wp2_with (refine wpList_copy_splice rfl (.tmp 101) (.tmp 102) 22 22 rfl 5 Ybaf.underlying22 Ybaf.size5 _ _ _ _ _ _ rfl rfl (wr.heap.size + 1) 0 (madeCells #[.int .u8 0] l0).toList 5 ?qg L ?qn ?qpos ?qfit ?q1 (wr.heap.size + 1) (wr.alloc (tyO w.heap.size l4 root true)) ?qb (Nat.le_refl _) ?_)
      case qg => rw [heap_second]
      case qn => rw [HL.out, bytesL_length]; simp
      case qpos =>
        intro h0
        rw [HL.out, bytesL_length] at h0
        obtain ⟨b, off, rfl, hlt2, hc⟩ := hB 0 h0
        refine ⟨_, rfl, fun j v hv => ?_⟩
        rw [HL.out] at hv
        obtain ⟨hj, rfl⟩ := bytesL_at _ _ _ _ hv
        have hs := hC.size
        have hb2 : Below w.heap.size w ((wr.alloc (tyO w.heap.size l4 root true)).alloc (.cells (madeCells #[.int .u8 0] l0) 5)) := (hC.below.alloc (by omega) _).alloc (by simp; omega) _
        rw [add_plain]
        exact (hb2.cell (p := ⟨b, off + j, none⟩) hlt2).trans (hc j hj)
      case qfit => rw [HL.out, bytesL_length]; simp [size_madeCells]
      case q1 => rw [HL.out]; exact bytesL_one _ _
      case qb => exact (Below.refl _ _).alloc (by simp) _
      intro w2 HG hB2
      have hR2 := hC.ready (l0 := l0) (root := root) (ext := true) (Z := Z) (Y := (madeCells #[.int .u8 0] l0).toList) (by simp [size_madeCells]) (by rw [← HL.out]; exact HG.out) hB2
      clear HG hB2 HL
      obtain ⟨T, hT⟩ : ∃ T, T = wr.heap.size := ⟨_, rfl⟩
      rw [← hT] at hR2 ⊢
      clear hC hT hmk
      go_upto_region 18 with fail
      have hR3 := hR2.alloc (rdO a0 l0 c0 (O : Nat) E)
      have hrd : (w2.alloc (rdO a0 l0 c0 (O : Nat) E)).heap[w2.heap.size]? = some (rdO a0 l0 c0 (O : Nat) E) := Deep.blk_alloc_new _ _
      exact seg2_ext F a0 a4 l0 c0 l4 c4 E O root T w.heap.size (T + 1) w2.heap.size Z opt hZ w _ b0 b4 hc0 hOE hEl hr64 hr4 hF hB hO hR3 hrd hR2.below.size (Nat.ne_of_lt hR2.tlt) (Nat.ne_of_lt hR2.clt) (Nat.ne_of_lt hR2.slt) _ _ _ _ _ _ _ _ _ _ _ _ _ _ _ _ _ _ _ _ _ _ _ _ _ _ _ _ _ _ _ _ _ _ _ _ _ _ _ _ _ _ _ _ _ _ _ _ _ _ _ _ _ _ _ _ _ _ _ _ _ _ _ _ _ _ _ _ _ _ _ _ _ _ _ _ _ _ _ _ _ _ _ _ _ _ _ _ _ _ _ _ _ _ _ _ _ _ _ _ _ _ _ _ _ _ _ _ _ _ _ _ _ _ _ _ _ _ _ _ _ _ _ _ _ _ _ _ _ _ _ _ _ _ _ _ _ _ _ _ _ _ _ _ _ _ _ _ _ _ _ _ _ _ _ _ _ _ _ _ _ _ _ _ _ _ _ _ _ _ _ _ _ _ _ _ _ _ _ _ _ _ _ _ _ _ _ _ _ _ _ _ _ _ _ _ _ _ _ _ _ _ _ _ _ _ _ _ _ _ _ _ _ _ _ _ _ _ _ _ _ _ _ _ _ _ _ _ _ _ _ _ _ _ _ _ _ _ _ _ _ _ _ _ _ _ _ _ _ _ _ _ _ _ _ _ _ _ _ _ _ _ _ _ _ _ _ _ _ _ _ _ _ _ _ _ _ _ _ _ _ _ _ _ _ _ _ _ _ _ _ _ _ _ _ _ _ _ _ _ _ _ _ _ _ _ _ _ _ _ _ _ _ _ _ _ _ _ _ _ _ _ _ _ ‹_›

set_option maxHeartbeats 1600000 in
set_option maxRecDepth 100000 in
theorem law_ext_gt (F : Interp) (a0 a4 : Option Addr) (l0 c0 l4 c4 : Nat) (x1 x2 x5 : Nat) (Z : Nat → Nat) (opt : Nat → Bool) (w : World) (hF : F.answers w.tape) (hZ : ∀ j, Z j < 256) (b0 : l0 ≤ 1048576) (b4 : l4 ≤ 1048576) (hc0 : l0 ≤ c0)
    (b1 : x1 < 18446744073709551616) (b2 : x2 < 18446744073709551616) (b5 : x5 < 256) (hm : 64 < l4) (hB : BytesOf w a0 l0 Z) (hO : OptOf w a4 l4 opt) :
    Calls Ybaf.prog 3 #[.slice a0 l0 c0, .int .u64 x1, .int .u64 x2, .bool true, .slice a4 l4 c4, .int .u8 x5] w fun e w' => e = .returned (.bool true) ∧ Below w.heap.size w w' := by
  obtain ⟨y1, hy1⟩ : ∃ y1, y1 = x1 % (8 * l0 + 1) := ⟨_, rfl⟩
  have hy1b : y1 ≤ 8 * l0 := by have := Nat.mod_lt x1 (show 0 < 8 * l0 + 1 by omega); omega
  obtain ⟨E, hE⟩ : ∃ E, E = 8 * l0 - y1 := ⟨_, rfl⟩
  obtain ⟨O, hOo⟩ : ∃ O, O = x2 % (E + 1) := ⟨_, rfl⟩
  have hOE : O ≤ E := by have := Nat.mod_lt x2 (show 0 < E + 1 by omega); omega
  have hEl : E ≤ 8 * l0 := by omega
  obtain ⟨y5, hy5⟩ : ∃ y5, y5 = x5 % (64 + 1) := ⟨_, rfl⟩
  have hy5b : y5 ≤ 64 := by have := Nat.mod_lt x5 (show 0 < 64 + 1 by omega); omega
  obtain ⟨root, hroot⟩ : ∃ root, root = 64 - y5 := ⟨_, rfl⟩
  have hr64 : root ≤ 64 := by omega
  have hr4 : root ≤ l4 := by omega
  have e1 : (x1 : Int) % (8 * (l0 : Int) + 1) = (y1 : Int) := by rw [hy1, Int.natCast_emod]; rfl
  have e2 : 8 * (l0 : Int) - (y1 : Int) = (E : Int) := by omega
  have e3 : (x2 : Int) % ((E : Int) + 1) = (O : Int) := by rw [hOo, Int.natCast_emod]; rfl
  have e4 : (x5 : Int) % 65 = (y5 : Int) := by rw [hy5, Int.natCast_emod]; rfl
  have e5 : (64 : Int) - (y5 : Int) = (root : Int) := by omega
  have hmi : (64 : Int) < (l4 : Int) := by omega
  clear hy1 hOo hy5 hroot hE
  have hmc := make_comps l4 b4
  have hmk := run_make_row' (P := Ybaf.prog) 22 5 (.int .u8 0) 1 Ybaf.underlying22 Ybaf.info5 rfl .i64 .i64 l0 (by omega) (by omega)
  have hd0 : decide ((1048576 : Int) < (l0 : Int)) = false := decide_eq_false (by omega)
  have hd4 : decide ((1048576 : Int) < (l4 : Int)) = false := decide_eq_false (by omega)
  go_enter Ybaf.func3, Ybaf.ntmps3
  go_wp2_with fail
  clear hmc e4 e5 hy5b e1 e2 e3 hy1b
  go_loopw [81] (fun i wr => ∃ k : Nat, k ≤ l4 ∧ i = .int .i64 k ∧ Comps w l4 opt k wr) (fun i _ => l4 - (intOf i).toNat)
  case atStart => exact ⟨0, Nat.zero_le _, rfl, Comps.start w l4 opt⟩
  case round =>
    obtain ⟨k, hk, rfl, hC⟩ := hrel
    by_cases hlt : k < l4
    · have HS : Hid (Comps w l4 opt (k + 1) (wr.setCell ⟨w.heap.size, k * 8 + 2, none⟩ (.bool (opt k)))) := hC.step hlt
      obtain ⟨f, hrow, _⟩ := hC.row
      have hcell := hrow.cell (show k * 8 + 2 < l4 * 8 by omega)
      have hfz := hrow.frozen (k * 8 + 2)
      obtain ⟨b, off, rfl, hbw, hc⟩ := (hO.below hC.below) k hlt
      have hck := hc k hlt
      clear hc hC hrow hO hB hF hmk
      go_wp2_with fail
      go_roundw
      case rel => exact ⟨k + 1, by omega, by go_num, HS⟩
      case measure => simp [intOf]; omega
    · obtain rfl : l4 = k := by omega
      obtain ⟨L, hL⟩ : ∃ L, L = bytesL Z l0 := ⟨_, rfl⟩
      have HL : Hid (L = bytesL Z l0) := hL
      clear hL
      go_wp2_with (refine wpList_copy_splice rfl (.tmp 101) (.tmp 102) 22 22 rfl 5 Ybaf.underlying22 Ybaf.size5 _ _ _ _ _ _ rfl rfl (wr.heap.size + 1) 0 (madeCells #[.int .u8 0] l0).toList 5 ?qg L ?qn ?qpos ?qfit ?q1 (wr.heap.size + 1) (wr.alloc (tyO w.heap.size l4 root true)) ?qb (Nat.le_refl _) ?_)
      case qg => rw [heap_second]
      case qn => rw [HL.out, bytesL_length]; simp
      case qpos =>
        intro h0
        rw [HL.out, bytesL_length] at h0
        obtain ⟨b, off, rfl, hlt2, hc⟩ := hB 0 h0
        refine ⟨_, rfl, fun j v hv => ?_⟩
        rw [HL.out] at hv
        obtain ⟨hj, rfl⟩ := bytesL_at _ _ _ _ hv
        have hs := hC.size
        have hb2 : Below w.heap.size w ((wr.alloc (tyO w.heap.size l4 root true)).alloc (.cells (madeCells #[.int .u8 0] l0) 5)) := (hC.below.alloc (by omega) _).alloc (by simp; omega) _
        rw [add_plain]
        exact (hb2.cell (p := ⟨b, off + j, none⟩) hlt2).trans (hc j hj)
      case qfit => rw [HL.out, bytesL_length]; simp [size_madeCells]
      case q1 => rw [HL.out]; exact bytesL_one _ _
      case qb => exact (Below.refl _ _).alloc (by simp) _
      intro w2 HG hB2
      have hR2 := hC.ready (l0 := l0) (root := root) (ext := true) (Z := Z) (Y := (madeCells #[.int .u8 0] l0).toList) (by simp [size_madeCells]) (by rw [← HL.out]; exact HG.out) hB2
      clear HG hB2 HL
      obtain ⟨T, hT⟩ : ∃ T, T = wr.heap.size := ⟨_, rfl⟩
      rw [← hT] at hR2 ⊢
      clear hC hT hmk
      go_upto_region 18 with fail
      have hR3 := hR2.alloc (rdO a0 l0 c0 (O : Nat) E)
      have hrd : (w2.alloc (rdO a0 l0 c0 (O : Nat) E)).heap[w2.heap.size]? = some (rdO a0 l0 c0 (O : Nat) E) := Deep.blk_alloc_new _ _
      exact seg2_ext F a0 a4 l0 c0 l4 c4 E O root T w.heap.size (T + 1) w2.heap.size Z opt hZ w _ b0 b4 hc0 hOE hEl hr64 hr4 hF hB hO hR3 hrd hR2.below.size (Nat.ne_of_lt hR2.tlt) (Nat.ne_of_lt hR2.clt) (Nat.ne_of_lt hR2.slt) _ _ _ _ _ _ _ _ _ _ _ _ _ _ _ _ _ _ _ _ _ _ _ _ _ _ _ _ _ _ _ _ _ _ _ _ _ _ _ _ _ _ _ _ _ _ _ _ _ _ _ _ _ _ _ _ _ _ _ _ _ _ _ _ _ _ _ _ _ _ _ _ _ _ _ _ _ _ _ _ _ _ _ _ _ _ _ _ _ _ _ _ _ _ _ _ _ _ _ _ _ _ _ _ _ _ _ _ _ _ _ _ _ _ _ _ _ _ _ _ _ _ _ _ _ _ _ _ _ _ _ _ _ _ _ _ _ _ _ _ _ _ _ _ _ _ _ _ _ _ _ _ _ _ _ _ _ _ _ _ _ _ _ _ _ _ _ _ _ _ _ _ _ _ _ _ _ _ _ _ _ _ _ _ _ _ _ _ _ _ _ _ _ _ _ _ _ _ _ _ _ _ _ _ _ _ _ _ _ _ _ _ _ _ _ _ _ _ _ _ _ _ _ _ _ _ _ _ _ _ _ _ _ _ _ _ _ _ _ _ _ _ _ _ _ _ _ _ _ _ _ _ _ _ _ _ _ _ _ _ _ _ _ _ _ _ _ _ _ _ _ _ _ _ _ _ _ _ _ _ _ _ _ _ _ _ _ _ _ _ _ _ _ _ _ _ _ _ _ _ _ _ _ _ _ _ _ _ _ _ _ _ _ _ _ _ _ _ _ _ _ _ _ _ ‹_›

set_option maxRecDepth 100000 in
/-- More than 2^20 bytes: the law does not look. -/
theorem law_big0 (a0 a4 : Option Addr) (l0 c0 l4 c4 : Nat) (x1 x2 x5 : Int) (ext : Bool) (w : World) (h : 1048576 < l0) (hm : l0 ≤ 9223372036854775807) :
    Calls Ybaf.prog 3 #[.slice a0 l0 c0, .int .u64 x1, .int .u64 x2, .bool ext, .slice a4 l4 c4, .int .u8 x5] w fun e w' => e = .returned (.bool true) ∧ Below w.heap.size w w' := by
  have hd0 : decide ((1048576 : Int) < (l0 : Int)) = true := decide_eq_true (by omega)
  go_enter Ybaf.func3, Ybaf.ntmps3
  go_wp2
  go_ret
  exact ⟨rfl, Below.refl _ _⟩
set_option maxRecDepth 100000 in
/-- .. or more than 2^20 flags. -/
theorem law_big4 (a0 a4 : Option Addr) (l0 c0 l4 c4 : Nat) (x1 x2 x5 : Int) (ext : Bool) (w : World) (h0 : ¬ 1048576 < l0) (h : 1048576 < l4) (hm : l4 ≤ 9223372036854775807) :
    Calls Ybaf.prog 3 #[.slice a0 l0 c0, .int .u64 x1, .int .u64 x2, .bool ext, .slice a4 l4 c4, .int .u8 x5] w fun e w' => e = .returned (.bool true) ∧ Below w.heap.size w w' := by
  have hd0 : decide ((1048576 : Int) < (l0 : Int)) = false := decide_eq_false (by omega)
  have hd4 : decide ((1048576 : Int) < (l4 : Int)) = true := decide_eq_true (by omega)
  go_enter Ybaf.func3, Ybaf.ntmps3
  go_wp2
  go_ret
  exact ⟨rfl, Below.refl _ _⟩

/-- THE LAW: true, and nothing that was there has turned. -/
theorem law_all (F : Interp) (a0 a4 : Option Addr) (l0 c0 l4 c4 : Nat) (x1 x2 x5 : Nat) (ext : Bool) (Z : Nat → Nat) (opt : Nat → Bool) (w : World) (hF : F.answers w.tape) (hZ : ∀ j, Z j < 256) (m0 : l0 ≤ 9223372036854775807) (m4 : l4 ≤ 9223372036854775807) (hc0 : l0 ≤ c0)
    (b1 : x1 < 18446744073709551616) (b2 : x2 < 18446744073709551616) (b5 : x5 < 256) (hB : BytesOf w a0 l0 Z) (hO : OptOf w a4 l4 opt) :
    Calls Ybaf.prog 3 #[.slice a0 l0 c0, .int .u64 x1, .int .u64 x2, .bool ext, .slice a4 l4 c4, .int .u8 x5] w fun e w' => e = .returned (.bool true) ∧ Below w.heap.size w w' := by
  by_cases h0 : 1048576 < l0
  · exact law_big0 a0 a4 l0 c0 l4 c4 x1 x2 x5 ext w h0 m0
  · by_cases h4 : 1048576 < l4
    · exact law_big4 a0 a4 l0 c0 l4 c4 x1 x2 x5 ext w h0 h4 m4
    · by_cases hm : l4 ≤ 64
      · cases ext
        · exact law_no_le F a0 a4 l0 c0 l4 c4 x1 x2 x5 Z opt w hF hZ (by omega) (by omega) hc0 b1 b2 b5 hm hB hO
        · exact law_ext_le F a0 a4 l0 c0 l4 c4 x1 x2 x5 Z opt w hF hZ (by omega) (by omega) hc0 b1 b2 b5 hm hB hO
      · cases ext
        · exact law_no_gt F a0 a4 l0 c0 l4 c4 x1 x2 x5 Z opt w hF hZ (by omega) (by omega) hc0 b1 b2 b5 (by omega) hB hO
        · exact law_ext_gt F a0 a4 l0 c0 l4 c4 x1 x2 x5 Z opt w hF hZ (by omega) (by omega) hc0 b1 b2 b5 (by omega) hB hO
end Go.Proofs.YbulkesaiFmt
