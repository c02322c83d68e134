/- THE LAW's WALK. -/
import Derived.Test.YbulkeovyWalk
namespace Go.Proofs.Ybulkeovy
open Go.ChangeShapes Go.WideShapes Go.ChangeAt Go.RowKit
set_option linter.unusedVariables false

theorem cnt_hit {z : Nat → Bool} {m : Nat} (h : z m = true) : Value.int .i64 ((cnt z m : Int) + 1) = .int .i64 (cnt z (m + 1) : Nat) := by simp [cnt, h]
theorem cnt_miss {z : Nat → Bool} {m : Nat} (h : z m = false) : Value.int .i64 (cnt z m : Nat) = .int .i64 (cnt z (m + 1) : Nat) := by simp [cnt, h]

set_option maxHeartbeats 1600000 in
set_option maxRecDepth 100000 in
theorem law_core (a0 a1 a2 : Option Addr) (l0 l1 l2 c0 c1 c2 : Nat) (z0 z1 z2 : Nat → Bool) (s : Bool) (w : World) (hcap : l0 + l1 + l2 ≤ 1048576) (h0 : RowOf w a0 l0 z0) (h1 : RowOf w a1 l1 z1) (h2 : RowOf w a2 l2 z2) :
    Calls Yba.prog 4 #[.slice a0 l0 c0, .slice a1 l1 c1, .slice a2 l2 c2, .bool s] w fun e w' => e = .returned (.bool true) ∧ Below w.heap.size w w' := by
  have hmk := run_make_row' (P := Yba.prog) 45 46 (.pointer none) 8 Yba.underlying45 Yba.info46 rfl .i64 .i64 l0 (by omega) (by omega)
  have hd0 : decide ((1048576 : Int) < (l0 : Int) + l1 + l2) = false := decide_eq_false (by omega)
  go_enter Yba.func4, Yba.ntmps4
  go_wp2_with fail
  go_loopw [10, 11] (fun i r wr => ∃ k : Nat, k ≤ l0 ∧ i = .int .i64 k ∧ Laid w l0 l1 l2 z0 z1 z2 k wr) (fun i _ _ => l0 - (intOf i).toNat)
  case atStart => exact ⟨0, Nat.zero_le _, rfl, Laid.start w l0 l1 l2 z0 z1 z2⟩
  case round =>
    obtain ⟨k, hk, rfl, hL⟩ := hrel
    have g0 := h0.below hL.below
    have g1 := h1.below hL.below
    have g2 := h2.below hL.below
    by_cases hlt : k < l0
    · have hstep := hL.step hlt
      have hNs : ¬ w.heap.size = wr.heap.size := by have := hL.size; omega
      have hN : ∀ o, (wr.alloc o).cell? ⟨w.heap.size, k, none⟩ = some (.pointer none) := fun o => by
        have := (hL.row.alloc o).cell hlt
        simpa using this
      have hNf : ∀ o, (wr.alloc o).frozen? ⟨w.heap.size, k, none⟩ = false := fun o => (hL.row.alloc o).frozen k
      have HS : Hid (Laid w l0 l1 l2 z0 z1 z2 (k + 1) ((wr.alloc (.cells (rnd k (z0 k) (upTo l2 z2 k) (upTo l1 z1 k)) 58)).setCell ⟨w.heap.size, k, none⟩ (.pointer (some ⟨wr.heap.size, 0, none⟩)))) := hstep
      clear hstep hmk h0 h1 h2 hL
      obtain ⟨b, off, rfl, hbw, hc⟩ := g0 k hlt
      have hck := hc k hlt
      by_cases k1 : k < l1
      · obtain ⟨b1, off1, rfl, hbw1, hc1⟩ := g1 k k1
        have hck1 : ∀ o, (wr.alloc o).cell? ⟨b1, off1 + k, none⟩ = some (.bool (z1 k)) := cell_alloc_old hbw1 (hc1 k k1)
        by_cases k2 : k < l2
        · obtain ⟨b2, off2, rfl, hbw2, hc2⟩ := g2 k k2
          have hck2 : ∀ o, (wr.alloc o).cell? ⟨b2, off2 + k, none⟩ = some (.bool (z2 k)) := cell_alloc_old hbw2 (hc2 k k2)
          clear hc hc1 hc2 g0 g1 g2
          go_wp2_with fail
          go_roundw
          case rel => rw [upTo_pos k1, upTo_pos k2] at HS; exact ⟨k + 1, by omega, by go_num, HS⟩
          case measure => simp [intOf]; omega
        · clear hc hc1 g0 g1 g2
          go_wp2_with fail
          go_roundw
          case rel => rw [upTo_pos k1, upTo_neg k2] at HS; exact ⟨k + 1, by omega, by go_num, HS⟩
          case measure => simp [intOf]; omega
      · by_cases k2 : k < l2
        · obtain ⟨b2, off2, rfl, hbw2, hc2⟩ := g2 k k2
          have hck2 : ∀ o, (wr.alloc o).cell? ⟨b2, off2 + k, none⟩ = some (.bool (z2 k)) := cell_alloc_old hbw2 (hc2 k k2)
          clear hc hc2 g0 g1 g2
          go_wp2_with fail
          go_roundw
          case rel => rw [upTo_neg k1, upTo_pos k2] at HS; exact ⟨k + 1, by omega, by go_num, HS⟩
          case measure => simp [intOf]; omega
        · clear hc g0 g1 g2
          go_wp2_with fail
          go_roundw
          case rel => rw [upTo_neg k1, upTo_neg k2] at HS; exact ⟨k + 1, by omega, by go_num, HS⟩
          case measure => simp [intOf]; omega
    · obtain rfl : k = l0 := by omega
      obtain ⟨L, hLL⟩ : ∃ L, L = ptrs w.heap.size k := ⟨_, rfl⟩
      have HL : Hid (L = ptrs w.heap.size k) := hLL
      clear hLL
      go_wp2_with (refine wpList_copy_splice rfl (.tmp 81) (.tmp 82) 45 45 rfl 46 Yba.underlying45 Yba.size46 _ _ _ _ _ _ rfl rfl (wr.heap.size + 1) 0 (madeCells #[.pointer none] k).toList 46 ?qg L ?qn ?qpos ?qfit ?q1 (wr.heap.size + 1) (wr.alloc (drvO w.heap.size k s)) ?qb (Nat.le_refl _) ?_)
      case qg => rw [heap_second]
      case qn => rw [HL.out, ptrs_length]; simp
      case qpos =>
        intro h0 j v hv
        rw [HL.out] at hv
        obtain ⟨hj, rfl⟩ := ptrs_at _ _ _ _ hv
        have hc := ((hL.row.alloc (drvO w.heap.size k s)).alloc (.cells (madeCells #[.pointer none] k) 46)).cell hj
        rw [if_pos hj] at hc
        exact hc
      case qfit => rw [HL.out, ptrs_length]; simp [size_madeCells]
      case q1 => rw [HL.out]; exact ptrs_one _ _
      case qb => exact (Below.refl _ _).alloc (by simp) _
      intro w2 HG hB2
      obtain ⟨hR, hB⟩ := hL.ready (Z := (madeCells #[.pointer none] k).toList) (by simp [size_madeCells]) (by rw [← HL.out]; exact HG.out) hB2
      clear HG hB2 HL g0 g1 g2
      have g0 := h0.below hB
      have g1 := h1.below hB
      have g2 := h2.below hB
      clear h0 h1 h2 hL hmk
      have HB : Hid (Below w.heap.size w w2) := hB
      clear hB
      obtain ⟨D, hD⟩ : ∃ D, D = wr.heap.size := ⟨_, rfl⟩
      rw [← hD] at hR ⊢
      clear hD
      go_wp2_with fail
      go_loop [15, 16] (fun c i => ∃ m : Nat, m ≤ k ∧ i = .int .i64 m ∧ c = .int .i64 (cnt z0 m)) (fun _ i => k - (intOf i).toNat)
      case atStart => exact ⟨0, Nat.zero_le _, rfl, rfl⟩
      case round =>
        obtain ⟨m, hm, rfl, rfl⟩ := hrel
        have hcl := cnt_le z0 m
        by_cases hlt2 : m < k
        · obtain ⟨b, off, rfl, hbw, hc⟩ := g0 m hlt2
          have hck := hc m hlt2
          clear hR g1 g2 hc g0
          go_wp2_with fail
          · go_round
            case rel => exact ⟨m + 1, by omega, by go_num, cnt_hit ‹_›⟩
            case measure => simp [intOf]; omega
          · go_round
            case rel => exact ⟨m + 1, by omega, by go_num, cnt_miss ‹_›⟩
            case measure => simp [intOf]; omega
        · obtain rfl : m = k := by omega
          have hne := any_ne z0 m
          have d3 := hR.d3
          have d6 := hR.d6
          go_wp2_with (go_at_call 15; refine (begun_any D w.heap.size m z0 w2 (by omega) hR.d3 hR.row hR.begun).mono ?_; rintro e w' ⟨rfl, rfl⟩)
          clear hne
          go_loopw [18] (fun i wx => ∃ j : Nat, j ≤ m ∧ i = .int .i64 j ∧ ∃ n, wx = w2.drewN n) (fun i _ => m - (intOf i).toNat)
          case atStart => exact ⟨0, Nat.zero_le _, rfl, 0, rfl⟩
          case round =>
            obtain ⟨j, hj, rfl, n, rfl⟩ := hrel
            have hne46 := Yba.neq46
            by_cases hlt3 : j < m
            · obtain ⟨b, off, rfl, hbw, hc⟩ := g0 j hlt3
              have hcj := hc j hlt3
              have q1 := hR.row j hlt3
              have q2 := hR.saved j hlt3
              have q3 := hR.index j hlt3
              have q4 := hR.session j hlt3
              have q5 := hR.begun j hlt3
              have q6 := hR.late j hlt3
              have q7 := hR.done j hlt3
              clear hR hc g0
              have hji : (j : Int) < (m : Int) := by omega
              by_cases k1 : j < l1
              · obtain ⟨b1, off1, rfl, hbw1, hc1⟩ := g1 j k1
                have hck1 := hc1 j k1
                rw [upTo_pos k1] at q7
                have hj1 : (j : Int) < (l1 : Int) := by omega
                clear hc1 g1
                by_cases k2 : j < l2
                · obtain ⟨b2, off2, rfl, hbw2, hc2⟩ := g2 j k2
                  have hck2 := hc2 j k2
                  rw [upTo_pos k2] at q6
                  have hj2 : (j : Int) < (l2 : Int) := by omega
                  clear hc2 g2
                  go_wp2_with fail
                  go_quiet (fail)
                  go_wp2_with fail
                  go_quiet (fail)
                  go_wp2_with fail
                  go_quiet (fail)
                  go_wp2_with fail
                  go_roundw
                  case rel => exact ⟨j + 1, by omega, by go_num, _, rfl⟩
                  case measure => simp [intOf]; omega
                · have hj2 : decide ((j : Int) < (l2 : Int)) = false := decide_eq_false (by omega)
                  clear g2
                  go_wp2_with fail
                  go_quiet (fail)
                  go_wp2_with fail
                  go_quiet (fail)
                  go_wp2_with fail
                  go_quiet (fail)
                  go_wp2_with fail
                  go_roundw
                  case rel => exact ⟨j + 1, by omega, by go_num, _, rfl⟩
                  case measure => simp [intOf]; omega
              · have hj1 : decide ((j : Int) < (l1 : Int)) = false := decide_eq_false (by omega)
                clear g1
                by_cases k2 : j < l2
                · obtain ⟨b2, off2, rfl, hbw2, hc2⟩ := g2 j k2
                  have hck2 := hc2 j k2
                  rw [upTo_pos k2] at q6
                  have hj2 : (j : Int) < (l2 : Int) := by omega
                  clear hc2 g2
                  go_wp2_with fail
                  go_quiet (fail)
                  go_wp2_with fail
                  go_quiet (fail)
                  go_wp2_with fail
                  go_quiet (fail)
                  go_wp2_with fail
                  go_roundw
                  case rel => exact ⟨j + 1, by omega, by go_num, _, rfl⟩
                  case measure => simp [intOf]; omega
                · have hj2 : decide ((j : Int) < (l2 : Int)) = false := decide_eq_false (by omega)
                  clear g2
                  go_wp2_with fail
                  go_quiet (fail)
                  go_wp2_with fail
                  go_quiet (fail)
                  go_wp2_with fail
                  go_quiet (fail)
                  go_wp2_with fail
                  go_roundw
                  case rel => exact ⟨j + 1, by omega, by go_num, _, rfl⟩
                  case measure => simp [intOf]; omega
            · go_wp2
              go_ret
              exact ⟨rfl, (HB.out).trans ⟨rfl, rfl, rfl, Nat.le_refl _, fun _ _ => rfl⟩⟩

set_option maxRecDepth 100000 in
/-- More than 2^20 flags: the law does not look. -/
theorem law_big (a0 a1 a2 : Option Addr) (l0 l1 l2 c0 c1 c2 : Nat) (s : Bool) (w : World) (h : 1048576 < l0 + l1 + l2) (b0 : l0 ≤ 140737488351232) (b1 : l1 ≤ 140737488351232) (b2 : l2 ≤ 140737488351232) :
    Calls Yba.prog 4 #[.slice a0 l0 c0, .slice a1 l1 c1, .slice a2 l2 c2, .bool s] w fun e w' => e = .returned (.bool true) ∧ Below w.heap.size w w' := by
  have hd0 : (1048576 : Int) < (l0 : Int) + l1 + l2 := by omega
  go_enter Yba.func4, Yba.ntmps4
  go_wp2
  go_ret
  exact ⟨rfl, Below.refl _ _⟩
end Go.Proofs.Ybulkeovy
